import Derived.Test.Qxb6623293aWalkE
import Derived.Test.Qxb6623293aPlain3
import Derived.Deep.DeepCutAuto
namespace Go.Proofs.Qxb6623293a
open Go.RowKit
set_option linter.unusedVariables false

theorem Try.info21 : (Try.prog.info? 21).map (fun i => (i.zero, i.size, i.bytes)) = some (some (.int .i32 0), 1, 4) := by kernel_rfl
theorem Try.info4 : (Try.prog.info? 4).map (fun i => (i.zero, i.size, i.bytes)) = some (some (.bool false), 1, 1) := by kernel_rfl
theorem Try.info33 : (Try.prog.info? 33).map (fun i => (i.zero, i.size, i.bytes)) = some (some (.agg #[.int .i32 0, .int .u64 0, .int .u64 0, .bool false, .bool false]), 5, 32) := by kernel_rfl

/-- a frame's five cells -/
def frc (f : Pl.Fr) : List Value := [.int .i32 f.node, .int .u64 f.lo, .int .u64 f.hi, .bool f.hl, .bool f.hh]
def nodes (V : List Pl.Fr) : List Value := V.map fun f => .int .i32 f.node
def frames (S : List Pl.Fr) : List Value := S.flatMap frc

theorem frames_append (S T : List Pl.Fr) : frames (S ++ T) = frames S ++ frames T := by simp [frames]
theorem frames_one (f : Pl.Fr) : frames [f] = frc f := by simp [frames]
theorem frames_length (S : List Pl.Fr) : (frames S).length = S.length * 5 := by
  induction S with
  | nil => rfl
  | cons f S ih => rw [show f :: S = [f] ++ S from rfl, frames_append, List.length_append, ih, frames_one]; simp [frc]; omega

/-- the memory of the search: br: what is reached, bs: the marks, bk: the stack -/
structure DS (w : World) (H br bs bk nt : Nat) (V S : List Pl.Fr) (sn : List Bool) : Prop where
  rv : w.ownsRow H 21 1 (.slice (some ⟨br, 0, none⟩) V.length nt) V.length (nodes V)
  st : w.ownsRow H 33 5 (.slice (some ⟨bk, 0, none⟩) S.length nt) S.length (frames S)
  sc : ∀ j, j < nt → w.cell? ⟨bs, j, none⟩ = some (.bool (sn.getD j false))
  sf : ∀ j, j < nt → w.frozen? ⟨bs, j, none⟩ = false
  l0 : H ≤ br
  l1 : br < bs
  l2 : bs < bk
  l3 : bk < w.heap.size

section
variable {w : World} {H br bs bk nt : Nat} {V S : List Pl.Fr} {sn : List Bool}

theorem DS.keep {w' : World} (h : DS w H br bs bk nt V S sn) (g : w.grownBy w' none) : DS w' H br bs bk nt V S sn := by
  have e : ∀ o, w'.cell? ⟨bs, o, none⟩ = w.cell? ⟨bs, o, none⟩ := fun o => World.cell?_of_block (g.block bs (by have := h.l3; have := h.l2; omega) (by simp))
  have e' : ∀ o, w'.frozen? ⟨bs, o, none⟩ = w.frozen? ⟨bs, o, none⟩ := fun o => World.frozen?_of_block (g.block bs (by have := h.l3; have := h.l2; omega) (by simp))
  exact ⟨h.rv.kept g (.inr (by simp [Value.ownBlock])), h.st.kept g (.inr (by simp [Value.ownBlock])), fun j hj => (e j).trans (h.sc j hj), fun j hj => (e' j).trans (h.sf j hj), h.l0, h.l1, h.l2, Nat.lt_of_lt_of_le h.l3 g.size⟩

theorem DS.alloc (h : DS w H br bs bk nt V S sn) (o : Obj) : DS (w.alloc o) H br bs bk nt V S sn := h.keep (World.grownBy_alloc w o none)

theorem DS.pop {f : Pl.Fr} (h : DS w H br bs bk nt V (S ++ [f]) sn) : DS w H br bs bk nt V S sn := by
  refine ⟨h.rv, ?_, h.sc, h.sf, h.l0, h.l1, h.l2, h.l3⟩
  have q := h.st
  rw [List.length_append, frames_append] at q
  exact ownsRow_pop (frames_length S) q

theorem DS.top {f : Pl.Fr} (h : DS w H br bs bk nt V (S ++ [f]) sn) :
    w.cell? ⟨bk, S.length * 5, none⟩ = some (.int .i32 f.node) ∧ w.cell? ⟨bk, S.length * 5 + 1, none⟩ = some (.int .u64 f.lo) ∧ w.cell? ⟨bk, S.length * 5 + 2, none⟩ = some (.int .u64 f.hi)
      ∧ w.cell? ⟨bk, S.length * 5 + 3, none⟩ = some (.bool f.hl) ∧ w.cell? ⟨bk, S.length * 5 + 4, none⟩ = some (.bool f.hh) := by
  have key : ∀ i, i < 5 → w.cell? ⟨bk, S.length * 5 + i, none⟩ = (frc f)[i]? := by
    intro i hi
    rw [h.st.cellAt _ (by simp; omega), frames_append, frames_one, List.getElem?_append_right (by rw [frames_length]; omega), frames_length]
    congr 1; omega
  exact ⟨key 0 (by omega), key 1 (by omega), key 2 (by omega), key 3 (by omega), key 4 (by omega)⟩

theorem DS.reach {w' : World} {f : Pl.Fr} (h : DS w H br bs bk nt V S sn) (g : w.grownBy w' (some br)) (q : w'.ownsRow H 21 1 (.slice (some ⟨br, 0, none⟩) (V.length + 1) nt) (V.length + 1) (nodes V ++ [.int .i32 f.node])) :
    DS w' H br bs bk nt (V ++ [f]) S sn := by
  have h1 := h.l1; have h2 := h.l2; have h3 := h.l3
  have e : ∀ o, w'.cell? ⟨bs, o, none⟩ = w.cell? ⟨bs, o, none⟩ := fun o => World.cell?_of_block (g.block bs (by omega) (by simp; omega))
  have e' : ∀ o, w'.frozen? ⟨bs, o, none⟩ = w.frozen? ⟨bs, o, none⟩ := fun o => World.frozen?_of_block (g.block bs (by omega) (by simp; omega))
  refine ⟨?_, h.st.kept g (.inr (by simp [Value.ownBlock]; omega)), fun j hj => (e j).trans (h.sc j hj), fun j hj => (e' j).trans (h.sf j hj), h.l0, h.l1, h.l2, Nat.lt_of_lt_of_le h.l3 g.size⟩
  rw [List.length_append]
  simpa [nodes] using q

theorem DS.push {w' : World} {f : Pl.Fr} (h : DS w H br bs bk nt V S sn) (g : w.grownBy w' (some bk)) (q : w'.ownsRow H 33 5 (.slice (some ⟨bk, 0, none⟩) (S.length + 1) nt) (S.length + 1) (frames S ++ frc f)) :
    DS w' H br bs bk nt V (S ++ [f]) sn := by
  have h1 := h.l1; have h2 := h.l2; have h3 := h.l3
  have e : ∀ o, w'.cell? ⟨bs, o, none⟩ = w.cell? ⟨bs, o, none⟩ := fun o => World.cell?_of_block (g.block bs (by omega) (by simp; omega))
  have e' : ∀ o, w'.frozen? ⟨bs, o, none⟩ = w.frozen? ⟨bs, o, none⟩ := fun o => World.frozen?_of_block (g.block bs (by omega) (by simp; omega))
  refine ⟨h.rv.kept g (.inr (by simp [Value.ownBlock]; omega)), ?_, fun j hj => (e j).trans (h.sc j hj), fun j hj => (e' j).trans (h.sf j hj), h.l0, h.l1, h.l2, Nat.lt_of_lt_of_le h.l3 g.size⟩
  rw [List.length_append, frames_append, frames_one]
  exact q

theorem DS.mark (h : DS w H br bs bk nt V S sn) (c : Nat) (hc : c < nt) (hsn : sn.length = nt) : DS (w.setCell ⟨bs, c, none⟩ (.bool true)) H br bs bk nt V S (sn.set c true) := by
  have h1 := h.l1; have h2 := h.l2; have h3 := h.l3
  have g : w.grownBy (w.setCell ⟨bs, c, none⟩ (.bool true)) (some bs) := ⟨rfl, rfl, rfl, by simp, fun k hk hne => Below.heap_setCell w _ _ k (by intro e; exact hne (by rw [e]))⟩
  refine ⟨h.rv.kept g (.inr (by simp [Value.ownBlock]; omega)), h.st.kept g (.inr (by simp [Value.ownBlock]; omega)), fun j hj => ?_, fun j hj => ?_, h.l0, h.l1, h.l2, by simpa using h.l3⟩
  · by_cases e : c = j
    · subst e
      rw [World.cell?_setCell_same _ _ _ (h.sc c hj)]
      simp [List.getD_eq_getElem?_getD, hsn, hj]
    · rw [cell_set_off _ _ _ _ _ e, h.sc j hj]
      simp [List.getD_eq_getElem?_getD, e]
  · rw [World.frozen?_setCell]; exact h.sf j hj
end

theorem made_bool {w : World} {base g n : Nat} (h : w.ownsRow base 4 1 (.slice (some ⟨g, 0, none⟩) n n) n (madeCells (Value.bool false).cells (n * 1)).toList) (j : Nat) (hj : j < n) : w.cell? ⟨g, j, none⟩ = some (.bool false) := by
  rw [h.cellAt j (by omega), show (Value.bool false).cells = #[Value.bool false] from rfl, toList_madeCells_one]
  simp [hj]

theorem cell_frc_new (w : World) (f : Pl.Fr) (t : TypeId) : ∀ j u, (frc f)[j]? = some u → (w.alloc (.cells #[.int .i32 f.node, .int .u64 f.lo, .int .u64 f.hi, .bool f.hl, .bool f.hh] t)).cell? ((⟨w.heap.size, 0, none⟩ : Addr).add j) = some u := by
  intro j u hj
  match j, hj with
  | 0, hj => simp [frc] at hj; subst hj; simp [Addr.add]
  | 1, hj => simp [frc] at hj; subst hj; simp [Addr.add]
  | 2, hj => simp [frc] at hj; subst hj; simp [Addr.add]
  | 3, hj => simp [frc] at hj; subst hj; simp [Addr.add]
  | 4, hj => simp [frc] at hj; subst hj; simp [Addr.add]
  | j + 5, hj => simp [frc] at hj

theorem frc_one (f : Pl.Fr) : ∀ u, u ∈ frc f → u.oneCell' = true := by
  intro u hu
  simp only [frc, List.mem_cons, List.not_mem_nil, or_false] at hu
  rcases hu with rfl | rfl | rfl | rfl | rfl <;> rfl

theorem DS.start {w w1 w2 w3 : World} {H nt rk : Nat} (hrk : rk < nt) (hH : H = w.heap.size)
    (o1 : w1.ownsRow H 21 1 (.slice (some ⟨w.heap.size, 0, none⟩) 0 nt) 0 []) (g1 : w.grownBy w1 none)
    (o2 : w2.ownsRow H 4 1 (.slice (some ⟨w1.heap.size, 0, none⟩) nt nt) nt (madeCells (Value.bool false).cells (nt * 1)).toList) (g2 : w1.grownBy w2 none)
    (o3 : w3.ownsRow H 33 5 (.slice (some ⟨w2.heap.size, 0, none⟩) 0 nt) 0 []) (g3 : (w2.setCell ⟨w1.heap.size, rk, none⟩ (.bool true)).grownBy w3 none) :
    DS w3 H w.heap.size w1.heap.size w2.heap.size nt [] [] ((List.replicate nt false).set rk true) := by
  have h1 := own_lt o1
  have h2 := own_lt o2
  have h3 := own_lt o3
  have gm : w2.grownBy (w2.setCell ⟨w1.heap.size, rk, none⟩ (.bool true)) (some w1.heap.size) := ⟨rfl, rfl, rfl, by simp, fun k hk hne => Below.heap_setCell w2 _ _ k (by intro e; exact hne (by rw [e]))⟩
  have o1' := ((o1.kept g2 (.inr (by simp [Value.ownBlock]))).kept gm (.inr (by simp [Value.ownBlock]; omega))).kept g3 (.inr (by simp [Value.ownBlock]))
  refine ⟨o1', o3, fun j hj => ?_, fun j hj => ?_, by omega, h1, h2, h3⟩
  · have e : w3.cell? ⟨w1.heap.size, j, none⟩ = (w2.setCell ⟨w1.heap.size, rk, none⟩ (.bool true)).cell? ⟨w1.heap.size, j, none⟩ := World.cell?_of_block (g3.block w1.heap.size (by simpa using h2) (by simp))
    rw [e]
    by_cases ej : rk = j
    · subst ej
      rw [World.cell?_setCell_same _ _ _ (made_bool o2 rk hj)]
      simp [List.getD_eq_getElem?_getD, hj]
    · rw [cell_set_off _ _ _ _ _ ej, made_bool o2 j hj]
      simp [List.getD_eq_getElem?_getD, ej, hj]
  · have e : w3.frozen? ⟨w1.heap.size, j, none⟩ = (w2.setCell ⟨w1.heap.size, rk, none⟩ (.bool true)).frozen? ⟨w1.heap.size, j, none⟩ := World.frozen?_of_block (g3.block w1.heap.size (by simpa using h2) (by simp))
    rw [e, World.frozen?_setCell]
    exact o2.frozenAt j
/-- the frame that was taken off the stack, in its box -/
structure BX (w : World) (F : Nat) (f : Pl.Fr) : Prop where
  c1 : w.cell? ⟨F, 1, none⟩ = some (.int .u64 f.lo)
  c2 : w.cell? ⟨F, 2, none⟩ = some (.int .u64 f.hi)
  c3 : w.cell? ⟨F, 3, none⟩ = some (.bool f.hl)
  c4 : w.cell? ⟨F, 4, none⟩ = some (.bool f.hh)

theorem BX.grown {w w' : World} {F : Nat} {f : Pl.Fr} {row : Option Nat} (h : BX w F f) (g : w.grownBy w' row) (hr : some F ≠ row) : BX w' F f :=
  ⟨g.cell h.c1 hr, g.cell h.c2 hr, g.cell h.c3 hr, g.cell h.c4 hr⟩

theorem BX.new (w : World) (f : Pl.Fr) : BX (w.alloc (.cells #[.int .i32 f.node, .int .u64 f.lo, .int .u64 f.hi, .bool f.hl, .bool f.hh] 33)) w.heap.size f :=
  ⟨by simp [go_sem], by simp [go_sem], by simp [go_sem], by simp [go_sem]⟩

theorem grown_setCell (w : World) (b o : Nat) (v : Value) : w.grownBy (w.setCell ⟨b, o, none⟩ v) (some b) :=
  ⟨rfl, rfl, rfl, by simp, fun k hk hne => Below.heap_setCell w _ _ k (by intro e; exact hne (by rw [e]))⟩

theorem one_int (n : Int) : ∀ u, u ∈ [Value.int .i32 n] → u.oneCell' = true := by
  intro u hu; simp at hu; subst hu; rfl

theorem cell_one_at (w : World) (x : Value) (t : TypeId) (k : Nat) (hk : k = w.heap.size) : ∀ j u, [x][j]? = some u → (w.alloc (.cells #[x] t)).cell? ((⟨k, 0, none⟩ : Addr).add j) = some u := by
  subst hk
  intro j u hj
  match j, hj with
  | 0, hj => simp at hj; subst hj; simp [Addr.add]

theorem cell_frc_at (w : World) (f : Pl.Fr) (t : TypeId) (k : Nat) (hk : k = w.heap.size) : ∀ j u, (frc f)[j]? = some u → (w.alloc (.cells #[.int .i32 f.node, .int .u64 f.lo, .int .u64 f.hi, .bool f.hl, .bool f.hh] t)).cell? ((⟨k, 0, none⟩ : Addr).add j) = some u := by
  subst hk
  exact cell_frc_new w f t
end Go.Proofs.Qxb6623293a
