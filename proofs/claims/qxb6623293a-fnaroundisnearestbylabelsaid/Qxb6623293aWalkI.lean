import Derived.Test.Qxb6623293aWalkF
import Derived.Test.Qxb6623293aWalkH
import Derived.Laws.CopyOwn
namespace Go.Proofs.Qxb6623293a
open Go.RowKit
set_option linter.unusedVariables false

/-- a copy of the numbers zs, or nil -/
def CP (k : IntKind) (w : World) (a : Option Addr) (zs : List Int) : Prop :=
  (a = none ∧ zs = []) ∨ ∃ b, a = some ⟨b, 0, none⟩ ∧ b < w.heap.size ∧ ∀ j, j < zs.length → w.cell? ⟨b, j, none⟩ = some (.int k (zs.getD j 0))

theorem CP.keep {k : IntKind} {w w' : World} {a : Option Addr} {zs : List Int} (h : CP k w a zs) (hb : Below w.heap.size w w') : CP k w' a zs := by
  rcases h with h | ⟨b, h1, h2, h3⟩
  · exact .inl h
  · exact .inr ⟨b, h1, Nat.lt_of_lt_of_le h2 hb.size, fun j hj => (hb.cell h2).trans (h3 j hj)⟩

theorem CP.pos {k : IntKind} {w : World} {a : Option Addr} {zs : List Int} (h : CP k w a zs) (h0 : 0 < zs.length) : ∃ b, a = some ⟨b, 0, none⟩ ∧ b < w.heap.size ∧ ∀ j, j < zs.length → w.cell? ⟨b, j, none⟩ = some (.int k (zs.getD j 0)) := by
  rcases h with ⟨_, rfl⟩ | h
  · simp at h0
  · exact h

/-- the numbers zs, as they came in -/
def Src (k : IntKind) (w : World) (a : Option Addr) (zs : List Int) : Prop :=
  (a = none ∧ zs = []) ∨ ∃ x, a = some x ∧ ∀ j, j < zs.length → w.cell? (x.add j) = some (.int k (zs.getD j 0))

theorem Src.keep {k : IntKind} {w w' : World} {a : Option Addr} {zs : List Int} (h : Src k w a zs) (hb : Below w.heap.size w w') : Src k w' a zs := by
  rcases h with h | ⟨x, h1, h2⟩
  · exact .inl h
  · exact .inr ⟨x, h1, fun j hj => (hb.cell (World.block_lt_of_cell? w _ (h2 j hj))).trans (h2 j hj)⟩

theorem Src.cells {k : IntKind} {w : World} {x : Addr} {zs : List Int} (h : Src k w (some x) zs) : ∀ j v, (zs.map (Value.int k))[j]? = some v → w.cell? (x.add j) = some v := by
  intro j v hj
  rcases h with ⟨h, _⟩ | ⟨x', h, hc⟩
  · cases h
  · cases h
    have hl : j < zs.length := by
      have := (List.getElem?_eq_some_iff.1 hj).1
      simpa using this
    rw [hc j hl]
    simp [hl] at hj
    simp [List.getD_eq_getElem?_getD, hl, hj]

theorem own_cur {w : World} {base e g n : Nat} {xs : List Value} (h : w.ownsRow base e 1 (.slice (some ⟨g, 0, none⟩) n n) n xs) : ∃ cur : List Value, cur.length = n ∧ w.heap[g]? = some (.cells cur.toArray e (0, 0)) := by
  rcases h.2 with ⟨h', _⟩ | ⟨g', cap', cur, h', _, hg, _, _, hs, _⟩
  · simp at h'
  · simp only [Value.slice.injEq, Option.some.injEq, Addr.mk.injEq, and_true, true_and] at h'
    obtain ⟨rfl, rfl⟩ := h'
    exact ⟨cur.toList, by simpa using hs, by simpa using hg⟩

theorem splice_all {α : Type} (cur cs : List α) (h : cs.length = cur.length) : splice cur 0 cs = cs := by
  unfold splice
  simp
  omega

theorem CP.copied {k : IntKind} {w : World} {g e : Nat} {cur : List Value} {zs : List Int} (hl : zs.length = cur.length) (hg : w.heap[g]? = some (.cells (splice cur 0 (zs.map (Value.int k))).toArray e (0, 0))) : CP k w (some ⟨g, 0, none⟩) zs := by
  rw [splice_all _ _ (by simpa using hl)] at hg
  refine .inr ⟨g, rfl, (Array.getElem?_eq_some_iff.1 hg).1, fun j hj => ?_⟩
  simp [World.cell?, hg, hj]

theorem map_one (k : IntKind) (zs : List Int) : ∀ v, v ∈ zs.map (Value.int k) → v.oneCell' = true := by
  intro v hv
  rw [List.mem_map] at hv
  obtain ⟨z, _, rfl⟩ := hv
  rfl

theorem copy_run {k : IntKind} (t e : TypeId) (hu : Try.prog.underlying t = some (.slice e)) (hsz : (Try.prog.info? e).map (·.size) = some 1) {w0 w1 : World} {B g n : Nat} (d : Nat) {x : Addr} {zs : List Int} {xs : List Value} (hn : zs.length = n)
    (hown : w1.ownsRow B e 1 (.slice (some ⟨g, 0, none⟩) n n) n xs) (hs : Src k w1 (some x) zs) (hb : Below B w0 w1) (hB : B ≤ g) :
    ∃ w2, (Builtin.copy_ #[t, t] 3 #[.slice (some ⟨g, 0, none⟩) n n, .slice (some x) n d]).run Try.prog w1 = .ok (.int .i64 n) w2 ∧ CP k w2 (some ⟨g, 0, none⟩) zs ∧ Below B w0 w2 := by
  obtain ⟨cur, hc, hg⟩ := own_cur hown
  have hrun := run_copy_row (P := Try.prog) w1 t t 3 e g 0 n n x n d cur.toArray e (zs.map (Value.int k)) hu hsz hg (by simp [hn]) hs.cells (by simp; omega) (map_one k zs)
  rw [show goInt ((zs.map (Value.int k)).length : Nat) = .int .i64 n from by simp [goInt, hn]] at hrun
  refine ⟨_, hrun, ?_, below_setRow hb hB _⟩
  · exact CP.copied (cur := cur) (by omega) (by simpa [splice] using setRow_heap w1 g _ _ e _ hg)

/-- all that 'aroundDomain' asks ahead of its search -/
def D (P X L R : List Int) (first rest e : Int) : Prop :=
  L.length = X.length ∧ R.length = X.length ∧ 0 ≤ e ∧ e < P.length ∧ 0 ≤ first ∧ first < P.length ∧ 0 ≤ rest ∧ rest < X.length

def fits (zs : List Int) : Prop := ∀ k, -2147483648 ≤ zs.getD k 0 ∧ zs.getD k 0 ≤ 2147483647

def DomPost2 (P X L R : List Int) (first rest e : Int) (w : World) (r : Ending) (w' : World) : Prop :=
  Below w.heap.size w w' ∧ ∃ v ok, r = .returned (.tuple #[v, .bool ok]) ∧ (ok = true → D P X L R first rest e ∧ ∃ V, Pl.Closed P X L R first rest V ∧ V.length ≤ X.length ∧
    ∃ g, v = .slice (some ⟨g, 0, none⟩) V.length X.length ∧ g < w'.heap.size ∧ ∀ j, j < V.length → w'.cell? ⟨g, j, none⟩ = some (.int .i32 ((V.map fun f => f.node).getD j 0)))

theorem dom_any (a0 a1 a2 a3 : Option Addr) (c0 c1 c2 c3 : Nat) (P X L R : List Int) (first rest e : Int) (w : World)
    (h0 : CP .u64 w a0 P) (h1 : CP .i32 w a1 X) (h2 : CP .i32 w a2 L) (h3 : CP .i32 w a3 R)
    (n0 : P.length ≤ 32768) (n1 : X.length ≤ 32768) (n2 : L.length ≤ 32768) (n3 : R.length ≤ 32768)
    (xw : fits X) (lw : fits L) (rw' : fits R)
    (wf : -2147483648 ≤ first ∧ first ≤ 2147483647) (wr : -2147483648 ≤ rest ∧ rest ≤ 2147483647) (we : -2147483648 ≤ e ∧ e ≤ 2147483647) :
    Calls Try.prog 5 #[.slice a0 P.length c0, .slice a1 X.length c1, .slice a2 L.length c2, .slice a3 R.length c3, .int .i32 first, .int .i32 rest, .int .i32 e] w
      (DomPost2 P X L R first rest e w) := by
  by_cases hD : D P X L R first rest e
  · obtain ⟨e1, e2, e3, e4, e5, e6, e7, e8⟩ := id hD
    obtain ⟨b0, rfl, q0, p0⟩ := h0.pos (by omega)
    obtain ⟨b1, rfl, q1, p1⟩ := h1.pos (by omega)
    obtain ⟨b2, rfl, q2, p2⟩ := h2.pos (by omega)
    obtain ⟨b3, rfl, q3, p3⟩ := h3.pos (by omega)
    rw [e1] at p2 ⊢
    rw [e2] at p3 ⊢
    obtain ⟨fk, rfl⟩ := Int.eq_ofNat_of_zero_le e5
    obtain ⟨rk, rfl⟩ := Int.eq_ofNat_of_zero_le e7
    have key : Calls Try.prog 5 #[.slice (some ⟨b0, 0, none⟩) P.length c0, .slice (some ⟨b1, 0, none⟩) X.length c1, .slice (some ⟨b2, 0, none⟩) X.length c2, .slice (some ⟨b3, 0, none⟩) X.length c3, .int .i32 fk, .int .i32 rk, .int .i32 e] w
        (DomPost P X L R fk rk X.length w) := by
      by_cases hr : rk = 0
      · subst hr
        exact dom_zero b0 b1 b2 b3 P.length X.length c0 c1 c2 c3 P X L R fk e w n0 n1 (by omega) e5 e6 e3 e4
      · exact dom_pos b0 b1 b2 b3 P.length X.length c0 c1 c2 c3 P X L R fk rk e w p0 p1 p2 p3 q0 q1 q2 q3 xw lw rw' n0 n1 rfl rfl (by omega) e3 e4 (by omega) (by omega)
    refine key.mono ?_
    rintro r w' ⟨hb, v, ok, rfl, hok⟩
    refine ⟨hb, v, ok, rfl, fun t => ⟨hD, ?_⟩⟩
    obtain ⟨V, hc, hl, g, hv, hg, _, hcell⟩ := hok t
    exact ⟨V, hc, hl, g, hv, hg, hcell⟩
  · refine (dom_no a0 a1 a2 a3 P.length c0 X.length c1 L.length c2 R.length c3 first rest e w n0 n1 n2 n3 wf wr we hD).mono ?_
    rintro r w' ⟨rfl, rfl⟩
    exact ⟨Below.refl _ _, _, _, rfl, fun h => by cases h⟩
end Go.Proofs.Qxb6623293a
