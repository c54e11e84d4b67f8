import Derived.Test.Qxb6623398aWalkA
import Derived.Deep.DeepCutAuto
import Derived.Maps.AppendAt
namespace Go.Proofs.Qxb6623398a
open Go.RowKit
set_option linter.unusedVariables false

theorem Try.info9 : (Try.prog.info? 9).map (fun i => (i.zero, i.size, i.bytes)) = some (some (.string ByteArray.empty), 1, 16) := by kernel_rfl
theorem Try.size9 : (Try.prog.info? 9).map (·.size) = some 1 := by kernel_rfl

def strs (l : List ByteArray) : List Value := l.map Value.string

/-- a copy of the strings, or nil -/
def CP (w : World) (a : Option Addr) (ss : List ByteArray) : Prop :=
  (a = none ∧ ss = []) ∨ ∃ b, a = some ⟨b, 0, none⟩ ∧ b < w.heap.size ∧ ∀ j, j < ss.length → w.cell? ⟨b, j, none⟩ = some (.string (ss.getD j ByteArray.empty))

/-- the strings as they came in -/
def Src (w : World) (a : Option Addr) (ss : List ByteArray) : Prop :=
  (a = none ∧ ss = []) ∨ ∃ x, a = some x ∧ ∀ j, j < ss.length → w.cell? (x.add j) = some (.string (ss.getD j ByteArray.empty))

theorem Src.at' {w : World} {a : Option Addr} {ss : List ByteArray} (h : Src w a ss) : At w a ss := by
  intro h0
  rcases h with ⟨_, rfl⟩ | ⟨x, rfl, hc⟩
  · simp at h0
  · obtain ⟨b, off, spot⟩ := x
    have hspot : spot = none := by simpa [Addr.add] using World.cell?_spot (hc 0 h0)
    subst hspot
    exact ⟨b, off, rfl, fun j hj => by rw [← Go.WideShapes.add_plain]; exact hc j hj⟩

theorem Src.keep {w w' : World} {a : Option Addr} {zs : List ByteArray} (h : Src w a zs) (hb : Below w.heap.size w w') : Src w' a zs := by
  rcases h with h | ⟨x, h1, h2⟩
  · exact .inl h
  · exact .inr ⟨x, h1, fun j hj => (hb.cell (World.block_lt_of_cell? w _ (h2 j hj))).trans (h2 j hj)⟩

theorem Src.cells {w : World} {x : Addr} {zs : List ByteArray} (h : Src w (some x) zs) : ∀ j v, (strs zs)[j]? = some v → w.cell? (x.add j) = some v := by
  intro j v hj
  rcases h with ⟨h, _⟩ | ⟨x', h, hc⟩
  · cases h
  · cases h
    have hl : j < zs.length := by
      have := (List.getElem?_eq_some_iff.1 hj).1
      simpa [strs] using this
    rw [hc j hl]
    simp [strs, hl] at hj
    simp [List.getD_eq_getElem?_getD, hl, hj]

theorem own_lt {w : World} {base e size g n cap : Nat} {xs : List Value} (h : w.ownsRow base e size (.slice (some ⟨g, 0, none⟩) n cap) n xs) : g < w.heap.size := by
  rcases h.2 with ⟨h', _⟩ | ⟨g', cap', cur, h', _, hg, _⟩
  · simp at h'
  · simp only [Value.slice.injEq, Option.some.injEq, Addr.mk.injEq, and_true, true_and] at h'
    obtain ⟨rfl, rfl⟩ := h'
    exact (Array.getElem?_eq_some_iff.1 hg).1

theorem own_cur {w : World} {base e g n : Nat} {xs : List Value} (h : w.ownsRow base e 1 (.slice (some ⟨g, 0, none⟩) n n) n xs) : ∃ cur : List Value, cur.length = n ∧ w.heap[g]? = some (.cells cur.toArray e (0, 0)) := by
  rcases h.2 with ⟨h', _⟩ | ⟨g', cap', cur, h', _, hg, _, _, hs, _⟩
  · simp at h'
  · simp only [Value.slice.injEq, Option.some.injEq, Addr.mk.injEq, and_true, true_and] at h'
    obtain ⟨rfl, rfl⟩ := h'
    exact ⟨cur.toList, by simpa using hs, by simpa using hg⟩

theorem splice_all {α : Type} (cur cs : List α) (h : cs.length = cur.length) : splice cur 0 cs = cs := by
  unfold splice
  simp
  omega

theorem CP.copied {w : World} {g e : Nat} {cur : List Value} {zs : List ByteArray} (hl : zs.length = cur.length) (hg : w.heap[g]? = some (.cells (splice cur 0 (strs zs)).toArray e (0, 0))) : CP w (some ⟨g, 0, none⟩) zs := by
  rw [splice_all _ _ (by simpa [strs] using hl)] at hg
  refine .inr ⟨g, rfl, (Array.getElem?_eq_some_iff.1 hg).1, fun j hj => ?_⟩
  simp [World.cell?, hg, hj, strs]

theorem strs_one (zs : List ByteArray) : ∀ v, v ∈ strs zs → v.oneCell' = true := by
  intro v hv
  unfold strs at hv
  rw [List.mem_map] at hv
  obtain ⟨z, _, rfl⟩ := hv
  rfl

theorem copy_run {w0 w1 : World} {B g n : Nat} (d : Nat) {x : Addr} {zs : List ByteArray} {xs : List Value} (hn : zs.length = n)
    (hown : w1.ownsRow B 9 1 (.slice (some ⟨g, 0, none⟩) n n) n xs) (hs : Src w1 (some x) zs) (hb : Below B w0 w1) (hB : B ≤ g) :
    ∃ w2, (Builtin.copy_ #[22, 22] 3 #[.slice (some ⟨g, 0, none⟩) n n, .slice (some x) n d]).run Try.prog w1 = .ok (.int .i64 n) w2 ∧ CP w2 (some ⟨g, 0, none⟩) zs ∧ Below B w0 w2 := by
  obtain ⟨cur, hc, hg⟩ := own_cur hown
  have hrun := run_copy_row (P := Try.prog) w1 22 22 3 9 g 0 n n x n d cur.toArray 9 (strs zs) Try.underlying22 Try.size9 hg (by simp [hn, strs]) hs.cells (by simp [strs]; omega) (strs_one zs)
  rw [show goInt ((strs zs).length : Nat) = .int .i64 n from by simp [goInt, hn, strs]] at hrun
  refine ⟨_, hrun, ?_, below_setRow hb hB _⟩
  · exact CP.copied (cur := cur) (by omega) (by simpa [splice] using setRow_heap w1 g _ _ 9 _ hg)

theorem one_str (s : ByteArray) : ∀ u, u ∈ [Value.string s] → u.oneCell' = true := by
  intro u hu; simp at hu; subst hu; rfl

theorem strs_cell {w : World} {base g n cap : Nat} {ss : List ByteArray} (hn : ss.length = n) (h : w.ownsRow base 9 1 (.slice (some ⟨g, 0, none⟩) n cap) n (strs ss)) (j : Nat) (hj : j < n) : w.cell? ⟨g, j, none⟩ = some (.string (ss.getD j ByteArray.empty)) := by
  rw [h.cellAt j (by omega)]
  have : j < ss.length := by omega
  simp [strs, this]

theorem steps_nil (a : Option Addr) (cap : Nat) (w : World) : Calls Try.prog 5 #[.slice a 0 cap] w fun r w' => r = .returned (.int .i64 0) ∧ w = w' :=
  steps_any a cap [] w (fun h => absurd h (by simp)) (by simp) (by simp [tot])

theorem steps_m (a : Option Addr) (n cap m : Nat) (ss : List ByteArray) (w : World) (hn : ss.length = n) (hm : tot ss = m) (h : At w a ss) (hb : n ≤ 1000000) (ht : m ≤ 1000000000) :
    Calls Try.prog 5 #[.slice a n cap] w fun r w' => r = .returned (.int .i64 (2 * m)) ∧ w = w' := by
  subst hn hm
  exact steps_any a cap ss w h hb ht

theorem At.row {w : World} {base g n cap : Nat} {ss : List ByteArray} (hn : ss.length = n) (h : w.ownsRow base 9 1 (.slice (some ⟨g, 0, none⟩) n cap) n (strs ss)) : At w (some ⟨g, 0, none⟩) ss :=
  fun _ => ⟨g, 0, rfl, fun j hj => by rw [Nat.zero_add]; exact strs_cell hn h j (by omega)⟩

theorem At.take {w : World} {b n : Nat} {ss : List ByteArray} (hc : ∀ j, j < n → w.cell? ⟨b, j, none⟩ = some (.string (ss.getD j ByteArray.empty))) (hn : ss.length = n) (k : Nat) (hk : k ≤ n) : At w (some ⟨b, 0, none⟩) (ss.take k) := by
  intro _
  refine ⟨b, 0, rfl, fun j hj => ?_⟩
  have hj2 : j < k := by simp at hj; omega
  rw [Nat.zero_add, hc j (by omega)]
  simp [List.getD_eq_getElem?_getD, hj2]

theorem At.drop {w : World} {b n : Nat} {ss : List ByteArray} (hc : ∀ j, j < n → w.cell? ⟨b, j, none⟩ = some (.string (ss.getD j ByteArray.empty))) (hn : ss.length = n) (k : Nat) (a : Option Addr) (ha : k < n → a = some ⟨b, k, none⟩) : At w a (ss.drop k) := by
  intro h0
  have hk : k < n := by simp at h0; omega
  refine ⟨b, k, ha hk, fun j hj => ?_⟩
  have hj2 : j < n - k := by simp at hj; omega
  rw [hc (k + j) (by omega)]
  simp [List.getD_eq_getElem?_getD]

/-- what has been put together when the second loop stands at k -/
def mid (ss : List ByteArray) (t : ByteArray) (i k : Nat) : List ByteArray := ss.take i ++ [t] ++ (ss.take k).drop i
theorem mid_start (ss : List ByteArray) (t : ByteArray) (i : Nat) : mid ss t i i = ss.take i ++ [t] := by
  unfold mid
  rw [List.drop_eq_nil_of_le (by simp; omega)]
  simp
theorem mid_step (ss : List ByteArray) (t : ByteArray) (i k : Nat) (h : i ≤ k) (hk : k < ss.length) : mid ss t i (k + 1) = mid ss t i k ++ [ss.getD k ByteArray.empty] := by
  unfold mid
  rw [take_snoc ss k hk, List.drop_append_of_le_length (by simp; omega)]
  simp
theorem mid_length (ss : List ByteArray) (t : ByteArray) (i k : Nat) (h : i ≤ k) (hk : k ≤ ss.length) : (mid ss t i k).length = k + 1 := by
  unfold mid
  simp
  omega
theorem mid_tot (ss : List ByteArray) (t : ByteArray) (i : Nat) : tot (mid ss t i ss.length) = tot (ss.take i) + t.size + tot (ss.drop i) := by
  unfold mid
  rw [tot_append, tot_append, tot_one, List.take_length]
end Go.Proofs.Qxb6623398a
