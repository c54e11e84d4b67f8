import Derived.Test.Qxb6623293aWalkD
import Derived.BigRegion
namespace Go.Proofs.Qxb6623293a
open Go.RowKit
set_option linter.unusedVariables false

theorem Try.info36 : (Try.prog.info? 36).map (fun i => (i.zero, i.size, i.bytes)) = some (some (.agg #[.int .u64 0, .int .i32 0, .int .i32 0]), 3, 16) := by kernel_rfl
theorem Try.info41 : (Try.prog.info? 41).map (fun i => (i.zero, i.size, i.bytes)) = some (some (.agg #[.int .i32 0, .int .i32 0, .int .i32 0, .int .u32 0]), 4, 16) := by kernel_rfl
theorem Try.info50 : (Try.prog.info? 50).map (fun i => (i.size)) = some 6 := by kernel_rfl

/-- the places, the first k laid -/
def PR (w : World) (bp np k : Nat) (P : List Int) : Prop :=
  ∀ j, j < np → w.cell? ⟨bp, j * 3, none⟩ = some (.int .u64 (if j < k then P.getD j 0 else 0)) ∧ w.frozen? ⟨bp, j * 3, none⟩ = false

/-- the treap, the first k laid -/
def TR (w : World) (bt nt k : Nat) (X L R : List Int) : Prop :=
  (∀ j, j < nt * 4 → (∃ v, w.cell? ⟨bt, j, none⟩ = some v) ∧ w.frozen? ⟨bt, j, none⟩ = false) ∧
  ∀ j, j < k → w.cell? ⟨bt, j * 4, none⟩ = some (.int .i32 (X.getD j 0)) ∧ w.cell? ⟨bt, j * 4 + 1, none⟩ = some (.int .i32 (L.getD j 0)) ∧ w.cell? ⟨bt, j * 4 + 2, none⟩ = some (.int .i32 (R.getD j 0))

theorem made_at (z : Array Value) (n j : Nat) (h : j < n) : (madeCells z n).toList[j]? = some (z[j % z.size]!) := by
  simp [madeCells, h]

theorem PR.made {w : World} {base bp np : Nat} (P : List Int) (h : w.ownsRow base 36 3 (.slice (some ⟨bp, 0, none⟩) np np) np (madeCells (Value.agg #[.int .u64 0, .int .i32 0, .int .i32 0]).cells (np * 3)).toList) : PR w bp np 0 P := by
  intro j hj
  refine ⟨?_, h.frozenAt _⟩
  rw [h.cellAt _ (by omega), made_at _ _ _ (by omega)]
  simp [Value.cells]

theorem TR.made {w : World} {base bt nt : Nat} (X L R : List Int) (h : w.ownsRow base 41 4 (.slice (some ⟨bt, 0, none⟩) nt nt) nt (madeCells (Value.agg #[.int .i32 0, .int .i32 0, .int .i32 0, .int .u32 0]).cells (nt * 4)).toList) : TR w bt nt 0 X L R := by
  refine ⟨fun j hj => ⟨?_, h.frozenAt _⟩, fun j hj => absurd hj (by omega)⟩
  rw [h.cellAt _ (by omega), made_at _ _ _ (by omega)]
  exact ⟨_, rfl⟩

theorem PR.step {w : World} {bp np k : Nat} {P : List Int} (h : PR w bp np k P) (hk : k < np) : PR (w.setCell ⟨bp, k * 3, none⟩ (.int .u64 (P.getD k 0))) bp np (k + 1) P := by
  intro j hj
  refine ⟨?_, by rw [World.frozen?_setCell]; exact (h j hj).2⟩
  by_cases e : j = k
  · subst e
    rw [World.cell?_setCell_same _ _ _ (h j hj).1, if_pos (by omega)]
  · rw [World.cell?_setCell_other _ _ _ _ (by intro hh; have h3 : k * 3 = j * 3 := congrArg Addr.off hh; omega), (h j hj).1]
    by_cases l : j < k
    · rw [if_pos l, if_pos (by omega)]
    · rw [if_neg l, if_neg (by omega)]

theorem cell_set_off (w : World) (b o p : Nat) (v : Value) (h : o ≠ p) : (w.setCell ⟨b, o, none⟩ v).cell? ⟨b, p, none⟩ = w.cell? ⟨b, p, none⟩ :=
  World.cell?_setCell_other _ _ _ _ (by intro e; cases e; exact h rfl)

theorem set_some {w : World} {b o p : Nat} {u : Value} (h : ∃ v, w.cell? ⟨b, p, none⟩ = some v) : ∃ v, (w.setCell ⟨b, o, none⟩ u).cell? ⟨b, p, none⟩ = some v := by
  obtain ⟨v, h⟩ := h
  by_cases e : o = p
  · subst e; exact ⟨u, World.cell?_setCell_same _ _ _ h⟩
  · exact ⟨v, by rw [cell_set_off _ _ _ _ _ e]; exact h⟩

theorem TR.step {w : World} {bt nt t : Nat} {X L R : List Int} {x l r : Int} {u : Value} (h : TR w bt nt t X L R) (ht : t < nt) (e : x = X.getD t 0 ∧ l = L.getD t 0 ∧ r = R.getD t 0) :
    TR ((((w.setCell ⟨bt, t * 4, none⟩ (.int .i32 x)).setCell ⟨bt, t * 4 + 1, none⟩ (.int .i32 l)).setCell ⟨bt, t * 4 + 2, none⟩ (.int .i32 r)).setCell ⟨bt, t * 4 + 3, none⟩ u) bt nt (t + 1) X L R := by
  refine ⟨fun j hj => ⟨?_, ?_⟩, fun j hj => ?_⟩
  · exact set_some (set_some (set_some (set_some (h.1 j hj).1)))
  · have := (h.1 j hj).2
    rw [World.frozen?_setCell, World.frozen?_setCell, World.frozen?_setCell, World.frozen?_setCell]
    exact this
  · have g0 := (h.1 (t * 4) (by omega)).1
    have g1 := (h.1 (t * 4 + 1) (by omega)).1
    have g2 := (h.1 (t * 4 + 2) (by omega)).1
    by_cases ej : j = t
    · subst ej
      refine ⟨?_, ?_, ?_⟩
      · rw [cell_set_off _ _ _ _ _ (by omega), cell_set_off _ _ _ _ _ (by omega), cell_set_off _ _ _ _ _ (by omega)]
        obtain ⟨v, g0⟩ := g0
        rw [World.cell?_setCell_same _ _ _ g0, e.1]
      · rw [cell_set_off _ _ _ _ _ (by omega), cell_set_off _ _ _ _ _ (by omega)]
        obtain ⟨v, g⟩ := set_some (o := j * 4) (u := .int .i32 x) g1
        rw [World.cell?_setCell_same _ _ _ g, e.2.1]
      · rw [cell_set_off _ _ _ _ _ (by omega)]
        obtain ⟨v, g⟩ := set_some (o := j * 4 + 1) (u := .int .i32 l) (set_some (o := j * 4) (u := .int .i32 x) g2)
        rw [World.cell?_setCell_same _ _ _ g, e.2.2]
    · have q := h.2 j (by omega)
      refine ⟨?_, ?_, ?_⟩
      · rw [cell_set_off _ _ _ _ _ (by omega), cell_set_off _ _ _ _ _ (by omega), cell_set_off _ _ _ _ _ (by omega), cell_set_off _ _ _ _ _ (by omega)]
        exact q.1
      · rw [cell_set_off _ _ _ _ _ (by omega), cell_set_off _ _ _ _ _ (by omega), cell_set_off _ _ _ _ _ (by omega), cell_set_off _ _ _ _ _ (by omega)]
        exact q.2.1
      · rw [cell_set_off _ _ _ _ _ (by omega), cell_set_off _ _ _ _ _ (by omega), cell_set_off _ _ _ _ _ (by omega), cell_set_off _ _ _ _ _ (by omega)]
        exact q.2.2

theorem TR.drew {w : World} {bt nt t : Nat} {X L R : List Int} (h : TR w bt nt t X L R) : TR w.drew bt nt t X L R := ⟨h.1, h.2⟩

theorem PR.full {w : World} {bp np k : Nat} {P : List Int} (h : PR w bp np k P) (hk : np ≤ k) : ∀ j, j < np → w.cell? ⟨bp, j * 3, none⟩ = some (.int .u64 (P.getD j 0)) := by
  intro j hj
  rw [(h j hj).1, if_pos (by omega)]

theorem own_lt {w : World} {base e size g n cap : Nat} {xs : List Value} (h : w.ownsRow base e size (.slice (some ⟨g, 0, none⟩) n cap) n xs) : g < w.heap.size := by
  rcases h.2 with ⟨h', _⟩ | ⟨g', cap', cur, h', _, hg, _⟩
  · simp at h'
  · simp only [Value.slice.injEq, Option.some.injEq, Addr.mk.injEq, and_true, true_and] at h'
    obtain ⟨rfl, rfl⟩ := h'
    exact (Array.getElem?_eq_some_iff.1 hg).1

set_option maxHeartbeats 1000000 in
theorem zz_any (b0 b1 b2 b3 np nt c0 c1 c2 c3 : Nat) (P X L R : List Int) (first rest e : Int) (w : World)
    (pc : ∀ k, k < np → w.cell? ⟨b0, k, none⟩ = some (.int .u64 (P.getD k 0)))
    (xc : ∀ k, k < nt → w.cell? ⟨b1, k, none⟩ = some (.int .i32 (X.getD k 0)))
    (lc : ∀ k, k < nt → w.cell? ⟨b2, k, none⟩ = some (.int .i32 (L.getD k 0)))
    (rc : ∀ k, k < nt → w.cell? ⟨b3, k, none⟩ = some (.int .i32 (R.getD k 0)))
    (l0 : b0 < w.heap.size) (l1 : b1 < w.heap.size) (l2 : b2 < w.heap.size) (l3 : b3 < w.heap.size)
    (hnp : np ≤ 32768) (hnt : nt ≤ 32768)
    (hP : P.length = np) (hX : X.length = nt)
    (f0 : 0 ≤ first) (f1 : first < np) (e0 : 0 ≤ e) (e1 : e < np) (f : Nat) (hok : Pl.okPath P X L R (Pl.g P e) f rest) :
    Calls Try.prog 6 #[.slice (some ⟨b0, 0, none⟩) np c0, .slice (some ⟨b1, 0, none⟩) nt c1, .slice (some ⟨b2, 0, none⟩) nt c2, .slice (some ⟨b3, 0, none⟩) nt c3, .int .i32 first, .int .i32 rest, .int .i32 e] w
      fun r w' => (∃ bv av, r = .returned (.tuple #[.int .i32 bv, .int .i32 av]) ∧ (bv, av) = Pl.walkF P X L R (Pl.g P e) f rest (if first = 0 then (0, 0) else Pl.closer P (Pl.g P e) first 0 0).1 (if first = 0 then (0, 0) else Pl.closer P (Pl.g P e) first 0 0).2)
        ∧ Below w.heap.size w w' := by
  obtain ⟨q0, hq0⟩ : ∃ q0, q0 = Pl.walkF P X L R (Pl.g P e) f rest (if first = 0 then (0, 0) else Pl.closer P (Pl.g P e) first 0 0).1 (if first = 0 then (0, 0) else Pl.closer P (Pl.g P e) first 0 0).2 := ⟨_, rfl⟩
  rw [← hq0]
  have HQ : Hid (q0 = Pl.walkF P X L R (Pl.g P e) f rest (if first = 0 then (0, 0) else Pl.closer P (Pl.g P e) first 0 0).1 (if first = 0 then (0, 0) else Pl.closer P (Pl.g P e) first 0 0).2) := hq0
  have HP : Hid (P.length = np ∧ X.length = nt) := ⟨hP, hX⟩
  have HOK : Hid (Pl.okPath P X L R (Pl.g P e) f rest) := hok
  clear hP hX hok hq0
  obtain ⟨i36, hi, hz0, hz1, hz2⟩ := info_parts Try.info36
  obtain ⟨i41, ti, tz0, tz1, tz2⟩ := info_parts Try.info41
  go_enter Try.func6, Try.ntmps6
  go_wp2_with ((at_make; refine wpList_make_full _ rfl _ _ 34 rfl w.heap.size 36 i36 _ 3 Try.underlying34 hi hz0 hz1 .i64 .i64 np np np rfl rfl rfl rfl (by rw [hz2]; omega) (by unfold maxLen; omega) (Nat.le_refl _) ?_; intro w1 hown hgrow))
  have hpr : PR w1 w.heap.size np 0 P := PR.made P hown
  have hb1 : Below w.heap.size w w1 := (Below.refl _ _).grown hgrow (Nat.le_refl _) (fun _ h => by cases h)
  have hz9 : w.heap.size < w1.heap.size := own_lt hown
  clear hown hgrow hi hz0 hz1 hz2
  go_loopw [17] (fun i wr => ∃ k : Nat, k ≤ np ∧ i = .int .i64 k ∧ Hid (PR wr w.heap.size np k P) ∧ Below w.heap.size w wr ∧ w.heap.size < wr.heap.size) (fun i _ => np - (intOf i).toNat)
  case atStart => exact ⟨0, Nat.zero_le _, rfl, hpr, hb1, hz9⟩
  case round =>
    clear hpr hb1 hz9
    obtain ⟨k, hk, rfl, hpr, hb, hz⟩ := hrel
    by_cases hlt : k < np
    · have h1 := (hpr.out k hlt).1
      rw [if_neg (Nat.lt_irrefl k)] at h1
      have h2 := (hpr.out k hlt).2
      have h3 : wr.cell? ⟨b0, k, none⟩ = some (.int .u64 (P.getD k 0)) := (hb.cell l0).trans (pc k hlt)
      obtain ⟨x, hx⟩ : ∃ x, x = P.getD k 0 := ⟨_, rfl⟩
      have R1 := hpr.out.step hlt
      rw [← hx] at h3 R1
      clear hx
      have HR1 : Hid (PR (wr.setCell ⟨w.heap.size, k * 3, none⟩ (.int .u64 x)) w.heap.size np (k + 1) P) := R1
      clear R1 pc xc lc rc hpr
      go_wp2
      go_roundw
      case rel => exact ⟨k + 1, by omega, by go_num, HR1, hb.setCell (Nat.le_refl _) _, by simpa using hz⟩
      case measure => simp [intOf]; omega
    · rename World => wo
      have hfull : Hid (∀ j, j < np → wo.cell? ⟨w.heap.size, j * 3, none⟩ = some (.int .u64 (P.getD j 0))) := hpr.out.full (by omega)
      clear hpr
      go_wp2_with ((at_make; refine wpList_make_full _ rfl _ _ 37 rfl w.heap.size 41 i41 _ 4 Try.underlying37 ti tz0 tz1 .i64 .i64 nt nt nt rfl rfl rfl rfl (by rw [tz2]; omega) (by unfold maxLen; omega) (by omega) ?_; intro w2 hown2 hgrow2))
      have htr : TR w2 wo.heap.size nt 0 X L R := TR.made X L R hown2
      have hb2 : Below wo.heap.size wo w2 := (Below.refl _ _).grown hgrow2 (Nat.le_refl _) (fun _ h => by cases h)
      have hz8 : wo.heap.size < w2.heap.size := own_lt hown2
      clear hown2 hgrow2 ti tz0 tz1 tz2
      go_loopw [19] (fun i wt => ∃ k : Nat, k ≤ nt ∧ i = .int .i64 k ∧ Hid (TR wt wo.heap.size nt k X L R) ∧ Below wo.heap.size wo wt ∧ wo.heap.size < wt.heap.size) (fun i _ => nt - (intOf i).toNat)
      case atStart => exact ⟨0, Nat.zero_le _, rfl, htr, hb2, hz8⟩
      case round =>
        clear htr hb2 hz8
        obtain ⟨t, ht, rfl, htr, hb2, hz8⟩ := hrel
        by_cases hlt2 : t < nt
        · obtain ⟨⟨v0, q0⟩, r0⟩ := htr.out.1 (t * 4) (by omega)
          obtain ⟨⟨v1, q1⟩, r1⟩ := htr.out.1 (t * 4 + 1) (by omega)
          obtain ⟨⟨v2, q2⟩, r2⟩ := htr.out.1 (t * 4 + 2) (by omega)
          obtain ⟨⟨v3, q3⟩, r3⟩ := htr.out.1 (t * 4 + 3) (by omega)
          have hx : wr.cell? ⟨b1, t, none⟩ = some (.int .i32 (X.getD t 0)) := (hb2.cell (by simp; omega)).trans ((hb.cell l1).trans (xc t hlt2))
          have hl : wr.cell? ⟨b2, t, none⟩ = some (.int .i32 (L.getD t 0)) := (hb2.cell (by simp; omega)).trans ((hb.cell l2).trans (lc t hlt2))
          have hr : wr.cell? ⟨b3, t, none⟩ = some (.int .i32 (R.getD t 0)) := (hb2.cell (by simp; omega)).trans ((hb.cell l3).trans (rc t hlt2))
          obtain ⟨x, ex⟩ : ∃ x, x = X.getD t 0 := ⟨_, rfl⟩
          obtain ⟨l, el⟩ : ∃ l, l = L.getD t 0 := ⟨_, rfl⟩
          obtain ⟨r, er⟩ : ∃ r, r = R.getD t 0 := ⟨_, rfl⟩
          rw [← ex] at hx
          rw [← el] at hl
          rw [← er] at hr
          have HE : Hid (x = X.getD t 0 ∧ l = L.getD t 0 ∧ r = R.getD t 0) := ⟨ex, el, er⟩
          clear ex el er pc xc lc rc
          go_wp2_with fail
          go_region
          go_wp2
          go_roundw
          case rel => exact ⟨t + 1, by omega, by go_num, (htr.out.step hlt2 HE.out).drew, ((((hb2.setCell (Nat.le_refl _) _).setCell (Nat.le_refl _) _).setCell (Nat.le_refl _) _).setCell (Nat.le_refl _) _).drew, by simpa using hz8⟩
          case measure => simp [intOf]; omega
        · have htf := htr.out.2
          have HF : Hid (∀ j, j < nt → wr.cell? ⟨wo.heap.size, j * 4, none⟩ = some (.int .i32 (X.getD j 0)) ∧ wr.cell? ⟨wo.heap.size, j * 4 + 1, none⟩ = some (.int .i32 (L.getD j 0)) ∧ wr.cell? ⟨wo.heap.size, j * 4 + 2, none⟩ = some (.int .i32 (R.getD j 0))) := fun j hj => htf j (by omega)
          clear htf htr pc xc lc rc
          go_wp2_with fail
          have hbx : Below wr.heap.size wr (wr.alloc (.cells #[.slice none 0 0, .slice none 0 0, .slice none 0 0, .slice (some ⟨wo.heap.size, 0, none⟩) nt nt, .int .u32 0, .slice (some ⟨w.heap.size, 0, none⟩) np np] 50)) := (Below.refl _ _).alloc (Nat.le_refl _) _
          refine Calls.mono (around_any wr.heap.size wo.heap.size w.heap.size np np nt nt P X L R first rest e _ ?_ ?_ ?_ ?_ ?_ ?_ ?_ ?_ ?_ HP.out.1 HP.out.2 f0 f1 e0 e1 f HOK.out) ?_
          · simp [go_sem]
          · simp [go_sem]
          · intro j hj; exact (hbx.cell (by simp; omega)).trans ((hb2.cell hz).trans (hfull.out j hj))
          · intro j hj; exact (hbx.cell (by simp; omega)).trans (HF.out j hj).1
          · intro j hj; exact (hbx.cell (by simp; omega)).trans (HF.out j hj).2.1
          · intro j hj; exact (hbx.cell (by simp; omega)).trans (HF.out j hj).2.2
          · simp
          · simp; omega
          · simp; omega
          rintro r w3 ⟨⟨bv, av, rfl, hres⟩, hb3⟩
          have HRES : Hid ((bv, av) = q0) := hres.trans HQ.out.symm
          clear hres
          go_wp2
          go_ret2
          exact ⟨⟨bv, av, rfl, HRES.out⟩, hb.trans ((hb2.mono (by omega)).trans ((hbx.mono (by omega)).trans (hb3.mono (by simp; omega))))⟩
end Go.Proofs.Qxb6623293a
