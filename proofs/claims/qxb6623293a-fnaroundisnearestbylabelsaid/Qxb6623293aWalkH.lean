import Derived.Test.Qxb6623293aWalkG
import Derived.Maps.AppendAt
namespace Go.Proofs.Qxb6623293a
open Go.RowKit
set_option linter.unusedVariables false

/-- what 'aroundDomain' hands back -/
def DomPost (P X L R : List Int) (first rest : Int) (nt : Nat) (w : World) (r : Ending) (w' : World) : Prop :=
  Below w.heap.size w w' ∧ ∃ v ok, r = .returned (.tuple #[v, .bool ok]) ∧ (ok = true → ∃ V, Pl.Closed P X L R first rest V ∧ V.length ≤ nt ∧
    ∃ g, v = .slice (some ⟨g, 0, none⟩) V.length nt ∧ g < w'.heap.size ∧ w.heap.size ≤ g ∧ ∀ j, j < V.length → w'.cell? ⟨g, j, none⟩ = some (.int .i32 ((V.map fun f => f.node).getD j 0)))

theorem DomPost.no {P X L R : List Int} {first rest : Int} {nt : Nat} {w w' : World} (h : Below w.heap.size w w') : DomPost P X L R first rest nt w (.returned (.tuple #[.slice none 0 0, .bool false])) w' :=
  ⟨h, _, _, rfl, fun e => by cases e⟩

theorem nodes_cell {w : World} {base g nt : Nat} {V : List Pl.Fr} (h : w.ownsRow base 21 1 (.slice (some ⟨g, 0, none⟩) V.length nt) V.length (nodes V)) (j : Nat) (hj : j < V.length) : w.cell? ⟨g, j, none⟩ = some (.int .i32 ((V.map fun f => f.node).getD j 0)) := by
  rw [h.cellAt j (by omega)]
  simp [nodes, hj]

theorem DomPost.yes {P X L R : List Int} {first rest : Int} {nt : Nat} {w w' : World} {V : List Pl.Fr} {g : Nat} (h : Below w.heap.size w w') (hc : Pl.Closed P X L R first rest V) (hl : V.length ≤ nt) (ho : w'.ownsRow w.heap.size 21 1 (.slice (some ⟨g, 0, none⟩) V.length nt) V.length (nodes V)) (hg : w.heap.size ≤ g) :
    DomPost P X L R first rest nt w (.returned (.tuple #[.slice (some ⟨g, 0, none⟩) V.length nt, .bool true])) w' :=
  ⟨h, _, _, rfl, fun _ => ⟨V, hc, hl, g, rfl, own_lt ho, hg, nodes_cell ho⟩⟩

set_option maxHeartbeats 1000000 in
set_option maxRecDepth 100000 in
theorem dom_zero (b0 b1 b2 b3 np nt c0 c1 c2 c3 : Nat) (P X L R : List Int) (first e : Int) (w : World)
    (hnp : np ≤ 32768) (hnt : nt ≤ 32768) (hnt0 : 0 < nt)
    (f0 : 0 ≤ first) (f1 : first < np) (e0 : 0 ≤ e) (e1 : e < np) :
    Calls Try.prog 5 #[.slice (some ⟨b0, 0, none⟩) np c0, .slice (some ⟨b1, 0, none⟩) nt c1, .slice (some ⟨b2, 0, none⟩) nt c2, .slice (some ⟨b3, 0, none⟩) nt c3, .int .i32 first, .int .i32 0, .int .i32 e] w
      (DomPost P X L R first 0 nt w) := by
  obtain ⟨i21, hi, hz0, hz1, hz2⟩ := info_parts Try.info21
  go_enter Try.func5, Try.ntmps5
  go_wp2_with ((at_make; refine wpList_make_own _ rfl _ _ 23 rfl w.heap.size 21 i21 _ 1 Try.underlying23 hi hz0 hz1 .i64 .i64 nt nt rfl rfl rfl (by rw [hz2]; omega) (by unfold maxLen; omega) (Nat.le_refl _) ?_; intro w1 hown hgrow))
  go_ret2
  exact DomPost.yes (V := []) ((Below.refl _ _).grown hgrow (Nat.le_refl _) (fun _ h => by cases h)) Pl.closed_none (Nat.zero_le _) hown (Nat.le_refl _)

set_option maxHeartbeats 8000000 in
set_option maxRecDepth 100000 in
theorem dom_pos (b0 b1 b2 b3 np nt c0 c1 c2 c3 : Nat) (P X L R : List Int) (fk rk : Nat) (e : Int) (w : World)
    (pc : ∀ k, k < np → w.cell? ⟨b0, k, none⟩ = some (.int .u64 (P.getD k 0)))
    (xc : ∀ k, k < nt → w.cell? ⟨b1, k, none⟩ = some (.int .i32 (X.getD k 0)))
    (lc : ∀ k, k < nt → w.cell? ⟨b2, k, none⟩ = some (.int .i32 (L.getD k 0)))
    (rc : ∀ k, k < nt → w.cell? ⟨b3, k, none⟩ = some (.int .i32 (R.getD k 0)))
    (l0 : b0 < w.heap.size) (l1 : b1 < w.heap.size) (l2 : b2 < w.heap.size) (l3 : b3 < w.heap.size)
    (xw : ∀ k, -2147483648 ≤ X.getD k 0 ∧ X.getD k 0 ≤ 2147483647) (lw : ∀ k, -2147483648 ≤ L.getD k 0 ∧ L.getD k 0 ≤ 2147483647) (rw' : ∀ k, -2147483648 ≤ R.getD k 0 ∧ R.getD k 0 ≤ 2147483647)
    (hnp : np ≤ 32768) (hnt : nt ≤ 32768)
    (hP : P.length = np) (hX : X.length = nt)
    (hfk : fk < np) (e0 : 0 ≤ e) (e1 : e < np) (r0 : 0 < rk) (r1 : rk < nt) :
    Calls Try.prog 5 #[.slice (some ⟨b0, 0, none⟩) np c0, .slice (some ⟨b1, 0, none⟩) nt c1, .slice (some ⟨b2, 0, none⟩) nt c2, .slice (some ⟨b3, 0, none⟩) nt c3, .int .i32 fk, .int .i32 rk, .int .i32 e] w
      (DomPost P X L R fk rk nt w) := by
  obtain ⟨i21, hi, hz0, hz1, hz2⟩ := info_parts Try.info21
  obtain ⟨i4, bi, bz0, bz1, bz2⟩ := info_parts Try.info4
  obtain ⟨i33, si, sz0, sz1, sz2⟩ := info_parts Try.info33
  have HP : Hid (P.length = np ∧ X.length = nt) := ⟨hP, hX⟩
  have HW : Hid ((∀ k, -2147483648 ≤ X.getD k 0 ∧ X.getD k 0 ≤ 2147483647) ∧ (∀ k, -2147483648 ≤ L.getD k 0 ∧ L.getD k 0 ≤ 2147483647) ∧ (∀ k, -2147483648 ≤ R.getD k 0 ∧ R.getD k 0 ≤ 2147483647)) := ⟨xw, lw, rw'⟩
  have HC : Hid ((∀ k, k < np → w.cell? ⟨b0, k, none⟩ = some (.int .u64 (P.getD k 0))) ∧ (∀ k, k < nt → w.cell? ⟨b1, k, none⟩ = some (.int .i32 (X.getD k 0))) ∧ (∀ k, k < nt → w.cell? ⟨b2, k, none⟩ = some (.int .i32 (L.getD k 0))) ∧ (∀ k, k < nt → w.cell? ⟨b3, k, none⟩ = some (.int .i32 (R.getD k 0)))) := ⟨pc, xc, lc, rc⟩
  clear hP hX xw lw rw' pc xc lc rc
  have hd : ((rk : Int) != 0) = true := by rw [bne_iff_ne]; omega
  have d1 : decide (e < 0) = false := decide_eq_false (by omega)
  have d2 : decide ((np : Int) ≤ e) = false := decide_eq_false (by omega)
  have d3 : decide ((fk : Int) < 0) = false := decide_eq_false (by omega)
  have d4 : decide ((np : Int) ≤ fk) = false := decide_eq_false (by omega)
  have d5 : decide ((rk : Int) < 0) = false := decide_eq_false (by omega)
  go_enter Try.func5, Try.ntmps5
  go_wp2_with (first
    | (at_make; refine wpList_make_own _ rfl _ _ 23 rfl w.heap.size 21 i21 _ 1 Try.underlying23 hi hz0 hz1 .i64 .i64 nt nt rfl rfl rfl (by rw [hz2]; omega) (by unfold maxLen; omega) (Nat.le_refl _) ?_; intro w1 hown1 hgrow1; have hs1 := own_lt hown1)
    | (at_make; refine wpList_make_full _ rfl _ _ 30 rfl w.heap.size 4 i4 _ 1 Try.underlying30 bi bz0 bz1 .i64 .i64 nt nt nt rfl rfl rfl rfl (by rw [bz2]; omega) (by unfold maxLen; omega) (by omega) ?_; intro w2 hown2 hgrow2; have hs2 := own_lt hown2; have hc2 := made_bool hown2 rk r1; have hf2 := hown2.frozenAt rk)
    | (at_make; refine wpList_make_own _ rfl _ _ 31 rfl w.heap.size 33 i33 _ 5 Try.underlying31 si sz0 sz1 .i64 .i64 nt nt rfl rfl rfl (by rw [sz2]; omega) (by unfold maxLen; omega) (by simp; omega) ?_; intro w3 hown3 hgrow3; rw [show (w2.setCell ⟨w1.heap.size, rk, none⟩ (.bool true)).heap.size = w2.heap.size from (by simp)] at hown3; have hs3 := own_lt hown3)
    | (at_builtin; refine wpList_append_fits _ rfl (.tmp 75) (.tmp 78) 31 rfl w.heap.size 33 i33 5 Try.underlying31 si sz1 w2.heap.size 0 nt [] rfl (hown3.alloc _) ⟨w3.heap.size, 0, none⟩ 1 1 (frc ⟨rk, 0, 0, false, false⟩) rfl rfl (cell_frc_new _ ⟨rk, 0, 0, false, false⟩ _) (frc_one _) (by omega) ?_; intro w4 hown4 hgrow4))
  have ds : DS w4 w.heap.size w.heap.size w1.heap.size w2.heap.size nt [] [⟨rk, 0, 0, false, false⟩] ((List.replicate nt false).set rk true) :=
    ((DS.start r1 rfl hown1 hgrow1 hown2 hgrow2 hown3 hgrow3).alloc _).push hgrow4 hown4
  have inv : Pl.Inv P X L R fk rk [] [⟨rk, 0, 0, false, false⟩] ((List.replicate nt false).set rk true) := by
    have := Pl.Inv.start (P := P) (X := X) (L := L) (R := R) (first := fk) (rest := rk) (by omega) (by rw [HP.out.2]; omega)
    rw [HP.out.2] at this
    exact this
  have bel : Below w.heap.size w w4 := by
    have b1 := (Below.refl w.heap.size w).grown hgrow1 (Nat.le_refl _) (fun _ h => by cases h)
    have b2 := b1.grown hgrow2 (by omega) (fun _ h => by cases h)
    have b3 := (b2.setCell (p := ⟨w1.heap.size, rk, none⟩) (by simp; omega) (.bool true)).grown hgrow3 (by simp; omega) (fun _ h => by cases h)
    exact (b3.alloc (by omega) _).grown hgrow4 (by simp; omega) (fun k h => by cases h; omega)
  generalize w1.heap.size = bs at *
  generalize w2.heap.size = bk at *
  clear hown1 hgrow1 hown2 hgrow2 hown3 hgrow3 hown4 hgrow4 hc2 hf2 bi bz0 bz1 bz2 hz0 hz2 sz0 sz2 hs1 hs2 hs3
  go_loopg [18, 20] (2 * ((List.replicate nt false).set rk true).count false + 1) (fun k rv sv wr => ∃ V S sn, rv = .slice (some ⟨w.heap.size, 0, none⟩) V.length nt ∧ sv = .slice (some ⟨bk, 0, none⟩) S.length nt ∧ DS wr w.heap.size w.heap.size bs bk nt V S sn ∧ Pl.Inv P X L R fk rk V S sn ∧ 2 * sn.count false + S.length ≤ k ∧ Below w.heap.size w wr)
  case atStart => exact ⟨[], [⟨rk, 0, 0, false, false⟩], _, rfl, rfl, ds, inv, Nat.le_refl _, bel⟩
  case round =>
    clear ds inv bel
    obtain ⟨V, S, sn, rfl, rfl, ds, inv, hk, bel⟩ := hrel
    rcases List.eq_nil_or_concat S with rfl | ⟨S, f, rfl⟩
    · have hcl := inv.closed (by omega)
      have hvl : V.length ≤ nt := by have := inv.cnt; rw [HP.out.2] at this; omega
      clear inv
      go_wp2
      go_ret2
      exact DomPost.yes bel hcl hvl ds.rv (Nat.le_refl _)
    · rw [List.concat_eq_append] at ds inv hk ⊢
      obtain ⟨t0, t1, t2, t3, t4⟩ := ds.top
      have hrng := inv.rng f (List.mem_append_right _ (by simp))
      rw [HP.out.2] at hrng
      obtain ⟨nd, lo, hi', hl, hh⟩ := f
      simp only at t0 t1 t2 t3 t4 hrng
      obtain ⟨n, rfl⟩ := Int.eq_ofNat_of_zero_le (show 0 ≤ nd by omega)
      have hn : n < nt := by omega
      have hws : w.heap.size ≤ wr.heap.size := bel.size
      have hbk := ds.l3
      have hxc : wr.cell? ⟨b1, n, none⟩ = some (.int .i32 (X.getD n 0)) := (bel.cell l1).trans (HC.out.2.1 n hn)
      obtain ⟨x, hx⟩ : ∃ x, x = X.getD n 0 := ⟨_, rfl⟩
      have hxw := HW.out.1 n
      rw [← hx] at hxc hxw
      obtain ⟨hxw1, hxw2⟩ := hxw
      have HX : Hid (x = X.getD n 0) := hx
      clear hx
      have lb0 : b0 < wr.heap.size := by omega
      have lb1 : b1 < wr.heap.size := by omega
      have DSI : Hid (DS wr w.heap.size w.heap.size bs bk nt V (S ++ [⟨n, lo, hi', hl, hh⟩]) sn ∧ Pl.Inv P X L R fk rk V (S ++ [⟨n, lo, hi', hl, hh⟩]) sn ∧ 2 * sn.count false + (S.length + 1) ≤ gk) := ⟨ds, inv, by simpa using hk⟩
      have hSn : S.length < nt := by
        have := inv.cnt
        rw [HP.out.2] at this
        simp at this
        omega
      clear ds inv hk
      rcases (show x < 1 ∨ (1 ≤ x ∧ (np : Int) ≤ x) ∨ (1 ≤ x ∧ x < np) from by omega) with h | ⟨h, h'⟩ | ⟨hx1, hx2⟩
      · go_wp2
        go_ret2
        exact DomPost.no (bel.alloc (by omega) _)
      · go_wp2
        go_ret2
        exact DomPost.no (bel.alloc (by omega) _)
      · obtain ⟨xk, rfl⟩ := Int.eq_ofNat_of_zero_le (show 0 ≤ x by omega)
        have hxk : xk < np := by omega
        have hpc : wr.cell? ⟨b0, xk, none⟩ = some (.int .u64 (P.getD xk 0)) := (bel.cell l0).trans (HC.out.1 xk hxk)
        obtain ⟨lb, hlb⟩ : ∃ lb, lb = P.getD xk 0 := ⟨_, rfl⟩
        rw [← hlb] at hpc
        have HLB : Hid (lb = P.getD xk 0) := hlb
        clear hlb
        have hfc : wr.cell? ⟨b0, fk, none⟩ = some (.int .u64 (P.getD fk 0)) := (bel.cell l0).trans (HC.out.1 fk hfk)
        obtain ⟨lf, hlf⟩ : ∃ lf, lf = P.getD fk 0 := ⟨_, rfl⟩
        rw [← hlf] at hfc
        have HLF : Hid (lf = P.getD fk 0) := hlf
        clear hlf
        go_upto_region 25 with fail
        go_cut [119] (fun s wc => s = .bool (hl && decide (lb ≤ lo)) ∧ wc = wr.alloc (.cells #[.int .i32 n, .int .u64 lo, .int .u64 hi', .bool hl, .bool hh] 33))
        case first =>
          cases hl
          all_goals
            go_wp2
            go_meet
            case rel => exact ⟨by simp, rfl⟩
        case rest =>
          obtain ⟨rfl, rfl⟩ := hcut
          cases hB1 : (hl && decide (lb ≤ lo))
          case true =>
            go_wp2
            go_ret2
            exact DomPost.no (bel.alloc (by omega) _)
          go_upto_region 27 with fail
          go_cut [127] (fun s wc => s = .bool (hh && decide (hi' ≤ lb)) ∧ wc = wr.alloc (.cells #[.int .i32 n, .int .u64 lo, .int .u64 hi', .bool hl, .bool hh] 33))
          case first =>
            cases hh
            all_goals
              go_wp2
              go_meet
              case rel => exact ⟨by simp, rfl⟩
          case rest =>
            obtain ⟨rfl, rfl⟩ := hcut
            cases hB2 : (hh && decide (hi' ≤ lb))
            case true =>
              go_wp2
              go_ret2
              exact DomPost.no (bel.alloc (by omega) _)
            go_upto_region 29 with fail
            go_cut [137] (fun s wc => s = .bool (decide (0 < fk) && (lb == lf)) ∧ wc = wr.alloc (.cells #[.int .i32 n, .int .u64 lo, .int .u64 hi', .bool hl, .bool hh] 33))
            case first =>
              rcases Nat.eq_zero_or_pos fk with rfl | hfk0
              · go_wp2
                go_meet
                case rel => exact ⟨by simp, rfl⟩
              · have hfd : ((fk : Int) != 0) = true := by rw [bne_iff_ne]; omega
                go_wp2
                go_meet
                case rel => exact ⟨by simp [hfk0], rfl⟩
            case rest =>
              obtain ⟨rfl, rfl⟩ := hcut
              cases hB3 : (decide (0 < fk) && (lb == lf))
              case true =>
                go_wp2
                go_ret2
                exact DomPost.no (bel.alloc (by omega) _)
              have ds1 := ((DSI.out.1).pop).alloc (.cells #[.int .i32 n, .int .u64 lo, .int .u64 hi', .bool hl, .bool hh] 33)
              have hVn : V.length < nt := by
                have := DSI.out.2.1.cnt
                rw [HP.out.2] at this
                simp at this
                omega
              have HB : Hid ((hl && decide (lb ≤ lo)) = false ∧ (hh && decide (hi' ≤ lb)) = false ∧ (decide (0 < fk) && (lb == lf)) = false) := ⟨hB1, hB2, hB3⟩
              clear hB1 hB2 hB3
              have bx1 := BX.new wr ⟨n, lo, hi', hl, hh⟩
              go_upto_region 32 with ((at_builtin; refine wpList_append_fits _ rfl (.tmp 138) (.tmp 140) 23 rfl w.heap.size 21 i21 1 Try.underlying23 hi hz1 w.heap.size V.length nt (nodes V) rfl (ds1.rv.alloc _) ⟨wr.heap.size + 1, 0, none⟩ 1 1 [.int .i32 n] rfl rfl (cell_one_at _ _ _ _ (by simp)) (one_int n) (by omega) ?_; intro w5 hown5 hgrow5))
              have ds5 := (ds1.alloc (.cells #[.int .i32 n] 21)).reach (f := ⟨n, lo, hi', hl, hh⟩) hgrow5 hown5
              have hl1 := ds1.l1
              have hl2 := ds1.l2
              have bx5 := (bx1.grown (World.grownBy_alloc _ (.cells #[.int .i32 n] 21) none) (by simp)).grown hgrow5 (by simp; omega)
              have bel5 : Below w.heap.size w w5 := ((bel.alloc (by omega) _).alloc (by simp; omega) _).grown hgrow5 (by simp; omega) (fun k h => by cases h; exact Nat.le_refl _)
              have hF5 : wr.heap.size < w5.heap.size := by have := hgrow5.size; simp at this; omega
              clear hown5 hgrow5 ds1 bx1 t0 t1 t2 t3 t4 hxc hpc hfc bel
              have hlc : w5.cell? ⟨b2, n, none⟩ = some (.int .i32 (L.getD n 0)) := (bel5.cell l2).trans (HC.out.2.2.1 n hn)
              have hcw := HW.out.2.1 n
              obtain ⟨c, hc⟩ : ∃ c, c = L.getD n 0 := ⟨_, rfl⟩
              rw [← hc] at hlc hcw
              obtain ⟨hcw1, hcw2⟩ := hcw
              have HCL : Hid (c = L.getD n 0) := hc
              clear hc
              have hsnl : sn.length = nt := by have := DSI.out.2.1.snl; rw [HP.out.2] at this; exact this
              generalize wr.heap.size = F at *
              go_upto_if 147 with fail
              go_cut [20] (fun sv wc => ∃ S1 sn1, sv = .slice (some ⟨bk, 0, none⟩) S1.length nt ∧ DS wc w.heap.size w.heap.size bs bk nt (V ++ [⟨n, lo, hi', hl, hh⟩]) S1 sn1 ∧ Hid (Pl.Push nt c ⟨c, lo, lb, hl, true⟩ S sn S1 sn1) ∧ BX wc F ⟨n, lo, hi', hl, hh⟩ ∧ Below w.heap.size w wc ∧ F < wc.heap.size)
              case first =>
                rcases (show c = 0 ∨ c < 0 ∨ (0 < c ∧ (nt : Int) ≤ c) ∨ (0 < c ∧ c < nt) from by omega) with h | h | ⟨h, h'⟩ | ⟨h, h'⟩
                · subst h
                  go_wp2
                  go_meet
                  case rel => exact ⟨S, sn, rfl, ds5, .inl ⟨rfl, rfl, rfl⟩, bx5, bel5, hF5⟩
                · have hdc : (c != 0) = true := by rw [bne_iff_ne]; omega
                  go_wp2
                  go_ret2
                  exact DomPost.no bel5
                · have hdc : (c != 0) = true := by rw [bne_iff_ne]; omega
                  go_wp2
                  go_ret2
                  exact DomPost.no bel5
                · obtain ⟨ck, rfl⟩ := Int.eq_ofNat_of_zero_le (show 0 ≤ c by omega)
                  have hck : ck < nt := by omega
                  have hdc : ((ck : Int) != 0) = true := by rw [bne_iff_ne]; omega
                  have hsc := ds5.sc ck hck
                  have hsf := ds5.sf ck hck
                  obtain ⟨sb, hsb⟩ : ∃ sb, sb = sn.getD ck false := ⟨_, rfl⟩
                  rw [← hsb] at hsc
                  cases sb
                  · have HP1 : Hid (Pl.Push nt ck ⟨ck, lo, lb, hl, true⟩ S sn (S ++ [⟨ck, lo, lb, hl, true⟩]) (sn.set ck true)) := by
                      refine .inr ⟨h, h', ?_, rfl, rfl⟩
                      show sn.getD ck true = false
                      rw [List.getD_eq_getElem?_getD] at hsb ⊢
                      rw [List.getElem?_eq_getElem (by omega)] at hsb ⊢
                      exact hsb.symm
                    clear hsb
                    have hne1 : ¬ bs = F := by omega
                    have hne2 : ¬ F = bs := by omega
                    have hc1 := bx5.c1
                    have hc3 := bx5.c3
                    simp only at hc1 hc3
                    have dsm := ds5.mark ck hck hsnl
                    go_wp2_with ((at_builtin; refine wpList_append_fits _ rfl (.tmp 165) (.tmp 173) 31 rfl w.heap.size 33 i33 5 Try.underlying31 si sz1 bk S.length nt (frames S) rfl (dsm.st.alloc _) ⟨w5.heap.size, 0, none⟩ 1 1 (frc ⟨ck, lo, lb, hl, true⟩) rfl rfl (cell_frc_at _ ⟨ck, lo, lb, hl, true⟩ _ _ (by simp)) (frc_one _) (by omega) ?_; intro w6 hown6 hgrow6))
                    go_meet
                    case rel =>
                      have gm := grown_setCell w5 bs ck (.bool true)
                      have ga := World.grownBy_alloc (w5.setCell ⟨bs, ck, none⟩ (.bool true)) (.cells #[.int .i32 ck, .int .u64 lo, .int .u64 lb, .bool hl, .bool true] 33) none
                      refine ⟨S ++ [⟨ck, lo, lb, hl, true⟩], sn.set ck true, by simp, (dsm.alloc _).push hgrow6 hown6, HP1, ((bx5.grown gm (by simp; omega)).grown ga (by simp)).grown hgrow6 (by simp; omega), ?_, ?_⟩
                      · exact ((bel5.setCell (p := ⟨bs, ck, none⟩) (by simp; omega) _).alloc (by simp; omega) _).grown hgrow6 (by simp; omega) (fun k h => by cases h; omega)
                      · have := hgrow6.size; simp at this; omega
                  · clear hsb
                    go_wp2
                    go_ret2
                    exact DomPost.no bel5
              case rest =>
                obtain ⟨S1, sn1, rfl, ds6, HP1, bx6, bel6, hF6⟩ := hcut
                clear ds5 bx5 bel5 hF5 hlc
                have hrc : wc.cell? ⟨b3, n, none⟩ = some (.int .i32 (R.getD n 0)) := (bel6.cell l3).trans (HC.out.2.2.2 n hn)
                have hqw := HW.out.2.2 n
                obtain ⟨q, hq⟩ : ∃ q, q = R.getD n 0 := ⟨_, rfl⟩
                rw [← hq] at hrc hqw
                obtain ⟨hqw1, hqw2⟩ := hqw
                have HCR : Hid (q = R.getD n 0) := hq
                clear hq
                have num1 := HP1.out.nums
                have hsnl1 : sn1.length = nt := by omega
                have hS1n : S1.length < nt := by
                  have := DSI.out.2.1.cnt
                  rw [HP.out.2] at this
                  simp at this
                  omega
                have fin : ∀ S2 sn2, Pl.Push nt q ⟨q, lb, hi', true, hh⟩ S1 sn1 S2 sn2 → Pl.Inv P X L R fk rk (V ++ [⟨n, lo, hi', hl, hh⟩]) S2 sn2 ∧ 2 * sn2.count false + S2.length < gk := by
                  intro S2 sn2 p2
                  have p1 := HP1.out
                  have hgx : Pl.g X n = xk := HX.out.symm
                  have hlab : Pl.lab P X n = lb := by
                    unfold Pl.lab
                    rw [hgx]
                    exact HLB.out.symm
                  have hgood : Pl.Good P X fk ⟨n, lo, hi', hl, hh⟩ := by
                    have hb := HB.out
                    refine ⟨⟨by show 0 < (n : Int); omega, by show (n : Int) < X.length; rw [HP.out.2]; omega⟩, ⟨by show 0 < Pl.g X n; rw [hgx]; omega, by show Pl.g X n < P.length; rw [hgx, HP.out.1]; omega⟩, ?_, ?_, ?_⟩
                    · intro e1
                      have e1' : hl = true := e1
                      have q1 := hb.1
                      rw [e1'] at q1
                      simp at q1
                      show lo < Pl.lab P X n
                      rw [hlab]; exact q1
                    · intro e1
                      have e1' : hh = true := e1
                      have q1 := hb.2.1
                      rw [e1'] at q1
                      simp at q1
                      show Pl.lab P X n < hi'
                      rw [hlab]; exact q1
                    · intro e1
                      have q1 := hb.2.2
                      have e2 : 0 < fk := by omega
                      simp [e2] at q1
                      show Pl.lab P X n ≠ Pl.g P fk
                      rw [hlab]
                      intro e3
                      exact q1 (e3.trans HLF.out.symm)
                  have hgl : Pl.g L n = c := HCL.out.symm
                  have hgr : Pl.g R n = q := HCR.out.symm
                  have r := Pl.Inv.step (S1 := S1) (S2 := S2) (sn1 := sn1) (sn2 := sn2) DSI.out.2.1 hgood (by unfold Pl.lf; rw [HP.out.2, hlab, hgl]; exact p1) (by unfold Pl.rf; rw [HP.out.2, hlab, hgr]; exact p2)
                  refine ⟨r.1, ?_⟩
                  have r2 := r.2
                  have r3 := DSI.out.2.2
                  simp at r2
                  omega
                have FIN : Hid (∀ S2 sn2, Pl.Push nt q ⟨q, lb, hi', true, hh⟩ S1 sn1 S2 sn2 → Pl.Inv P X L R fk rk (V ++ [⟨n, lo, hi', hl, hh⟩]) S2 sn2 ∧ 2 * sn2.count false + S2.length < gk) := fin
                clear fin num1
                rcases (show q = 0 ∨ q < 0 ∨ (0 < q ∧ (nt : Int) ≤ q) ∨ (0 < q ∧ q < nt) from by omega) with h | h | ⟨h, h'⟩ | ⟨h, h'⟩
                · subst h
                  have f1 := FIN.out S1 sn1 (.inl ⟨rfl, rfl, rfl⟩)
                  have F1 : Hid (Pl.Inv P X L R fk rk (V ++ [⟨n, lo, hi', hl, hh⟩]) S1 sn1 ∧ 2 * sn1.count false + S1.length < gk) := f1
                  clear f1
                  go_wp2
                  go_roundg (2 * sn1.count false + S1.length)
                  case measure => exact F1.out.2
                  case rel => exact ⟨V ++ [⟨n, lo, hi', hl, hh⟩], S1, sn1, by simp, rfl, ds6, F1.out.1, Nat.le_refl _, bel6⟩
                · have hdc : (q != 0) = true := by rw [bne_iff_ne]; omega
                  go_wp2
                  go_ret2
                  exact DomPost.no bel6
                · have hdc : (q != 0) = true := by rw [bne_iff_ne]; omega
                  go_wp2
                  go_ret2
                  exact DomPost.no bel6
                · obtain ⟨ck, rfl⟩ := Int.eq_ofNat_of_zero_le (show 0 ≤ q by omega)
                  have hck : ck < nt := by omega
                  have hdc : ((ck : Int) != 0) = true := by rw [bne_iff_ne]; omega
                  have hsc := ds6.sc ck hck
                  have hsf := ds6.sf ck hck
                  obtain ⟨sb, hsb⟩ : ∃ sb, sb = sn1.getD ck false := ⟨_, rfl⟩
                  rw [← hsb] at hsc
                  cases sb
                  · have P2 : Pl.Push nt ck ⟨ck, lb, hi', true, hh⟩ S1 sn1 (S1 ++ [⟨ck, lb, hi', true, hh⟩]) (sn1.set ck true) := by
                      refine .inr ⟨h, h', ?_, rfl, rfl⟩
                      show sn1.getD ck true = false
                      rw [List.getD_eq_getElem?_getD] at hsb ⊢
                      rw [List.getElem?_eq_getElem (by omega)] at hsb ⊢
                      exact hsb.symm
                    have f1 := FIN.out _ _ P2
                    have F1 : Hid (Pl.Inv P X L R fk rk (V ++ [⟨n, lo, hi', hl, hh⟩]) (S1 ++ [⟨ck, lb, hi', true, hh⟩]) (sn1.set ck true) ∧ 2 * (sn1.set ck true).count false + (S1 ++ [(⟨ck, lb, hi', true, hh⟩ : Pl.Fr)]).length < gk) := f1
                    clear f1 P2 hsb
                    have hne1 : ¬ bs = F := by omega
                    have hne2 : ¬ F = bs := by omega
                    have hc2 := bx6.c2
                    have hc4 := bx6.c4
                    simp only at hc2 hc4
                    have dsm := ds6.mark ck hck hsnl1
                    go_wp2_with ((at_builtin; refine wpList_append_fits _ rfl (.tmp 198) (.tmp 206) 31 rfl w.heap.size 33 i33 5 Try.underlying31 si sz1 bk S1.length nt (frames S1) rfl (dsm.st.alloc _) ⟨wc.heap.size, 0, none⟩ 1 1 (frc ⟨ck, lb, hi', true, hh⟩) rfl rfl (cell_frc_at _ ⟨ck, lb, hi', true, hh⟩ _ _ (by simp)) (frc_one _) (by omega) ?_; intro w6 hown6 hgrow6))
                    go_roundg (2 * (sn1.set ck true).count false + (S1 ++ [(⟨ck, lb, hi', true, hh⟩ : Pl.Fr)]).length)
                    case measure => exact F1.out.2
                    case rel =>
                      refine ⟨V ++ [⟨n, lo, hi', hl, hh⟩], S1 ++ [⟨ck, lb, hi', true, hh⟩], sn1.set ck true, by simp, by simp, (dsm.alloc _).push hgrow6 hown6, F1.out.1, Nat.le_refl _, ?_⟩
                      exact ((bel6.setCell (p := ⟨bs, ck, none⟩) (by simp; omega) _).alloc (by simp; omega) _).grown hgrow6 (by simp; omega) (fun k h => by cases h; omega)
                  · clear hsb
                    go_wp2
                    go_ret2
                    exact DomPost.no bel6
end Go.Proofs.Qxb6623293a
