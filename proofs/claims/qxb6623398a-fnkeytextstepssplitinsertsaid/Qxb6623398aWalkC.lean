import Derived.Test.Qxb6623398aWalkB
namespace Go.Proofs.Qxb6623398a
open Go.RowKit
set_option linter.unusedVariables false

set_option maxHeartbeats 4000000 in
set_option maxRecDepth 100000 in
theorem law_any (a : Option Addr) (d : Nat) (i : Int) (t : ByteArray) (ss : List ByteArray) (w : World)
    (s0 : Src w a ss) (hd : a = none → d = 0) (m0 : ss.length ≤ 9223372036854775807) (mt : t.size ≤ 9223372036854775807) (ms : ∀ s, s ∈ ss → s.size ≤ 9223372036854775807)
    (bi : -9223372036854775808 ≤ i ∧ i ≤ 9223372036854775807) :
    Calls Try.prog 3 #[.slice a ss.length d, .int .i64 i, .string t] w
      fun r w' => r = .returned (.bool true) ∧ Below w.heap.size w w' := by
  obtain ⟨i9, ui, uz0, uz1, uz2⟩ := info_parts Try.info9
  have q22 := fun (w : World) a n c => run_neq_slice_nil (P := Try.prog) w 22 9 a n c Try.underlying22
  obtain ⟨n, hn⟩ : ∃ n, n = ss.length := ⟨_, rfl⟩
  have HS : Hid (Src w a ss ∧ (a = none → d = 0) ∧ n = ss.length ∧ (∀ s, s ∈ ss → s.size ≤ 9223372036854775807)) := ⟨s0, hd, hn, ms⟩
  rw [← hn] at m0 ⊢
  clear s0 hd hn ms
  go_enter Try.func3, Try.ntmps3
  go_wp2_with fail
  refine Calls.mono (zb_any a n d i t ss w HS.out.2.2.1.symm HS.out.1.at' m0 mt HS.out.2.2.2) ?_
  rintro r w' ⟨⟨b, rfl, hm⟩, rfl⟩
  have HM : Hid (b = true → n + tot ss + t.size ≤ 1048576) := hm
  clear hm
  cases b
  · go_wp2
    go_ret
    exact ⟨rfl, Below.refl _ _⟩
  have HM2 : Hid (n + tot ss + t.size ≤ 1048576) := HM.out rfl
  clear HM
  by_cases n0 : n ≤ 65536
  case neg =>
    go_wp2
    go_ret
    exact ⟨rfl, Below.refl _ _⟩
  by_cases n1 : t.size ≤ 1048576
  case neg =>
    go_wp2
    go_ret
    exact ⟨rfl, Below.refl _ _⟩
  rename World => w
  go_upto_if 30 with fail
  go_cut [0] (fun s wc => ∃ a, s = .slice a n n ∧ CP wc a ss ∧ Below w.heap.size w wc)
  case first =>
    cases a with
    | none =>
      have hp : ss = [] := by
        rcases HS.out.1 with ⟨_, h⟩ | ⟨x, h, _⟩
        · exact h
        · cases h
      have hn0 : n = 0 := by rw [HS.out.2.2.1, hp]; rfl
      have hd0 := HS.out.2.1 rfl
      subst hn0 hd0
      clear hp
      go_wp2
      go_meet
      case rel => exact ⟨none, rfl, .inl ⟨rfl, List.eq_nil_of_length_eq_zero HS.out.2.2.1.symm⟩, Below.refl _ _⟩
    | some x =>
      go_wp2_with ((at_make; refine wpList_make_full _ rfl _ _ 22 rfl w.heap.size 9 i9 _ 1 Try.underlying22 ui uz0 uz1 .i64 .i64 n n n rfl rfl rfl rfl (by rw [uz2]; omega) (by unfold maxLen; omega) (Nat.le_refl _) ?_; intro w1 hown hgrow; obtain ⟨w2, hrun, hcp, hb2⟩ := copy_run d HS.out.2.2.1.symm hown (HS.out.1.keep ((Below.refl _ _).grown hgrow (Nat.le_refl _) (fun _ h => by cases h))) ((Below.refl _ _).grown hgrow (Nat.le_refl _) (fun _ h => by cases h)) (Nat.le_refl _)))
      go_meet
      case rel => exact ⟨_, rfl, hcp, hb2⟩
  case rest =>
    obtain ⟨a', rfl, cp, bl⟩ := hcut
    rename World => wa
    have hlen : n = ss.length := HS.out.2.2.1
    have HL : Hid (n = ss.length) := hlen
    rcases cp with ⟨rfl, hp⟩ | ⟨b, rfl, hb, hc⟩
    · have hn0 : n = 0 := by rw [hlen, hp]; rfl
      subst hn0
      clear hlen HS
      go_wp2
      refine wp_loop_rounds 1 ?_
      rw [rounds_succ]
      rcases (show i < 0 ∨ 0 < i ∨ i = 0 from by omega) with h | h | h
      · go_wp2
        go_ret
        exact ⟨rfl, bl⟩
      · go_wp2
        go_ret
        exact ⟨rfl, bl⟩
      · subst h
        go_wp2_with (first
          | (go_at_call 5; refine (steps_nil none 0 _).mono ?_; rintro e w' ⟨rfl, rfl⟩)
          | (at_make; (refine wpList_make_own _ rfl _ _ 22 rfl wa.heap.size 9 i9 _ 1 Try.underlying22 ui uz0 uz1 .i64 .i64 1 1 rfl rfl rfl (by rw [uz2]; omega) (by unfold maxLen; omega) (Nat.le_refl _) ?_); intro w1 hown1 hgrow1))
        refine wp_loop_rounds 1 ?_
        rw [rounds_succ]
        go_wp2_with ((at_builtin; refine wpList_append_fits _ rfl (.tmp 90) (.tmp 92) 22 rfl wa.heap.size 9 i9 1 Try.underlying22 ui uz1 wa.heap.size 0 1 [] rfl (hown1.alloc _) ⟨w1.heap.size, 0, none⟩ 1 1 [.string t] rfl rfl (cell_one_new _ _ _) (one_str t) (by omega) ?_; intro w2 hown2 hgrow2))
        refine wp_loop_rounds 1 ?_
        rw [rounds_succ]
        have hat := At.row (ss := [t]) rfl hown2
        have bl2 : Below wa.heap.size wa w2 := (((Below.refl _ _).grown hgrow1 (Nat.le_refl _) (fun _ h => by cases h)).alloc (by have := hgrow1.size; omega) _).grown hgrow2 (by have := hgrow1.size; simp; omega) (fun k h => by cases h; exact Nat.le_refl _)
        have blw : Below w.heap.size w w2 := bl.trans (bl2.mono bl.size)
        clear hown1 hgrow1 hown2 hgrow2 bl2
        go_wp2_with ((go_at_call 5; refine (steps_m _ 1 1 t.size [t] _ rfl (tot_one t) hat (by omega) (by omega)).mono ?_; rintro e w' ⟨rfl, rfl⟩))
        go_ret
        exact ⟨rfl, blw⟩
    · have HC : Hid (∀ j, j < n → wa.cell? ⟨b, j, none⟩ = some (.string (ss.getD j ByteArray.empty))) := by rw [hlen]; exact hc
      clear hc hlen HS
      have HT : Hid (∀ k, k < n → tot (ss.take (k + 1)) = tot (ss.take k) + (ss.getD k ByteArray.empty).size) := fun k hk => tot_take_succ ss k (by rw [← HL.out]; exact hk)
      go_upto_region 13 with fail
      go_loop [8, 9] (fun q j => ∃ k : Nat, k ≤ n ∧ j = .int .i64 k ∧ q = .int .i64 ((t.size + 16 * k + tot (ss.take k) : Nat) : Int) ∧ t.size + 16 * k + tot (ss.take k) ≤ 1048576) (fun _ j => n - (intOf j).toNat)
      case atStart => exact ⟨0, Nat.zero_le _, rfl, by simp [tot], by simp [tot]; omega⟩
      case round =>
        obtain ⟨k, hk, rfl, rfl, hq⟩ := hrel
        by_cases hlt : k < n
        · have hcell := HC.out k hlt
          have hts := HT.out k hlt
          generalize ss.getD k ByteArray.empty = s at *
          have HTS : Hid (tot (ss.take (k + 1)) = tot (ss.take k) + s.size) := hts
          clear hts
          have hsz : s.size ≤ 1048576 := by
            have h7 := HM2.out
            have h8 := tot_take_le ss (k + 1)
            have h9 := HTS.out
            omega
          generalize tot (ss.take k) = q at *
          by_cases h2 : t.size + 16 * (k + 1) + (q + s.size) ≤ 1048576
          · go_wp2
            go_round
            case rel => exact ⟨k + 1, by omega, by go_num, by rw [HTS.out]; go_num, by rw [HTS.out]; omega⟩
            case measure => simp [intOf]; omega
          · go_wp2
            go_ret
            exact ⟨rfl, bl⟩
        · have hmm : t.size + 16 * n ≤ 1048576 := by omega
          rcases (show i < 0 ∨ (n : Int) < i ∨ (0 ≤ i ∧ i ≤ n) from by omega) with h | h | ⟨h, h'⟩
          · go_wp2
            go_ret
            exact ⟨rfl, bl⟩
          · go_wp2
            go_ret
            exact ⟨rfl, bl⟩
          · obtain ⟨ik, rfl⟩ := Int.eq_ofNat_of_zero_le h
            have hik : ik ≤ n := by omega
            obtain ⟨m1, hm1⟩ : ∃ m1, tot (ss.take ik) = m1 := ⟨_, rfl⟩
            obtain ⟨m2, hm2⟩ : ∃ m2, tot (ss.drop ik) = m2 := ⟨_, rfl⟩
            have hm : tot ss = m1 + m2 := by
              have := congrArg tot (List.take_append_drop ik ss)
              rw [tot_append] at this
              omega
            have hmb : m1 + m2 ≤ 1048576 := by have := HM2.out; omega
            have HK : Hid (tot (ss.take ik) = m1 ∧ tot (ss.drop ik) = m2 ∧ tot ss = m1 + m2) := ⟨hm1, hm2, hm⟩
            clear hm1 hm2 hm hq
            have hat0 : At wa (some ⟨b, 0, none⟩) ss := by
              have := At.take HC.out HL.out.symm n (Nat.le_refl _)
              rw [List.take_of_length_le (by rw [← HL.out]; exact Nat.le_refl _)] at this
              exact this
            have hat1 := At.take HC.out HL.out.symm ik hik
            go_wp2_with fail
            refine Calls.mono (steps_m _ n n (m1 + m2) ss _ HL.out.symm HK.out.2.2 hat0 (by omega) (by omega)) ?_
            rintro e w' ⟨rfl, rfl⟩
            go_wp2_with fail
            refine Calls.mono (steps_m _ ik n m1 (ss.take ik) _ (by simp; rw [← HL.out]; omega) HK.out.1 hat1 (by omega) (by omega)) ?_
            rintro e w' ⟨rfl, rfl⟩
            go_upto_region 22 with fail
            go_cut [12] (fun v wc => v = .int .i64 (2 * m2) ∧ wa = wc)
            case first =>
              rcases Nat.lt_or_ge ik n with hlt3 | hge3
              · have hat2 := At.drop HC.out HL.out.symm ik (some ⟨b, ik, none⟩) (fun _ => rfl)
                go_wp2_with fail
                refine Calls.mono (steps_m _ (n - ik) (n - ik) m2 (ss.drop ik) _ (by simp; rw [← HL.out]) HK.out.2.1 hat2 (by omega) (by omega)) ?_
                rintro e w' ⟨rfl, rfl⟩
                go_wp2
                go_meet
                case rel => exact ⟨rfl, rfl⟩
              · have hm20 : m2 = 0 := by
                  have := HK.out.2.1
                  rw [List.drop_eq_nil_of_le (by rw [← HL.out]; exact hge3)] at this
                  exact this.symm
                have hike : ik = n := by omega
                subst hike
                subst hm20
                go_wp2_with fail
                refine Calls.mono (steps_nil _ _ _) ?_
                rintro e w' ⟨rfl, rfl⟩
                go_wp2
                go_meet
                case rel => exact ⟨rfl, rfl⟩
            case rest =>
              obtain ⟨rfl, rfl⟩ := hcut
              have HA : Hid (At wa (some ⟨b, 0, none⟩) ss) := hat0
              clear hat0 hat1
              go_upto_region 25 with ((at_make; refine wpList_make_own _ rfl _ _ 22 rfl wa.heap.size 9 i9 _ 1 Try.underlying22 ui uz0 uz1 .i64 .i64 (↑n + 1) (n + 1) rfl rfl (by omega) (by rw [uz2]; omega) (by unfold maxLen; omega) (Nat.le_refl _) ?_; intro w1 hown1 hgrow1))
              have bl1 : Below wa.heap.size wa w1 := (Below.refl _ _).grown hgrow1 (Nat.le_refl _) (fun _ h => by cases h)
              have hl1 := own_lt hown1
              clear HA hgrow1
              go_loopw [13, 14] (fun v j wr => ∃ k : Nat, k ≤ ik ∧ j = .int .i64 k ∧ v = .slice (some ⟨wa.heap.size, 0, none⟩) k (n + 1) ∧ Hid (wr.ownsRow wa.heap.size 9 1 (.slice (some ⟨wa.heap.size, 0, none⟩) k (n + 1)) k (strs (ss.take k))) ∧ Below wa.heap.size wa wr ∧ wa.heap.size < wr.heap.size) (fun _ j _ => ik - (intOf j).toNat)
              case atStart => exact ⟨0, Nat.zero_le _, rfl, rfl, hown1, bl1, hl1⟩
              case round =>
                clear hown1 bl1 hl1
                obtain ⟨k2, hk2, rfl, rfl, hown2, bl2, hl2⟩ := hrel
                by_cases hlt2 : k2 < ik
                · have hcell : wr.cell? ⟨b, k2, none⟩ = some (.string (ss.getD k2 ByteArray.empty)) := (bl2.cell hb).trans (HC.out k2 (by omega))
                  have hsn := take_snoc ss k2 (by rw [← HL.out]; omega)
                  generalize ss.getD k2 ByteArray.empty = s at *
                  have HSN : Hid (ss.take (k2 + 1) = ss.take k2 ++ [s]) := hsn
                  clear hsn
                  go_wp2_with ((at_builtin; refine wpList_append_fits _ rfl (.tmp 83) (.tmp 88) 22 rfl wa.heap.size 9 i9 1 Try.underlying22 ui uz1 wa.heap.size k2 (n + 1) (strs (ss.take k2)) rfl (hown2.out.alloc _) ⟨wr.heap.size, 0, none⟩ 1 1 [.string s] rfl rfl (cell_one_new _ _ _) (one_str s) (by omega) ?_; intro w3 hown3 hgrow3))
                  go_roundw
                  case rel =>
                    refine ⟨k2 + 1, by omega, by go_num, rfl, ?_, (bl2.alloc (by omega) _).grown hgrow3 (by simp; omega) (fun k h => by cases h; exact Nat.le_refl _), by have := hgrow3.size; simp at this; omega⟩
                    show World.ownsRow _ _ _ _ _ _ _
                    rw [show strs (ss.take (k2 + 1)) = strs (ss.take k2) ++ [.string s] from by rw [HSN.out]; simp [strs]]
                    exact hown3
                  case measure => simp [intOf]; omega
                · have hke : k2 = ik := by omega
                  subst hke
                  rename World => wb
                  go_upto_region 30 with ((at_builtin; refine wpList_append_fits _ rfl (.tmp 90) (.tmp 92) 22 rfl wa.heap.size 9 i9 1 Try.underlying22 ui uz1 wa.heap.size k2 (n + 1) (strs (ss.take k2)) rfl (hown2.out.alloc _) ⟨wb.heap.size, 0, none⟩ 1 1 [.string t] rfl rfl (cell_one_new _ _ _) (one_str t) (by omega) ?_; intro w4 hown4 hgrow4))
                  have HO : Hid (w4.ownsRow wa.heap.size 9 1 (.slice (some ⟨wa.heap.size, 0, none⟩) (k2 + 1) (n + 1)) (k2 + 1) (strs (mid ss t k2 k2))) := by
                    show World.ownsRow _ _ _ _ _ _ _
                    rw [mid_start]
                    rw [show strs (ss.take k2 ++ [t]) = strs (ss.take k2) ++ [.string t] from by simp [strs]]
                    exact hown4
                  have bl4 : Below wa.heap.size wa w4 := (bl2.alloc (by omega) _).grown hgrow4 (by simp; omega) (fun k h => by cases h; exact Nat.le_refl _)
                  have hl4 : wa.heap.size < w4.heap.size := own_lt hown4
                  clear hown2 hown4 hgrow4 bl2 hl2
                  go_loopw [13, 15] (fun v j wr => ∃ k : Nat, k2 ≤ k ∧ k ≤ n ∧ j = .int .i64 k ∧ v = .slice (some ⟨wa.heap.size, 0, none⟩) (k + 1) (n + 1) ∧ Hid (wr.ownsRow wa.heap.size 9 1 (.slice (some ⟨wa.heap.size, 0, none⟩) (k + 1) (n + 1)) (k + 1) (strs (mid ss t k2 k))) ∧ Below wa.heap.size wa wr ∧ wa.heap.size < wr.heap.size) (fun _ j _ => n - (intOf j).toNat)
                  case atStart => exact ⟨k2, Nat.le_refl _, by omega, rfl, rfl, HO, bl4, hl4⟩
                  case round =>
                    clear HO bl4 hl4
                    obtain ⟨k3, hk3, hk3n, rfl, rfl, hown5, bl5, hl5⟩ := hrel
                    by_cases hlt3 : k3 < n
                    · have hcell : wr.cell? ⟨b, k3, none⟩ = some (.string (ss.getD k3 ByteArray.empty)) := (bl5.cell hb).trans (HC.out k3 hlt3)
                      have hsn := mid_step ss t k2 k3 hk3 (by rw [← HL.out]; omega)
                      generalize ss.getD k3 ByteArray.empty = s at *
                      have HSN : Hid (mid ss t k2 (k3 + 1) = mid ss t k2 k3 ++ [s]) := hsn
                      clear hsn
                      go_wp2_with ((at_builtin; refine wpList_append_fits _ rfl (.tmp 101) (.tmp 106) 22 rfl wa.heap.size 9 i9 1 Try.underlying22 ui uz1 wa.heap.size (k3 + 1) (n + 1) (strs (mid ss t k2 k3)) rfl (hown5.out.alloc _) ⟨wr.heap.size, 0, none⟩ 1 1 [.string s] rfl rfl (cell_one_new _ _ _) (one_str s) (by omega) ?_; intro w6 hown6 hgrow6))
                      go_roundw
                      case rel =>
                        refine ⟨k3 + 1, by omega, by omega, by go_num, rfl, ?_, (bl5.alloc (by omega) _).grown hgrow6 (by simp; omega) (fun k h => by cases h; exact Nat.le_refl _), by have := hgrow6.size; simp at this; omega⟩
                        show World.ownsRow _ _ _ _ _ _ _
                        rw [show strs (mid ss t k2 (k3 + 1)) = strs (mid ss t k2 k3) ++ [.string s] from by rw [HSN.out]; simp [strs]]
                        exact hown6
                      case measure => simp [intOf]; omega
                    · have hke : k3 = n := by omega
                      subst hke
                      rename World => wz
                      have hml := mid_length ss t k2 k3 hk3 (by rw [← HL.out]; exact Nat.le_refl _)
                      have hat := At.row hml hown5.out
                      have hmt : tot (mid ss t k2 k3) = m1 + t.size + m2 := by
                        rw [HL.out, mid_tot, HK.out.1, HK.out.2.1]
                      have HMT : Hid (tot (mid ss t k2 k3) = m1 + t.size + m2 ∧ (mid ss t k2 k3).length = k3 + 1) := ⟨hmt, hml⟩
                      clear hmt hml
                      have hb1 : (2 * (m1 : Int) + 2 * (m2 : Int) == 2 * ((m1 : Int) + (m2 : Int))) = true := beq_iff_eq.2 (by omega)
                      have hb2 : (2 * ((m1 : Int) + (t.size : Int) + (m2 : Int)) == 2 * ((m1 : Int) + (m2 : Int)) + 2 * (t.size : Int)) = true := beq_iff_eq.2 (by omega)
                      go_wp2_with fail
                      refine Calls.mono (steps_m _ (k3 + 1) (k3 + 1) (m1 + t.size + m2) (mid ss t k2 k3) _ HMT.out.2 HMT.out.1 hat (by omega) (by omega)) ?_
                      rintro e w' ⟨rfl, rfl⟩
                      go_wp2
                      go_ret
                      exact ⟨rfl, bl.trans (bl5.mono bl.size)⟩
end Go.Proofs.Qxb6623398a
