import Derived.Test.Qxb6623293aWalkI
import Derived.Test.Qxb6623293aPlain4
namespace Go.Proofs.Qxb6623293a
open Go.RowKit
set_option linter.unusedVariables false

theorem Try.info27 : (Try.prog.info? 27).map (fun i => (i.zero, i.size, i.bytes)) = some (some (.int .u64 0), 1, 8) := by kernel_rfl
def ints (l : List Int) : List Value := l.map (Value.int .i32)

theorem Try.size27 : (Try.prog.info? 27).map (·.size) = some 1 := by kernel_rfl
theorem Try.size21 : (Try.prog.info? 21).map (·.size) = some 1 := by kernel_rfl

set_option maxHeartbeats 4000000 in
set_option maxRecDepth 100000 in
theorem law_any (a0 a1 a2 a3 : Option Addr) (d0 d1 d2 d3 : Nat) (P X L R : List Int) (first rest e : Int) (w : World)
    (s0 : Src .u64 w a0 P) (s1 : Src .i32 w a1 X) (s2 : Src .i32 w a2 L) (s3 : Src .i32 w a3 R)
    (m0 : P.length ≤ 9223372036854775807) (m1 : X.length ≤ 9223372036854775807) (m2 : L.length ≤ 9223372036854775807) (m3 : R.length ≤ 9223372036854775807)
    (xw : fits X) (lw : fits L) (rw' : fits R)
    (wf : -2147483648 ≤ first ∧ first ≤ 2147483647) (wr : -2147483648 ≤ rest ∧ rest ≤ 2147483647) (we : -2147483648 ≤ e ∧ e ≤ 2147483647) :
    Calls Try.prog 3 #[.slice a0 P.length d0, .slice a1 X.length d1, .slice a2 L.length d2, .slice a3 R.length d3, .int .i32 first, .int .i32 rest, .int .i32 e] w
      fun r w' => r = .returned (.bool true) ∧ Below w.heap.size w w' := by
  obtain ⟨i27, ui, uz0, uz1, uz2⟩ := info_parts Try.info27
  obtain ⟨i21, hi, hz0, hz1, hz2⟩ := info_parts Try.info21
  have q22 := fun (w : World) a n c => run_neq_slice_nil (P := Try.prog) w 22 27 a n c Try.underlying22
  have q23 := fun (w : World) a n c => run_neq_slice_nil (P := Try.prog) w 23 21 a n c Try.underlying23
  have HS : Hid (Src .u64 w a0 P ∧ Src .i32 w a1 X ∧ Src .i32 w a2 L ∧ Src .i32 w a3 R) := ⟨s0, s1, s2, s3⟩
  have HF : Hid (fits X ∧ fits L ∧ fits R) := ⟨xw, lw, rw'⟩
  clear s0 s1 s2 s3 xw lw rw'
  go_enter Try.func3, Try.ntmps3
  go_wp2_with fail
  refine Calls.mono (bytes_any a0 a1 a2 a3 P.length d0 X.length d1 L.length d2 R.length d3 first rest e w m0 m1 m2 m3) ?_
  rintro r w' ⟨⟨b, rfl⟩, rfl⟩
  cases b
  · go_wp2
    go_ret
    exact ⟨rfl, Below.refl _ _⟩
  by_cases n0 : P.length ≤ 32768
  case neg =>
    go_wp2
    go_ret
    exact ⟨rfl, Below.refl _ _⟩
  by_cases n1 : X.length ≤ 32768
  case neg =>
    go_wp2
    go_ret
    exact ⟨rfl, Below.refl _ _⟩
  by_cases n2 : L.length ≤ 32768
  case neg =>
    go_wp2
    go_ret
    exact ⟨rfl, Below.refl _ _⟩
  by_cases n3 : R.length ≤ 32768
  case neg =>
    go_wp2
    go_ret
    exact ⟨rfl, Below.refl _ _⟩
  rename World => w
  go_upto_if 57 with fail
  go_cut [0] (fun s wc => ∃ a c, s = .slice a P.length c ∧ CP .u64 wc a P ∧ Below w.heap.size w wc)
  case first =>
    have s0 := HS.out.1
    cases a0 with
    | none =>
      have hp : P = [] := by
        rcases s0 with ⟨_, h⟩ | ⟨x, h, _⟩
        · exact h
        · cases h
      go_wp2
      go_meet
      case rel => exact ⟨none, d0, rfl, .inl ⟨rfl, hp⟩, Below.refl _ _⟩
    | some x =>
      have HS0 : Hid (Src .u64 w (some x) P) := s0
      clear s0
      go_wp2_with ((at_make; refine wpList_make_full _ rfl _ _ 22 rfl w.heap.size 27 i27 _ 1 Try.underlying22 ui uz0 uz1 .i64 .i64 P.length P.length P.length rfl rfl rfl rfl (by rw [uz2]; omega) (by unfold maxLen; omega) (Nat.le_refl _) ?_; intro w1 hown hgrow; obtain ⟨w2, hrun, hcp, hb2⟩ := copy_run 22 27 Try.underlying22 Try.size27 d0 rfl hown (HS0.out.keep ((Below.refl _ _).grown hgrow (Nat.le_refl _) (fun _ h => by cases h))) ((Below.refl _ _).grown hgrow (Nat.le_refl _) (fun _ h => by cases h)) (Nat.le_refl _)))
      go_meet
      case rel => exact ⟨_, _, rfl, hcp, hb2⟩
  case rest =>
    obtain ⟨b0, c0, rfl, cp0, bl0⟩ := hcut
    rename World => wa
    have hwx : w.heap.size ≤ wa.heap.size := bl0.size
    go_upto_if 66 with fail
    go_cut [1] (fun s wc => ∃ a c, s = .slice a X.length c ∧ CP .i32 wc a X ∧ Below wa.heap.size wa wc)
    case first =>
      have s0 := (HS.out.2.1).keep bl0
      cases a1 with
      | none =>
        have hp : X = [] := by
          rcases s0 with ⟨_, h⟩ | ⟨x, h, _⟩
          · exact h
          · cases h
        go_wp2
        go_meet
        case rel => exact ⟨none, d1, rfl, .inl ⟨rfl, hp⟩, Below.refl _ _⟩
      | some x =>
        have HS0 : Hid (Src .i32 wa (some x) X) := s0
        clear s0
        go_wp2_with ((at_make; refine wpList_make_full _ rfl _ _ 23 rfl wa.heap.size 21 i21 _ 1 Try.underlying23 hi hz0 hz1 .i64 .i64 X.length X.length X.length rfl rfl rfl rfl (by rw [hz2]; omega) (by unfold maxLen; omega) (Nat.le_refl _) ?_; intro w1 hown hgrow; obtain ⟨w2, hrun, hcp, hb2⟩ := copy_run 23 21 Try.underlying23 Try.size21 d1 rfl hown (HS0.out.keep ((Below.refl _ _).grown hgrow (Nat.le_refl _) (fun _ h => by cases h))) ((Below.refl _ _).grown hgrow (Nat.le_refl _) (fun _ h => by cases h)) (Nat.le_refl _)))
        go_meet
        case rel => exact ⟨_, _, rfl, hcp, hb2⟩
    case rest =>
      obtain ⟨b1, c1, rfl, cp1, bl1⟩ := hcut
      rename World => wb
      replace cp0 := cp0.keep bl1
      have blw1 := bl0.trans (bl1.mono hwx)
      clear bl0 bl1 hwx
      have hwx : w.heap.size ≤ wb.heap.size := blw1.size
      go_upto_if 75 with fail
      go_cut [2] (fun s wc => ∃ a c, s = .slice a L.length c ∧ CP .i32 wc a L ∧ Below wb.heap.size wb wc)
      case first =>
        have s0 := (HS.out.2.2.1).keep blw1
        cases a2 with
        | none =>
          have hp : L = [] := by
            rcases s0 with ⟨_, h⟩ | ⟨x, h, _⟩
            · exact h
            · cases h
          go_wp2
          go_meet
          case rel => exact ⟨none, d2, rfl, .inl ⟨rfl, hp⟩, Below.refl _ _⟩
        | some x =>
          have HS0 : Hid (Src .i32 wb (some x) L) := s0
          clear s0
          go_wp2_with ((at_make; refine wpList_make_full _ rfl _ _ 23 rfl wb.heap.size 21 i21 _ 1 Try.underlying23 hi hz0 hz1 .i64 .i64 L.length L.length L.length rfl rfl rfl rfl (by rw [hz2]; omega) (by unfold maxLen; omega) (Nat.le_refl _) ?_; intro w1 hown hgrow; obtain ⟨w2, hrun, hcp, hb2⟩ := copy_run 23 21 Try.underlying23 Try.size21 d2 rfl hown (HS0.out.keep ((Below.refl _ _).grown hgrow (Nat.le_refl _) (fun _ h => by cases h))) ((Below.refl _ _).grown hgrow (Nat.le_refl _) (fun _ h => by cases h)) (Nat.le_refl _)))
          go_meet
          case rel => exact ⟨_, _, rfl, hcp, hb2⟩
      case rest =>
        obtain ⟨b2, c2, rfl, cp2, bl2⟩ := hcut
        rename World => we'
        replace cp0 := cp0.keep bl2
        replace cp1 := cp1.keep bl2
        have blw2 := blw1.trans (bl2.mono hwx)
        clear blw1 bl2 hwx
        have hwx : w.heap.size ≤ we'.heap.size := blw2.size
        go_upto_if 84 with fail
        go_cut [3] (fun s wc => ∃ a c, s = .slice a R.length c ∧ CP .i32 wc a R ∧ Below we'.heap.size we' wc)
        case first =>
          have s0 := (HS.out.2.2.2).keep blw2
          cases a3 with
          | none =>
            have hp : R = [] := by
              rcases s0 with ⟨_, h⟩ | ⟨x, h, _⟩
              · exact h
              · cases h
            go_wp2
            go_meet
            case rel => exact ⟨none, d3, rfl, .inl ⟨rfl, hp⟩, Below.refl _ _⟩
          | some x =>
            have HS0 : Hid (Src .i32 we' (some x) R) := s0
            clear s0
            go_wp2_with ((at_make; refine wpList_make_full _ rfl _ _ 23 rfl we'.heap.size 21 i21 _ 1 Try.underlying23 hi hz0 hz1 .i64 .i64 R.length R.length R.length rfl rfl rfl rfl (by rw [hz2]; omega) (by unfold maxLen; omega) (Nat.le_refl _) ?_; intro w1 hown hgrow; obtain ⟨w2, hrun, hcp, hb2⟩ := copy_run 23 21 Try.underlying23 Try.size21 d3 rfl hown (HS0.out.keep ((Below.refl _ _).grown hgrow (Nat.le_refl _) (fun _ h => by cases h))) ((Below.refl _ _).grown hgrow (Nat.le_refl _) (fun _ h => by cases h)) (Nat.le_refl _)))
            go_meet
            case rel => exact ⟨_, _, rfl, hcp, hb2⟩
        case rest =>
          obtain ⟨b3, c3, rfl, cp3, bl3⟩ := hcut
          rename World => wd
          replace cp0 := cp0.keep bl3
          replace cp1 := cp1.keep bl3
          replace cp2 := cp2.keep bl3
          have blw3 := blw2.trans (bl3.mono hwx)
          clear blw2 bl3 hwx
          have hwx : w.heap.size ≤ wd.heap.size := blw3.size
          go_wp2_with fail
          refine Calls.mono (dom_any b0 b1 b2 b3 c0 c1 c2 c3 P X L R first rest e wd cp0 cp1 cp2 cp3 n0 n1 n2 n3 HF.out.1 HF.out.2.1 HF.out.2.2 wf wr we) ?_
          rintro r w5 ⟨hb5, v, ok, rfl, hok⟩
          cases ok
          · go_wp2
            go_ret
            exact ⟨rfl, blw3.trans (hb5.mono hwx)⟩
          obtain ⟨hD, V, hcl, hvl, gr, rfl, hgl, hgc⟩ := hok rfl
          clear hok
          obtain ⟨e1, e2, e3, e4, e5, e6, e7, e8⟩ := hD
          obtain ⟨p0, rfl, lp0, pc⟩ := (cp0.keep hb5).pos (by omega)
          obtain ⟨p1, rfl, lp1, xc⟩ := (cp1.keep hb5).pos (by omega)
          obtain ⟨p2, rfl, lp2, lc⟩ := (cp2.keep hb5).pos (by omega)
          obtain ⟨p3, rfl, lp3, rc⟩ := (cp3.keep hb5).pos (by omega)
          have bl5 := blw3.trans (hb5.mono hwx)
          have hw5 : w.heap.size ≤ w5.heap.size := bl5.size
          clear cp0 cp1 cp2 cp3 hb5 blw3 hwx
          obtain ⟨ek, rfl⟩ := Int.eq_ofNat_of_zero_le e3
          have hek : ek < P.length := by omega
          have hce := pc ek hek
          obtain ⟨c, hc⟩ : ∃ c, c = P.getD ek 0 := ⟨_, rfl⟩
          rw [← hc] at hce
          have HC : Hid (c = P.getD ek 0) := hc
          clear hc
          obtain ⟨np, hnp⟩ : ∃ np, np = P.length := ⟨_, rfl⟩
          obtain ⟨nt, hnt⟩ : ∃ nt, nt = X.length := ⟨_, rfl⟩
          obtain ⟨nv, hnv⟩ : ∃ nv, nv = V.length := ⟨_, rfl⟩
          rw [e1, e2]
          rw [← hnp] at e4 e6 pc n0 hek m0 ⊢
          rw [← hnt] at e8 xc n1 m1 hvl ⊢
          rw [← hnv] at hvl hgc ⊢
          have HN : Hid (np = P.length ∧ nt = X.length ∧ nv = V.length ∧ L.length = X.length ∧ R.length = X.length) := ⟨hnp, hnt, hnv, e1, e2⟩
          have HM : Hid ((∀ j, j < np → w5.cell? ⟨p0, j, none⟩ = some (.int .u64 (P.getD j 0))) ∧ (∀ j, j < nt → w5.cell? ⟨p1, j, none⟩ = some (.int .i32 (X.getD j 0))) ∧ (∀ j, j < nt → w5.cell? ⟨p2, j, none⟩ = some (.int .i32 (L.getD j 0))) ∧ (∀ j, j < nt → w5.cell? ⟨p3, j, none⟩ = some (.int .i32 (R.getD j 0))) ∧ (∀ j, j < nv → w5.cell? ⟨gr, j, none⟩ = some (.int .i32 ((V.map fun f => f.node).getD j 0)))) := ⟨pc, xc, fun j hj => lc j (by omega), fun j hj => rc j (by omega), hgc⟩
          clear hnp hnt hnv e1 e2 pc xc lc rc hgc m2 m3 n2 n3 q22 q23
          go_upto_if 114 with ((at_make; refine wpList_make_own _ rfl _ _ 23 rfl w5.heap.size 21 i21 _ 1 Try.underlying23 hi hz0 hz1 .i64 .i64 (↑nv + 1) (nv + 1) rfl rfl (by omega) (by rw [hz2]; omega) (by unfold maxLen; omega) (Nat.le_refl _) ?_; intro w6 hown6 hgrow6))
          have bl6 : Below w5.heap.size w5 w6 := (Below.refl _ _).grown hgrow6 (Nat.le_refl _) (fun _ h => by cases h)
          go_cut [28] (fun s wc => s = .slice (some ⟨w5.heap.size, 0, none⟩) (Pl.c0 first).length (nv + 1) ∧ wc.ownsRow w5.heap.size 21 1 (.slice (some ⟨w5.heap.size, 0, none⟩) (Pl.c0 first).length (nv + 1)) (Pl.c0 first).length (ints (Pl.c0 first)) ∧ Below w5.heap.size w5 wc)
          case first =>
            by_cases hf : first = 0
            · subst hf
              go_wp2
              go_meet
              case rel => exact ⟨rfl, hown6, bl6⟩
            · have hfd : (first != 0) = true := by rw [bne_iff_ne]; exact hf
              have HF0 : Hid (Pl.c0 first = [first]) := by unfold Pl.c0; rw [if_neg hf]; rfl
              clear hf
              go_wp2_with ((at_builtin; refine wpList_append_fits _ rfl (.tmp 115) (.tmp 117) 23 rfl w5.heap.size 21 i21 1 Try.underlying23 hi hz1 w5.heap.size 0 (nv + 1) [] rfl (hown6.alloc _) ⟨w6.heap.size, 0, none⟩ 1 1 [.int .i32 first] rfl rfl (cell_one_at _ _ _ _ rfl) (one_int _) (by omega) ?_; intro w7 hown7 hgrow7))
              go_meet
              case rel =>
                rw [HF0.out]
                exact ⟨rfl, hown7, (bl6.alloc bl6.size _).grown hgrow7 (by have := bl6.size; simp; omega) (fun k h => by cases h; exact Nat.le_refl _)⟩
          case rest =>
            obtain ⟨rfl, hown, blc⟩ := hcut
            rename World => w7
            have hc01 := Pl.c0_length first
            go_upto_region 39 with fail
            have hwl : w5.heap.size < w7.heap.size := own_lt hown
            clear hown6 hgrow6 bl6
            go_loopw [28, 29] (fun cv i wr => ∃ k : Nat, k ≤ nv ∧ i = .int .i64 k ∧ cv = .slice (some ⟨w5.heap.size, 0, none⟩) ((Pl.c0 first).length + k) (nv + 1) ∧ Hid (wr.ownsRow w5.heap.size 21 1 (.slice (some ⟨w5.heap.size, 0, none⟩) ((Pl.c0 first).length + k) (nv + 1)) ((Pl.c0 first).length + k) (ints (Pl.c0 first ++ (Pl.tl X V).take k))) ∧ Below w5.heap.size w5 wr ∧ w5.heap.size < wr.heap.size) (fun _ i _ => nv - (intOf i).toNat)
            case atStart => exact ⟨0, Nat.zero_le _, rfl, rfl, by unfold Hid; simpa using hown, blc, hwl⟩
            case round =>
              clear hown blc hwl
              obtain ⟨k, hk, rfl, rfl, hown, blc, hwl⟩ := hrel
              by_cases hlt : k < nv
              · have hrng := hcl.node_rng k (by rw [← HN.out.2.2.1]; exact hlt)
                rw [← HN.out.2.1] at hrng
                have hg : wr.cell? ⟨gr, k, none⟩ = some (.int .i32 ((V.map fun f => f.node).getD k 0)) := (blc.cell hgl).trans (HM.out.2.2.2.2 k hlt)
                have htl := Pl.tl_at X V k (by rw [← HN.out.2.2.1]; exact hlt)
                have hsn := Pl.take_snoc (Pl.tl X V) k (by rw [Pl.tl_length, ← HN.out.2.2.1]; exact hlt)
                rw [htl] at hsn
                generalize (V.map fun f => f.node).getD k 0 = nd at *
                obtain ⟨ndk, rfl⟩ := Int.eq_ofNat_of_zero_le (show 0 ≤ nd by omega)
                have hndk : ndk < nt := by omega
                have hx : wr.cell? ⟨p1, ndk, none⟩ = some (.int .i32 (X.getD ndk 0)) := (blc.cell lp1).trans (HM.out.2.1 ndk hndk)
                have hgx : Pl.g X ndk = X.getD ndk 0 := rfl
                rw [hgx] at hsn
                obtain ⟨x, ex⟩ : ∃ x, x = X.getD ndk 0 := ⟨_, rfl⟩
                rw [← ex] at hx hsn
                have HSN : Hid ((Pl.tl X V).take (k + 1) = (Pl.tl X V).take k ++ [x]) := hsn
                clear hsn htl hgx ex
                go_wp2_with ((at_builtin; refine wpList_append_fits _ rfl (.tmp 125) (.tmp 133) 23 rfl w5.heap.size 21 i21 1 Try.underlying23 hi hz1 w5.heap.size ((Pl.c0 first).length + k) (nv + 1) (ints (Pl.c0 first ++ (Pl.tl X V).take k)) rfl (hown.out.alloc _) ⟨wr.heap.size, 0, none⟩ 1 1 [.int .i32 x] rfl rfl (cell_one_at _ _ _ _ rfl) (one_int _) (by omega) ?_; intro w8 hown8 hgrow8))
                go_roundw
                case rel =>
                  refine ⟨k + 1, by omega, by go_num, by simp; omega, ?_, (blc.alloc (by omega) _).grown hgrow8 (by simp; omega) (fun k h => by cases h; exact Nat.le_refl _), by have := hgrow8.size; simp at this; omega⟩
                  have e : ints (Pl.c0 first ++ (Pl.tl X V).take (k + 1)) = ints (Pl.c0 first ++ (Pl.tl X V).take k) ++ [.int .i32 x] := by rw [HSN.out]; simp [ints]
                  show World.ownsRow _ _ _ _ _ _ _
                  rw [e, ← Nat.add_assoc]
                  exact hown8
                case measure => simp [intOf]; omega
              · rename World => w8
                have hkn : k = nv := by omega
                have hown9 : w8.ownsRow w5.heap.size 21 1 (.slice (some ⟨w5.heap.size, 0, none⟩) ((Pl.c0 first).length + k) (nv + 1)) ((Pl.c0 first).length + k) (ints (Pl.cands X first V)) := by
                  have h := hown.out
                  rw [List.take_of_length_le (by rw [Pl.tl_length, ← HN.out.2.2.1]; omega), ← Pl.cands_eq] at h
                  exact h
                have hCl : (Pl.cands X first V).length = (Pl.c0 first).length + k := by
                  rw [Pl.cands_eq, List.length_append, Pl.tl_length, ← HN.out.2.2.1]; omega
                have HCC : Hid (∀ j, j < (Pl.c0 first).length + k → w8.cell? ⟨w5.heap.size, j, none⟩ = some (.int .i32 ((Pl.cands X first V).getD j 0))) := by
                  intro j hj
                  rw [hown9.cellAt j (by omega)]
                  simp [ints, hCl, hj]
                have HCR : Hid (∀ x, x ∈ Pl.cands X first V → 0 < x ∧ x < np) := by
                  intro x hx
                  have := hcl.cands_rng e5 (by rw [← HN.out.1]; exact e6) x hx
                  rw [← HN.out.1] at this
                  exact this
                have HCL : Hid ((Pl.cands X first V).length = (Pl.c0 first).length + k) := hCl
                have hnC : (Pl.c0 first).length + k ≤ 32769 := by omega
                clear hown9 hown hCl hkn
                generalize (Pl.c0 first).length + k = nC at *
                go_upto_region 43 with fail
                go_loop [22, 23, 24, 25, 26, 27, 30] (fun wb wa lb la hb ha i => ∃ (k2 : Nat) (wbv wav lbv lav : Int) (hbv hav : Bool), k2 ≤ nC ∧ i = .int .i64 k2 ∧ wb = .int .i32 wbv ∧ wa = .int .i32 wav ∧ lb = .int .u64 lbv ∧ la = .int .u64 lav ∧ hb = .bool hbv ∧ ha = .bool hav ∧ Hid (Pl.SB P c ((Pl.cands X first V).take k2) hbv lbv wbv) ∧ Hid (Pl.SA P c ((Pl.cands X first V).take k2) hav lav wav))
                  (fun _ _ _ _ _ _ i => nC - (intOf i).toNat)
                case atStart => exact ⟨0, 0, 0, 0, 0, false, false, Nat.zero_le _, rfl, rfl, rfl, rfl, rfl, rfl, rfl, Pl.SB.nil, Pl.SA.nil⟩
                case round =>
                  obtain ⟨k2, wbv, wav, lbv, lav, hbv, hav, hk2, rfl, rfl, rfl, rfl, rfl, rfl, rfl, sb, sa⟩ := hrel
                  by_cases hlt2 : k2 < nC
                  · have hxc := HCC.out k2 hlt2
                    have hxr := HCR.out ((Pl.cands X first V).getD k2 0) (by rw [List.getD_eq_getElem?_getD, List.getElem?_eq_getElem (by rw [HCL.out]; exact hlt2)]; exact List.getElem_mem _)
                    have hsn := Pl.take_snoc (Pl.cands X first V) k2 (by rw [HCL.out]; exact hlt2)
                    generalize (Pl.cands X first V).getD k2 0 = x at *
                    obtain ⟨hx1, hx2⟩ := hxr
                    obtain ⟨xk, rfl⟩ := Int.eq_ofNat_of_zero_le (show 0 ≤ x by omega)
                    have hxk : xk < np := by omega
                    have hpx : w8.cell? ⟨p0, xk, none⟩ = some (.int .u64 (P.getD xk 0)) := (blc.cell lp0).trans (HM.out.1 xk hxk)
                    obtain ⟨lx, hlx⟩ : ∃ lx, lx = P.getD xk 0 := ⟨_, rfl⟩
                    rw [← hlx] at hpx
                    have HG : Hid (Pl.g P xk = lx) := hlx.symm
                    have HSN : Hid ((Pl.cands X first V).take (k2 + 1) = (Pl.cands X first V).take k2 ++ [(xk : Int)]) := hsn
                    clear hsn hlx
                    have bskip : (¬ lx < c ∨ (hbv = true ∧ lx ≤ lbv)) → Pl.SB P c ((Pl.cands X first V).take (k2 + 1)) hbv lbv wbv := by
                      intro q; rw [HSN.out]; exact sb.out.skip (by rw [HG.out]; exact q)
                    have btake : lx < c → (hbv = false ∨ lbv < lx) → Pl.SB P c ((Pl.cands X first V).take (k2 + 1)) true lx xk := by
                      intro q q2; rw [HSN.out]
                      have := sb.out.take hx1 (by rw [HG.out]; exact q) (by rw [HG.out]; exact q2)
                      rw [HG.out] at this; exact this
                    have askip : (lx < c ∨ (hav = true ∧ lav ≤ lx)) → Pl.SA P c ((Pl.cands X first V).take (k2 + 1)) hav lav wav := by
                      intro q; rw [HSN.out]; exact sa.out.skip (by rw [HG.out]; exact q)
                    have atake : c ≤ lx → (hav = false ∨ lx < lav) → Pl.SA P c ((Pl.cands X first V).take (k2 + 1)) true lx xk := by
                      intro q q2; rw [HSN.out]
                      have := sa.out.take hx1 (by rw [HG.out]; exact q) (by rw [HG.out]; exact q2)
                      rw [HG.out] at this; exact this
                    by_cases hc1 : lx < c
                    · have A : Hid (Pl.SA P c ((Pl.cands X first V).take (k2 + 1)) hav lav wav) := askip (.inl hc1)
                      by_cases hc2 : hbv = false ∨ lbv < lx
                      · have B : Hid (Pl.SB P c ((Pl.cands X first V).take (k2 + 1)) true lx xk) := btake hc1 hc2
                        clear bskip btake askip atake
                        cases hbv
                        · clear hc2
                          go_wp2
                          go_round
                          case rel => exact ⟨k2 + 1, _, _, _, _, _, _, by omega, by go_num, rfl, rfl, rfl, rfl, rfl, rfl, B, A⟩
                          case measure => simp [intOf]; omega
                        · have hc3 : lbv < lx := by rcases hc2 with h | h; cases h; exact h
                          clear hc2
                          go_wp2
                          go_round
                          case rel => exact ⟨k2 + 1, _, _, _, _, _, _, by omega, by go_num, rfl, rfl, rfl, rfl, rfl, rfl, B, A⟩
                          case measure => simp [intOf]; omega
                      · have hb3 : hbv = true := by cases hbv; exact absurd (.inl rfl) hc2; rfl
                        have hc3 : lx ≤ lbv := by
                          by_cases q : lx ≤ lbv
                          · exact q
                          · exact absurd (.inr (by omega)) hc2
                        have B : Hid (Pl.SB P c ((Pl.cands X first V).take (k2 + 1)) hbv lbv wbv) := bskip (.inr ⟨hb3, hc3⟩)
                        clear bskip btake askip atake hc2
                        subst hb3
                        go_wp2
                        go_round
                        case rel => exact ⟨k2 + 1, _, _, _, _, _, _, by omega, by go_num, rfl, rfl, rfl, rfl, rfl, rfl, B, A⟩
                        case measure => simp [intOf]; omega
                    · have hc1' : c ≤ lx := by omega
                      have B : Hid (Pl.SB P c ((Pl.cands X first V).take (k2 + 1)) hbv lbv wbv) := bskip (.inl hc1)
                      by_cases hc2 : hav = false ∨ lx < lav
                      · have A : Hid (Pl.SA P c ((Pl.cands X first V).take (k2 + 1)) true lx xk) := atake hc1' hc2
                        clear bskip btake askip atake
                        cases hav
                        · clear hc2
                          go_wp2
                          go_round
                          case rel => exact ⟨k2 + 1, _, _, _, _, _, _, by omega, by go_num, rfl, rfl, rfl, rfl, rfl, rfl, B, A⟩
                          case measure => simp [intOf]; omega
                        · have hc3 : lx < lav := by rcases hc2 with h | h; cases h; exact h
                          clear hc2
                          go_wp2
                          go_round
                          case rel => exact ⟨k2 + 1, _, _, _, _, _, _, by omega, by go_num, rfl, rfl, rfl, rfl, rfl, rfl, B, A⟩
                          case measure => simp [intOf]; omega
                      · have hb3 : hav = true := by cases hav; exact absurd (.inl rfl) hc2; rfl
                        have hc3 : lav ≤ lx := by
                          by_cases q : lav ≤ lx
                          · exact q
                          · exact absurd (.inr (by omega)) hc2
                        have A : Hid (Pl.SA P c ((Pl.cands X first V).take (k2 + 1)) hav lav wav) := askip (.inr ⟨hb3, hc3⟩)
                        clear bskip btake askip atake hc2
                        subst hb3
                        go_wp2
                        go_round
                        case rel => exact ⟨k2 + 1, _, _, _, _, _, _, by omega, by go_num, rfl, rfl, rfl, rfl, rfl, rfl, B, A⟩
                        case measure => simp [intOf]; omega
                  · rw [List.take_of_length_le (by rw [HCL.out]; omega)] at sb sa
                    go_wp2_with fail
                    have hgc : Pl.g P ek = c := HC.out.symm
                    refine Calls.mono (zz_any p0 p1 p2 p3 np nt c0 c1 c2 c3 P X L R first rest ek w8 (fun j hj => (blc.cell lp0).trans (HM.out.1 j hj)) (fun j hj => (blc.cell lp1).trans (HM.out.2.1 j hj)) (fun j hj => (blc.cell lp2).trans (HM.out.2.2.1 j hj)) (fun j hj => (blc.cell lp3).trans (HM.out.2.2.2.1 j hj)) (by omega) (by omega) (by omega) (by omega) n0 n1 HN.out.1.symm HN.out.2.1.symm e5 e6 e3 e4 V.length (hcl.okPath _)) ?_
                    rintro r w9 ⟨⟨bv, av, rfl, hres⟩, hb9⟩
                    rw [hgc] at hres
                    obtain ⟨q1, q2⟩ := hcl.same c e5 sb.out sa.out hres
                    subst q1 q2
                    clear hres hgc
                    go_wp2
                    go_ret
                    exact ⟨rfl, bl5.trans ((blc.mono hw5).trans (hb9.mono (by omega)))⟩
end Go.Proofs.Qxb6623293a
