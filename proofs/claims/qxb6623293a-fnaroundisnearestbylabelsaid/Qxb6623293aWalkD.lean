import Derived.Test.Qxb6623293aWalkC
import Derived.Deep.LoopGhost
namespace Go.Proofs.Qxb6623293a
open Go.RowKit
set_option linter.unusedVariables false

theorem b4 (w : World) (o1 o2 o3 o4 : Obj) : Below w.heap.size w ((((w.alloc o1).alloc o2).alloc o3).alloc o4) :=
  ((((Below.refl _ _).alloc (Nat.le_refl _) _).alloc (by simp) _).alloc (by simp; omega) _).alloc (by simp; omega) _
theorem b5 (w : World) (o1 o2 o3 o4 o5 : Obj) : Below w.heap.size w (((((w.alloc o1).alloc o2).alloc o3).alloc o4).alloc o5) :=
  (b4 w o1 o2 o3 o4).alloc (by simp; omega) _

theorem St.start (bj bt bp np cp nt ct : Nat) (P X L R : List Int) (first rest c : Int) (w : World)
    (tr : w.cell? ⟨bj, 3, none⟩ = some (.slice (some ⟨bt, 0, none⟩) nt ct))
    (pl : w.cell? ⟨bj, 5, none⟩ = some (.slice (some ⟨bp, 0, none⟩) np cp))
    (pc : ∀ k, k < np → w.cell? ⟨bp, k * 3, none⟩ = some (.int .u64 (P.getD k 0)))
    (xc : ∀ k, k < nt → w.cell? ⟨bt, k * 4, none⟩ = some (.int .i32 (X.getD k 0)))
    (lc : ∀ k, k < nt → w.cell? ⟨bt, k * 4 + 1, none⟩ = some (.int .i32 (L.getD k 0)))
    (rc : ∀ k, k < nt → w.cell? ⟨bt, k * 4 + 2, none⟩ = some (.int .i32 (R.getD k 0)))
    (jl : bj < w.heap.size) (tl : bt < w.heap.size) (ql : bp < w.heap.size) (h0 : 0 < np) :
    St (((((w.alloc (.cells #[.pointer (some ⟨bj, 0, none⟩)] 42)).alloc (.cells #[.int .i32 first, .int .i32 rest] 54)).alloc (.cells #[.int .i32 0] 38)).alloc (.cells #[.int .i32 0] 38)).alloc (.cells #[.int .u64 c] 27))
      w.heap.size bj bt bp np cp nt ct P X L R c 0 0 := by
  have hb := b5 w (.cells #[.pointer (some ⟨bj, 0, none⟩)] 42) (.cells #[.int .i32 first, .int .i32 rest] 54) (.cells #[.int .i32 0] 38) (.cells #[.int .i32 0] 38) (.cells #[.int .u64 c] 27)
  refine ⟨?_, (hb.cell jl).trans tr, (hb.cell jl).trans pl, ?_, ?_, ?_, ?_, ?_, fun k hk => (hb.cell ql).trans (pc k hk), fun k hk => (hb.cell tl).trans (xc k hk), fun k hk => (hb.cell tl).trans (lc k hk), fun k hk => (hb.cell tl).trans (rc k hk), jl, tl, ql, by omega, by omega, by omega, by omega⟩
  all_goals simp [go_sem]

theorem okPath_open {P X L R : List Int} {c : Int} {f : Nat} {n : Int} (h : Pl.okPath P X L R c f n) (hn : n ≠ 0) :
    ∃ f', f = f' + 1 ∧ 0 < n ∧ n < X.length ∧ 0 < Pl.g X n ∧ Pl.g X n < P.length ∧ Pl.okPath P X L R c f' (Pl.nxt P X L R c n) := by
  cases f with
  | zero => exact absurd h hn
  | succ f' =>
    rcases h with h | h
    · exact absurd h hn
    · exact ⟨f', rfl, h⟩

set_option maxHeartbeats 1000000 in
theorem around_any (bj bt bp np cp nt ct : Nat) (P X L R : List Int) (first rest e : Int) (w : World)
    (tr : w.cell? ⟨bj, 3, none⟩ = some (.slice (some ⟨bt, 0, none⟩) nt ct))
    (pl : w.cell? ⟨bj, 5, none⟩ = some (.slice (some ⟨bp, 0, none⟩) np cp))
    (pc : ∀ k, k < np → w.cell? ⟨bp, k * 3, none⟩ = some (.int .u64 (P.getD k 0)))
    (xc : ∀ k, k < nt → w.cell? ⟨bt, k * 4, none⟩ = some (.int .i32 (X.getD k 0)))
    (lc : ∀ k, k < nt → w.cell? ⟨bt, k * 4 + 1, none⟩ = some (.int .i32 (L.getD k 0)))
    (rc : ∀ k, k < nt → w.cell? ⟨bt, k * 4 + 2, none⟩ = some (.int .i32 (R.getD k 0)))
    (jl : bj < w.heap.size) (tl : bt < w.heap.size) (ql : bp < w.heap.size)
    (hP : P.length = np) (hX : X.length = nt)
    (f0 : 0 ≤ first) (f1 : first < np) (e0 : 0 ≤ e) (e1 : e < np) (f : Nat) (hok : Pl.okPath P X L R (Pl.g P e) f rest) :
    Calls Try.prog 7 #[.pointer (some ⟨bj, 0, none⟩), .agg #[.int .i32 first, .int .i32 rest], .int .i32 e] w
      fun r w' => (∃ bv av, r = .returned (.tuple #[.int .i32 bv, .int .i32 av]) ∧ (bv, av) = Pl.walkF P X L R (Pl.g P e) f rest (if first = 0 then (0, 0) else Pl.closer P (Pl.g P e) first 0 0).1 (if first = 0 then (0, 0) else Pl.closer P (Pl.g P e) first 0 0).2)
        ∧ Below w.heap.size w w' := by
  obtain ⟨ek, rfl⟩ := Int.eq_ofNat_of_zero_le e0
  have hek : ek < np := by omega
  have pce := pc ek hek
  have HP : Hid (P.length = np ∧ X.length = nt) := ⟨hP, hX⟩
  obtain ⟨c, hc⟩ : ∃ c, c = P.getD ek 0 := ⟨_, rfl⟩
  have gc : Pl.g P ek = c := hc.symm
  rw [← hc] at pce
  rw [gc] at hok ⊢
  clear hP hX hc gc
  have start := fun c => St.start bj bt bp np cp nt ct P X L R first rest c w tr pl pc xc lc rc jl tl ql (by omega)
  obtain ⟨r0, hr0⟩ : ∃ r0, r0 = Pl.walkF P X L R c f rest (if first = 0 then (0, 0) else Pl.closer P c first 0 0).1 (if first = 0 then (0, 0) else Pl.closer P c first 0 0).2 := ⟨_, rfl⟩
  rw [← hr0]
  by_cases hf : first = 0
  · subst hf
    rw [if_pos rfl] at hr0
    have HR : Hid (r0 = Pl.walkF P X L R c f rest 0 0) := hr0
    clear hr0 pc xc lc rc
    go_enter Try.func7, Try.ntmps7
    go_wp2_with fail
    refine Calls.mono (label_any bj 5 bp np cp c _ ?_ ek hek ?_) ?_
    · exact ((b4 _ _ _ _ _).cell jl).trans pl
    · exact ((b4 _ _ _ _ _).cell ql).trans pce
    rintro r w' ⟨rfl, rfl⟩
    go_wp2_with fail
    go_loopg [10] f (fun k n wr => ∃ nd bv av : Int, n = .int .i32 nd ∧ St wr w.heap.size bj bt bp np cp nt ct P X L R c bv av ∧ Pl.okPath P X L R c k nd ∧ Hid (r0 = Pl.walkF P X L R c k nd bv av) ∧ Below w.heap.size w wr)
    case atStart => exact ⟨rest, 0, 0, rfl, start c, hok, HR, b5 _ _ _ _ _ _⟩
    case round =>
      obtain ⟨nd, bv, av, rfl, hst, hokk, HRk, hbel⟩ := hrel
      clear start
      by_cases hn : nd = 0
      · subst hn
        have hfin : Hid (r0 = (bv, av)) := by
          have := HRk.out
          cases gk with
          | zero => exact this
          | succ g => simp only [Pl.walkF] at this; exact this
        clear HRk HR hokk hok
        have hbc := hst.bc
        have hcc := hst.cc
        have hbf := hst.bf
        have hcf := hst.cf
        go_wp2_with fail
        go_region
        all_goals go_wp2
        refine bodyPost_ret (v := .tuple #[.int .i32 bv, .int .i32 av]) (by simp [results, Try.results7, go_sem, hbc, hcc]) rfl ⟨⟨bv, av, rfl, hfin.out.symm⟩, ?_⟩
        exact ((hbel.setCell (by simp; omega) _).setCell (by simp; omega) _).drew
      · obtain ⟨g', hg', n0, n1, x0, x1, hokn⟩ := okPath_open hokk hn
        subst hg'
        rw [HP.out.1] at x1
        rw [HP.out.2] at n1
        have HR2 : Hid (r0 = Pl.walkF P X L R c g' (Pl.nxt P X L R c nd) (Pl.closer P c (Pl.g X nd) bv av).1 (Pl.closer P c (Pl.g X nd) bv av).2) := by
          have := HRk.out
          simp only [Pl.walkF, if_neg hn] at this
          exact this
        clear HRk HR hokk hok hn
        obtain ⟨k, rfl⟩ := Int.eq_ofNat_of_zero_le (show 0 ≤ nd by omega)
        have hk : k < nt := by omega
        obtain ⟨x, hx⟩ : ∃ x, x = Pl.g X k := ⟨_, rfl⟩
        have hxc : wr.cell? ⟨bt, k * 4, none⟩ = some (.int .i32 x) := by rw [hx]; exact hst.xc k hk
        rw [← hx] at x0 x1 HR2
        have HX : Hid (x = Pl.g X k) := hx
        clear hx
        have hlb := hst.lb
        have htr := hst.tr
        have hpl := hst.pl
        have hd : ((k : Int) != 0) = true := by rw [bne_iff_ne]; omega
        go_wp2_with fail
        refine Calls.mono (closer_any hst x x0 x1) ?_
        rintro r w1 ⟨rfl, hst1, hbel11⟩
        have hbel1 := hbel11.mono (Nat.le_add_right w.heap.size 2)
        clear hbel11
        clear hst hxc hlb htr hpl
        have hlb := hst1.lb
        have htr := hst1.tr
        have hpl := hst1.pl
        have hac := hst1.ac
        obtain ⟨xk, rfl⟩ := Int.eq_ofNat_of_zero_le (show 0 ≤ x by omega)
        have hxk : xk < np := by omega
        obtain ⟨lx, hlx⟩ : ∃ lx, lx = P.getD xk 0 := ⟨_, rfl⟩
        have hpx := hst1.pc xk hxk
        rw [← hlx] at hpx
        have HLX : Hid (lx = P.getD xk 0) := hlx
        clear hlx
        go_wp2_with fail
        go_quiet ((go_at_call 8; exact Calls.quiet_of_same (label_any bj 5 bp np cp lx _ (by simpa using hpl) xk hxk (by simpa using hpx))))
        by_cases hlt : lx < c
        · have hnx : Pl.nxt P X L R c k = R.getD k 0 := by
            unfold Pl.nxt
            rw [← HX.out, if_pos (by show P.getD xk 0 < c; rw [← HLX.out]; exact hlt)]
            rfl
          rw [hnx] at HR2 hokn
          have hrc := hst1.rc k hk
          obtain ⟨nn, hnn⟩ : ∃ nn, nn = R.getD k 0 := ⟨_, rfl⟩
          rw [← hnn] at hrc HR2 hokn
          clear hnx hnn
          go_wp2
          go_roundg g'
          case measure => omega
          case rel => exact ⟨nn, _, _, rfl, hst1.drewN _, hokn, HR2, hbel.trans (below_drewN hbel1 _)⟩
        · have hnx : Pl.nxt P X L R c k = L.getD k 0 := by
            unfold Pl.nxt
            rw [← HX.out, if_neg (by show ¬ P.getD xk 0 < c; rw [← HLX.out]; exact hlt)]
            rfl
          rw [hnx] at HR2 hokn
          have hlc := hst1.lc k hk
          obtain ⟨nn, hnn⟩ : ∃ nn, nn = L.getD k 0 := ⟨_, rfl⟩
          rw [← hnn] at hlc HR2 hokn
          clear hnx hnn
          go_wp2
          go_roundg g'
          case measure => omega
          case rel => exact ⟨nn, _, _, rfl, hst1.drewN _, hokn, HR2, hbel.trans (below_drewN hbel1 _)⟩
  · rw [if_neg hf] at hr0
    have HR : Hid (r0 = Pl.walkF P X L R c f rest (Pl.closer P c first 0 0).1 (Pl.closer P c first 0 0).2) := hr0
    have f2 : 0 < first := by omega
    have hfd : (first != 0) = true := by rw [bne_iff_ne]; exact hf
    clear hr0 pc xc lc rc hf
    go_enter Try.func7, Try.ntmps7
    go_wp2_with fail
    refine Calls.mono (label_any bj 5 bp np cp c _ ?_ ek hek ?_) ?_
    · exact ((b4 _ _ _ _ _).cell jl).trans pl
    · exact ((b4 _ _ _ _ _).cell ql).trans pce
    rintro r w' ⟨rfl, rfl⟩
    go_wp2_with fail
    refine Calls.mono (closer_any (start c) first f2 f1) ?_
    rintro r w0 ⟨rfl, hst0, hbel00⟩
    have hbel0 := hbel00.mono (Nat.le_add_right w.heap.size 2)
    have hbel9 := (b5 w (.cells #[.pointer (some ⟨bj, 0, none⟩)] 42) (.cells #[.int .i32 first, .int .i32 rest] 54) (.cells #[.int .i32 0] 38) (.cells #[.int .i32 0] 38) (.cells #[.int .u64 c] 27)).trans hbel0
    have hs1 : w0.cell? ⟨w.heap.size + 1, 1, none⟩ = some (.int .i32 rest) := by
      rw [hbel00.cell (by simp)]
      simp [go_sem]
    clear hbel00
    go_wp2_with fail
    go_loopg [10] f (fun k n wr => ∃ nd bv av : Int, n = .int .i32 nd ∧ St wr w.heap.size bj bt bp np cp nt ct P X L R c bv av ∧ Pl.okPath P X L R c k nd ∧ Hid (r0 = Pl.walkF P X L R c k nd bv av) ∧ Below w.heap.size w wr)
    case atStart => exact ⟨rest, _, _, rfl, hst0, hok, HR, hbel9⟩
    case round =>
      obtain ⟨nd, bv, av, rfl, hst, hokk, HRk, hbel⟩ := hrel
      clear start
      by_cases hn : nd = 0
      · subst hn
        have hfin : Hid (r0 = (bv, av)) := by
          have := HRk.out
          cases gk with
          | zero => exact this
          | succ g => simp only [Pl.walkF] at this; exact this
        clear HRk HR hokk hok
        have hbc := hst.bc
        have hcc := hst.cc
        have hbf := hst.bf
        have hcf := hst.cf
        go_wp2_with fail
        go_region
        all_goals go_wp2
        refine bodyPost_ret (v := .tuple #[.int .i32 bv, .int .i32 av]) (by simp [results, Try.results7, go_sem, hbc, hcc]) rfl ⟨⟨bv, av, rfl, hfin.out.symm⟩, ?_⟩
        exact ((hbel.setCell (by simp; omega) _).setCell (by simp; omega) _).drew
      · obtain ⟨g', hg', n0, n1, x0, x1, hokn⟩ := okPath_open hokk hn
        subst hg'
        rw [HP.out.1] at x1
        rw [HP.out.2] at n1
        have HR2 : Hid (r0 = Pl.walkF P X L R c g' (Pl.nxt P X L R c nd) (Pl.closer P c (Pl.g X nd) bv av).1 (Pl.closer P c (Pl.g X nd) bv av).2) := by
          have := HRk.out
          simp only [Pl.walkF, if_neg hn] at this
          exact this
        clear HRk HR hokk hok hn
        obtain ⟨k, rfl⟩ := Int.eq_ofNat_of_zero_le (show 0 ≤ nd by omega)
        have hk : k < nt := by omega
        obtain ⟨x, hx⟩ : ∃ x, x = Pl.g X k := ⟨_, rfl⟩
        have hxc : wr.cell? ⟨bt, k * 4, none⟩ = some (.int .i32 x) := by rw [hx]; exact hst.xc k hk
        rw [← hx] at x0 x1 HR2
        have HX : Hid (x = Pl.g X k) := hx
        clear hx
        have hlb := hst.lb
        have htr := hst.tr
        have hpl := hst.pl
        have hd : ((k : Int) != 0) = true := by rw [bne_iff_ne]; omega
        go_wp2_with fail
        refine Calls.mono (closer_any hst x x0 x1) ?_
        rintro r w1 ⟨rfl, hst1, hbel11⟩
        have hbel1 := hbel11.mono (Nat.le_add_right w.heap.size 2)
        clear hbel11
        clear hst hxc hlb htr hpl
        have hlb := hst1.lb
        have htr := hst1.tr
        have hpl := hst1.pl
        have hac := hst1.ac
        obtain ⟨xk, rfl⟩ := Int.eq_ofNat_of_zero_le (show 0 ≤ x by omega)
        have hxk : xk < np := by omega
        obtain ⟨lx, hlx⟩ : ∃ lx, lx = P.getD xk 0 := ⟨_, rfl⟩
        have hpx := hst1.pc xk hxk
        rw [← hlx] at hpx
        have HLX : Hid (lx = P.getD xk 0) := hlx
        clear hlx
        go_wp2_with fail
        go_quiet ((go_at_call 8; exact Calls.quiet_of_same (label_any bj 5 bp np cp lx _ (by simpa using hpl) xk hxk (by simpa using hpx))))
        by_cases hlt : lx < c
        · have hnx : Pl.nxt P X L R c k = R.getD k 0 := by
            unfold Pl.nxt
            rw [← HX.out, if_pos (by show P.getD xk 0 < c; rw [← HLX.out]; exact hlt)]
            rfl
          rw [hnx] at HR2 hokn
          have hrc := hst1.rc k hk
          obtain ⟨nn, hnn⟩ : ∃ nn, nn = R.getD k 0 := ⟨_, rfl⟩
          rw [← hnn] at hrc HR2 hokn
          clear hnx hnn
          go_wp2
          go_roundg g'
          case measure => omega
          case rel => exact ⟨nn, _, _, rfl, hst1.drewN _, hokn, HR2, hbel.trans (below_drewN hbel1 _)⟩
        · have hnx : Pl.nxt P X L R c k = L.getD k 0 := by
            unfold Pl.nxt
            rw [← HX.out, if_neg (by show ¬ P.getD xk 0 < c; rw [← HLX.out]; exact hlt)]
            rfl
          rw [hnx] at HR2 hokn
          have hlc := hst1.lc k hk
          obtain ⟨nn, hnn⟩ : ∃ nn, nn = L.getD k 0 := ⟨_, rfl⟩
          rw [← hnn] at hlc HR2 hokn
          clear hnx hnn
          go_wp2
          go_roundg g'
          case measure => omega
          case rel => exact ⟨nn, _, _, rfl, hst1.drewN _, hokn, HR2, hbel.trans (below_drewN hbel1 _)⟩
end Go.Proofs.Qxb6623293a
