import Derived.Test.Qxb6623446aWalkA
namespace Go.Proofs.Qxb6623446a
open Go.RowKit
set_option linter.unusedVariables false

/-- the byte at j -/
def by' (s : ByteArray) (j : Nat) : Int := if h : j < s.size then ((s[j]'h).toNat : Int) else 0
theorem by_at (s : ByteArray) (j : Nat) (h : j < s.size) : ((s[j]'h).toNat : Int) = by' s j := by simp [by', h]
theorem by_rng (s : ByteArray) (j : Nat) : 0 ≤ by' s j ∧ by' s j < 256 := by
  unfold by'
  split
  · have := (s[j]).toNat_lt; omega
  · omega

theorem start_yes (x : Int) (h0 : 0 ≤ x ∧ x < 256) (h : ¬ cont x) (w : World) : Calls Try.prog 9 #[.int .u8 x] w fun r w' => r = .returned (.bool true) ∧ w = w' := by
  refine (start_any x h0.1 h0.2 w).mono ?_
  rintro r w' ⟨rfl, rfl⟩
  rw [decide_eq_false (p := 128 ≤ x ∧ x < 192) h]
  exact ⟨rfl, rfl⟩
theorem start_no (x : Int) (h0 : 0 ≤ x ∧ x < 256) (h : cont x) (w : World) : Calls Try.prog 9 #[.int .u8 x] w fun r w' => r = .returned (.bool false) ∧ w = w' := by
  refine (start_any x h0.1 h0.2 w).mono ?_
  rintro r w' ⟨rfl, rfl⟩
  rw [decide_eq_true (p := 128 ≤ x ∧ x < 192) h]
  exact ⟨rfl, rfl⟩

set_option maxHeartbeats 1000000 in
theorem piece_any (s : ByteArray) (r : Nat) (hs : 4096 < s.size) (hb : s.size ≤ 1048576) (hr : r ≤ 4096) (hr' : 4092 < r) (h0 : ¬ cont (by' s r)) (h1 : ∀ j, r < j → j ≤ 4096 → cont (by' s j)) (w : World) :
    Calls Try.prog 6 #[.string s] w fun e w' => e = .returned (.int .i64 r) ∧ w' = w := by
  have H0 : Hid (¬ cont (by' s r)) := h0
  have H1 : Hid (∀ j, r < j → j ≤ 4096 → cont (by' s j)) := h1
  clear h0 h1
  go_enter Try.func6, Try.ntmps6
  go_wp2
  go_loop [3] (fun n => ∃ q : Nat, n = .int .i64 q ∧ r ≤ q ∧ q ≤ 4096) (fun n => (intOf n).toNat)
  case atStart => exact ⟨4096, rfl, hr, Nat.le_refl _⟩
  case round =>
    obtain ⟨q, rfl, hq1, hq2⟩ := hrel
    have hqs : q < s.size := by omega
    have hrg := by_rng s q
    have hat := by_at s q hqs
    by_cases hlt : r < q
    · go_wp2_with ((go_at_call 9; refine (start_no (by' s q) hrg (H1.out q hlt hq2) _).mono ?_; rintro e w' ⟨rfl, rfl⟩))
      go_round
      case rel => exact ⟨q - 1, by go_num, by omega, by omega⟩
      case measure => simp [intOf]; omega
    · have hqe : q = r := by omega
      subst hqe
      go_wp2_with ((go_at_call 9; refine (start_yes (by' s q) hrg H0.out _).mono ?_; rintro e w' ⟨rfl, rfl⟩))
      go_ret
      exact ⟨rfl, rfl⟩

/-- where the walk of the characters stands -/
structure Inv (s : ByteArray) (i last : Nat) : Prop where
  le : i ≤ s.size
  l4 : last ≤ 4096
  li : 0 < i → last < i ∧ ¬ cont (by' s last)
  nb : ∀ j, last < j → j < i → j ≤ 4096 → cont (by' s j)
  wd : i ≤ last + 4 ∨ 4096 < last + 4

theorem sl_le (x : Int) : sl x ≤ 4 := by
  unfold sl
  repeat' split
  all_goals omega
theorem sl_cont (x : Int) (h : 0 < sl x) : ¬ cont x := by
  rintro ⟨h1, h2⟩
  unfold sl at h
  rw [if_neg (by omega), if_pos (by omega)] at h
  omega

theorem Inv.start (s : ByteArray) : Inv s 0 0 := ⟨by omega, by omega, fun h => absurd h (by omega), fun j h1 h2 => absurd h2 (by omega), .inl (by omega)⟩
theorem Inv.near {s : ByteArray} {i last n : Nat} (h : Inv s i last) (hi : i ≤ 4096) (hn : 0 < n) (h4 : n ≤ 4) (hs : i + n ≤ s.size) (h0 : ¬ cont (by' s i)) (hc : ∀ m, 1 ≤ m → m < n → cont (by' s (i + m))) : Inv s (i + n) i :=
  ⟨hs, hi, fun _ => ⟨by omega, h0⟩, fun j h1 h2 h3 => by have := hc (j - i) (by omega) (by omega); rw [show i + (j - i) = j from by omega] at this; exact this, .inl (by omega)⟩
theorem Inv.far {s : ByteArray} {i last n : Nat} (h : Inv s i last) (hi : 4096 < i) (hs : i + n ≤ s.size) : Inv s (i + n) last :=
  ⟨hs, h.l4, fun _ => ⟨by have := (h.li (by omega)).1; omega, (h.li (by omega)).2⟩, fun j h1 h2 h3 => h.nb j h1 (by omega) h3, by rcases h.wd with q | q <;> omega⟩

/-- what it hands back -/
def Ends (s : ByteArray) (r : Ending) : Prop := ∃ (last : Nat) (ok : Bool), r = .returned (.tuple #[.int .i64 last, .bool ok]) ∧ (ok = true → Inv s s.size last)
theorem Ends.no (s : ByteArray) : Ends s (.returned (.tuple #[.int .i64 0, .bool false])) := ⟨0, false, rfl, fun h => by cases h⟩

set_option maxHeartbeats 2000000 in
theorem last_any (s : ByteArray) (hb : s.size ≤ 1048576) (w : World) :
    Calls Try.prog 5 #[.string s] w fun r w' => Ends s r ∧ w = w' := by
  go_enter Try.func5, Try.ntmps5
  go_wp2
  go_loop [4, 5] (fun l p => ∃ last i : Nat, l = .int .i64 last ∧ p = .int .i64 i ∧ i ≤ s.size ∧ Hid (Inv s i last)) (fun _ p => s.size - (intOf p).toNat)
  case atStart => exact ⟨0, 0, rfl, rfl, by omega, Inv.start s⟩
  case round =>
    obtain ⟨last, i, rfl, rfl, hi, inv⟩ := hrel
    by_cases hlt : i < s.size
    · have hrg := by_rng s i
      have hat := by_at s i hlt
      have hsl := sl_le (by' s i)
      by_cases hn0 : sl (by' s i) = 0
      · have hz : (((sl (by' s i) : Nat) : Int) == 0) = true := by rw [hn0]; rfl
        go_wp2_with ((go_at_call 7; refine (seq_any (by' s i) hrg.1 hrg.2 _).mono ?_; rintro e w' ⟨rfl, rfl⟩))
        go_ret2
        exact ⟨Ends.no s, rfl⟩
      · have hnc := sl_cont (by' s i) (by omega)
        obtain ⟨n, hn⟩ : ∃ n, n = sl (by' s i) := ⟨_, rfl⟩
        have HQ : Hid (∀ w, Calls Try.prog 7 #[.int .u8 (by' s i)] w fun r w' => r = .returned (.int .i64 n) ∧ w = w') := by
          intro w
          rw [hn]
          refine (seq_any (by' s i) hrg.1 hrg.2 w).mono ?_
          rintro r w' ⟨rfl, rfl⟩
          exact ⟨rfl, rfl⟩
        rw [← hn] at hsl hn0
        have HNC : Hid (¬ cont (by' s i)) := hnc
        clear hn hnc
        have hz : ((n : Int) == 0) = false := beq_eq_false_iff_ne.2 (by omega)
        by_cases hfit : i + n ≤ s.size
        case neg =>
          go_wp2_with ((go_at_call 7; refine (HQ.out _).mono ?_; rintro e w' ⟨rfl, rfl⟩))
          go_ret2
          exact ⟨Ends.no s, rfl⟩
        have hz2 : decide ((s.size : Int) - (i : Int) < (n : Int)) = false := decide_eq_false (by omega)
        go_wp2_with ((go_at_call 7; refine (HQ.out _).mono ?_; rintro e w' ⟨rfl, rfl⟩))
        clear HQ
        go_loop [7] (fun kk => ∃ k : Nat, kk = .int .i64 k ∧ 1 ≤ k ∧ k ≤ n ∧ Hid (∀ m, 1 ≤ m → m < k → cont (by' s (i + m)))) (fun kk => n - (intOf kk).toNat)
        case atStart => exact ⟨1, rfl, Nat.le_refl _, by omega, fun m h1 h2 => absurd h2 (by omega)⟩
        case round =>
          obtain ⟨k, rfl, hk1, hkn, HC⟩ := hrel
          by_cases hlt2 : k < n
          · have hik : i + k < s.size := by omega
            have hrg2 := by_rng s (i + k)
            have hat2 := by_at s (i + k) hik
            have hand := (and_at (by' s (i + k)) hrg2.1 hrg2.2).2.2.2
            by_cases hc : cont (by' s (i + k))
            · rw [decide_eq_true (p := 128 ≤ by' s (i + k) ∧ by' s (i + k) < 192) hc] at hand
              have HC2 : Hid (∀ m, 1 ≤ m → m < k + 1 → cont (by' s (i + m))) := by
                intro m h1 h2
                by_cases e : m = k
                · subst e; exact hc
                · exact HC.out m h1 (by omega)
              clear hc
              go_wp2
              go_round
              case rel => exact ⟨k + 1, by go_num, by omega, by omega, HC2⟩
              case measure => simp [intOf]; omega
            · rw [decide_eq_false (p := 128 ≤ by' s (i + k) ∧ by' s (i + k) < 192) hc] at hand
              clear hc
              go_wp2
              go_ret2
              exact ⟨Ends.no s, rfl⟩
          · have hke : k = n := by omega
            subst hke
            by_cases hi4 : i ≤ 4096
            · have inv2 : Hid (Inv s (i + k) i) := inv.out.near hi4 (by omega) hsl hfit HNC.out HC.out
              clear HC
              go_wp2
              go_round
              case rel => exact ⟨i, i + k, rfl, by go_num, hfit, inv2⟩
              case measure => simp [intOf]; omega
            · have inv2 : Hid (Inv s (i + k) last) := inv.out.far (by omega) hfit
              clear HC
              go_wp2
              go_round
              case rel => exact ⟨last, i + k, rfl, by go_num, hfit, inv2⟩
              case measure => simp [intOf]; omega
    · have hie : i = s.size := by omega
      have fin : Ends s (.returned (.tuple #[.int .i64 last, .bool true])) := ⟨last, true, rfl, fun _ => by rw [← hie]; exact inv.out⟩
      clear hie
      go_wp2
      go_ret2
      exact ⟨fin, rfl⟩
end Go.Proofs.Qxb6623446a
