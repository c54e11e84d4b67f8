import Derived.Test.Qxb6623398aRows
import Derived.WalkKit
import Derived.ProofKit
import Derived.WalkSpells
import Derived.WalkLawsBesides
import Derived.Laws.CopyOwn
namespace Go.Proofs.Qxb6623398a
open Go.RowKit
set_option linter.unusedVariables false

/-- the sum of the lengths -/
def tot : List ByteArray → Nat
  | [] => 0
  | s :: l => s.size + tot l
theorem tot_append (a b : List ByteArray) : tot (a ++ b) = tot a + tot b := by
  induction a with
  | nil => simp [tot]
  | cons s l ih => simp [tot, ih]; omega
theorem tot_one (s : ByteArray) : tot [s] = s.size := by simp [tot]
theorem take_snoc (l : List ByteArray) (k : Nat) (h : k < l.length) : l.take (k + 1) = l.take k ++ [l.getD k ByteArray.empty] := by
  rw [List.take_succ_eq_append_getElem h]
  simp [List.getD_eq_getElem?_getD, h]
theorem tot_take_succ (l : List ByteArray) (k : Nat) (h : k < l.length) : tot (l.take (k + 1)) = tot (l.take k) + (l.getD k ByteArray.empty).size := by
  rw [take_snoc l k h, tot_append, tot_one]
theorem tot_take_le (l : List ByteArray) (k : Nat) : tot (l.take k) ≤ tot l := by
  have h := congrArg tot (List.take_append_drop k l)
  rw [tot_append] at h
  omega

/-- the strings ss lie from address a on -/
def At (w : World) (a : Option Addr) (ss : List ByteArray) : Prop :=
  0 < ss.length → ∃ b off, a = some ⟨b, off, none⟩ ∧ ∀ j, j < ss.length → w.cell? ⟨b, off + j, none⟩ = some (.string (ss.getD j ByteArray.empty))

set_option maxHeartbeats 1000000 in
theorem kb_pos (b off n cap : Nat) (ss : List ByteArray) (w : World) (hl : ss.length = n)
    (hc : ∀ j, j < n → w.cell? ⟨b, off + j, none⟩ = some (.string (ss.getD j ByteArray.empty))) (hn : n ≤ 1000000) (ht : tot ss ≤ 1000000000) :
    Calls Try.prog 7 #[.slice (some ⟨b, off, none⟩) n cap] w fun r w' => r = .returned (.int .i64 (tot ss)) ∧ w' = w := by
  have HL : Hid (ss.length = n) := hl
  have HC : Hid (∀ j, j < n → w.cell? ⟨b, off + j, none⟩ = some (.string (ss.getD j ByteArray.empty))) := hc
  have HT : Hid (tot ss ≤ 1000000000) := ht
  clear hl hc ht
  go_enter Try.func7, Try.ntmps7
  go_wp2
  go_loop [3, 8] (fun t i => ∃ k : Nat, k ≤ n ∧ i = .int .i64 k ∧ t = .int .i64 (tot (ss.take k) : Nat)) (fun _ i => n - (intOf i).toNat)
  case atStart => exact ⟨0, Nat.zero_le _, rfl, rfl⟩
  case round =>
    obtain ⟨k, hk, rfl, rfl⟩ := hrel
    by_cases hlt : k < n
    · have hcell := HC.out k hlt
      have hts := tot_take_succ ss k (by rw [HL.out]; exact hlt)
      have hle := tot_take_le ss (k + 1)
      have hT := HT.out
      generalize ss.getD k ByteArray.empty = s at *
      have hb1 : s.size ≤ 1000000000 := by omega
      have hb2 : tot (ss.take k) ≤ 1000000000 := by omega
      have HTS : Hid (tot (ss.take (k + 1)) = tot (ss.take k) + s.size) := hts
      clear hts hle hT
      go_wp2
      go_round
      case rel => exact ⟨k + 1, by omega, by go_num, by rw [HTS.out]; go_num⟩
      case measure => simp [intOf]; omega
    · have he : ss.take k = ss := List.take_of_length_le (by rw [HL.out]; omega)
      rw [he]
      go_wp2
      go_ret
      exact ⟨rfl, rfl⟩

theorem kb_zero (a : Option Addr) (cap : Nat) (w : World) :
    Calls Try.prog 7 #[.slice a 0 cap] w fun r w' => r = .returned (.int .i64 0) ∧ w' = w := by
  go_enter Try.func7, Try.ntmps7
  go_wp2
  refine wp_loop_rounds 1 ?_
  rw [rounds_succ]
  go_wp2
  go_ret
  exact ⟨rfl, rfl⟩

theorem kb_any (a : Option Addr) (cap : Nat) (ss : List ByteArray) (w : World) (h : At w a ss) (hn : ss.length ≤ 1000000) (ht : tot ss ≤ 1000000000) :
    Calls Try.prog 7 #[.slice a ss.length cap] w fun r w' => r = .returned (.int .i64 (tot ss)) ∧ w' = w := by
  cases ss with
  | nil => exact kb_zero a cap w
  | cons s l =>
    obtain ⟨b, off, rfl, hc⟩ := h (by simp)
    exact kb_pos b off _ cap (s :: l) w rfl hc hn ht

theorem steps_any (a : Option Addr) (cap : Nat) (ss : List ByteArray) (w : World) (h : At w a ss) (hn : ss.length ≤ 1000000) (ht : tot ss ≤ 1000000000) :
    Calls Try.prog 5 #[.slice a ss.length cap] w fun r w' => r = .returned (.int .i64 (2 * tot ss)) ∧ w = w' := by
  have HK : Hid (∀ w, At w a ss → Calls Try.prog 7 #[.slice a ss.length cap] w fun r w' => r = .returned (.int .i64 (tot ss)) ∧ w' = w) := fun w h => kb_any a cap ss w h hn ht
  go_enter Try.func5, Try.ntmps5
  go_wp2_with (first
    | (go_at_call 7; refine (HK.out _ h).mono ?_; rintro e w' ⟨rfl, rfl⟩)
    | go_in)
  go_ret
  exact ⟨rfl, rfl⟩

/-- a bool comes back; true says that all lengths add up to at most 1<<20 -/
def AnyBool (m : Nat) (r : Ending) : Prop := ∃ b, r = .returned (.bool b) ∧ (b = true → m ≤ 1048576)

set_option maxHeartbeats 1000000 in
theorem zb_any (a : Option Addr) (n cap : Nat) (i : Int) (t : ByteArray) (ss : List ByteArray) (w : World) (hl : ss.length = n) (h : At w a ss) (hn : n ≤ 9223372036854775807) (ht : t.size ≤ 9223372036854775807) (hs : ∀ s, s ∈ ss → s.size ≤ 9223372036854775807) :
    Calls Try.prog 4 #[.slice a n cap, .int .i64 i, .string t] w fun r w' => AnyBool (n + tot ss + t.size) r ∧ w' = w := by
  have HL : Hid (ss.length = n) := hl
  have HA : Hid (At w a ss) := h
  have HS : Hid (∀ s, s ∈ ss → s.size ≤ 9223372036854775807) := hs
  clear hl h hs
  by_cases h0 : n = 0
  · subst h0
    have hss : ss = [] := List.eq_nil_of_length_eq_zero HL.out
    have HT0 : Hid (0 + tot ss + t.size = t.size) := by rw [hss]; simp [tot, Hid]
    generalize 0 + tot ss + t.size = m at *
    clear hss
    by_cases h4 : t.size ≤ 1048576
    · go_enter Try.func4, Try.ntmps4
      go_wp2
      refine wp_loop_rounds 1 ?_
      rw [rounds_succ]
      go_wp2
      go_ret
      exact ⟨⟨_, rfl, fun _ => by rw [HT0.out]; exact h4⟩, rfl⟩
    · go_enter Try.func4, Try.ntmps4
      go_wp2
      refine wp_loop_rounds 1 ?_
      rw [rounds_succ]
      go_wp2
      go_ret
      exact ⟨⟨_, rfl, fun h => by cases h⟩, rfl⟩
  obtain ⟨b, off, rfl, hc⟩ := HA.out (by rw [HL.out]; omega)
  have HC : Hid (∀ j, j < n → w.cell? ⟨b, off + j, none⟩ = some (.string (ss.getD j ByteArray.empty))) := by rw [HL.out] at hc; exact hc
  have HT : Hid (∀ k, k < n → tot (ss.take (k + 1)) = tot (ss.take k) + (ss.getD k ByteArray.empty).size) := fun k hk => tot_take_succ ss k (by rw [HL.out]; exact hk)
  clear hc HA
  obtain ⟨m, hm⟩ : ∃ m, m = n + tot ss + t.size := ⟨_, rfl⟩
  rw [← hm]
  have HM : Hid (m = n + tot ss + t.size) := hm
  clear hm
  by_cases h1 : n ≤ 1048576
  case neg =>
    go_enter Try.func4, Try.ntmps4
    go_wp2
    go_ret
    exact ⟨⟨_, rfl, fun h => by cases h⟩, rfl⟩
  go_enter Try.func4, Try.ntmps4
  go_wp2
  go_loop [7, 8] (fun z i => ∃ (k q : Nat), k ≤ n ∧ i = .int .i64 k ∧ z = .int .i64 q ∧ q ≤ 1048576 ∧ Hid (q = n + tot (ss.take k))) (fun _ i => n - (intOf i).toNat)
  case atStart => exact ⟨0, n, Nat.zero_le _, rfl, rfl, by omega, by simp [tot, Hid]⟩
  case round =>
    obtain ⟨k, q, hk, rfl, rfl, q1, Hq⟩ := hrel
    by_cases hlt : k < n
    · have hcell := HC.out k hlt
      have hts := HT.out k hlt
      have hsz := HS.out (ss.getD k ByteArray.empty) (by rw [List.getD_eq_getElem?_getD, List.getElem?_eq_getElem (by rw [HL.out]; exact hlt)]; exact List.getElem_mem _)
      generalize ss.getD k ByteArray.empty = s at *
      have HTS : Hid (tot (ss.take (k + 1)) = tot (ss.take k) + s.size) := hts
      clear hts
      by_cases h2 : s.size ≤ 1048576
      case neg =>
        go_wp2
        go_ret
        exact ⟨⟨_, rfl, fun h => by cases h⟩, rfl⟩
      by_cases h3 : q + s.size ≤ 1048576
      case neg =>
        go_wp2
        go_ret
        exact ⟨⟨_, rfl, fun h => by cases h⟩, rfl⟩
      go_wp2
      go_round
      case rel => exact ⟨k + 1, q + s.size, by omega, by go_num, by go_num, by omega, by have := Hq.out; have h5 := HTS.out; show q + s.size = n + tot (ss.take (k + 1)); omega⟩
      case measure => simp [intOf]; omega
    · have he : ss.take k = ss := List.take_of_length_le (by rw [HL.out]; omega)
      rw [he] at Hq
      clear he
      by_cases h4 : t.size ≤ 1048576
      case neg =>
        go_wp2
        go_ret
        exact ⟨⟨_, rfl, fun h => by cases h⟩, rfl⟩
      by_cases h5 : q + t.size ≤ 1048576
      case neg =>
        go_wp2
        go_ret
        exact ⟨⟨_, rfl, fun h => by cases h⟩, rfl⟩
      go_wp2
      go_ret
      exact ⟨⟨_, rfl, fun _ => by have := Hq.out; have h6 := HM.out; omega⟩, rfl⟩
end Go.Proofs.Qxb6623398a
