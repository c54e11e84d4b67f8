import Derived.Test.Qxb6623446aRows
import Derived.WalkKit
import Derived.ProofKit
import Derived.WalkSpells
import Derived.WalkLawsBesides
import Derived.Deep.DeepCutAuto
namespace Go.Proofs.Qxb6623446a
open Go.RowKit
set_option linter.unusedVariables false

/-- a byte that goes on a character -/
def cont (x : Int) : Prop := 128 ≤ x ∧ x < 192
/-- how many bytes a lead byte declares -/
def sl (x : Int) : Nat := if x < 128 then 1 else if x < 192 then 0 else if x < 224 then 2 else if x < 240 then 3 else if x < 248 then 4 else 0

theorem and_facts : ∀ k : Fin 256, (bits .and .u8 (k.val : Int) 224 == 192) = decide (192 ≤ k.val ∧ k.val < 224) ∧ (bits .and .u8 (k.val : Int) 240 == 224) = decide (224 ≤ k.val ∧ k.val < 240)
    ∧ (bits .and .u8 (k.val : Int) 248 == 240) = decide (240 ≤ k.val ∧ k.val < 248) ∧ (bits .and .u8 (k.val : Int) 192 != 128) = !decide (128 ≤ k.val ∧ k.val < 192) := by
  decide +kernel

theorem and_at (x : Int) (h0 : 0 ≤ x) (h1 : x < 256) : (bits .and .u8 x 224 == 192) = decide (192 ≤ x ∧ x < 224) ∧ (bits .and .u8 x 240 == 224) = decide (224 ≤ x ∧ x < 240)
    ∧ (bits .and .u8 x 248 == 240) = decide (240 ≤ x ∧ x < 248) ∧ (bits .and .u8 x 192 != 128) = !decide (128 ≤ x ∧ x < 192) := by
  obtain ⟨k, rfl⟩ := Int.eq_ofNat_of_zero_le h0
  have h := and_facts ⟨k, by omega⟩
  simp only at h
  obtain ⟨a, b, c, d⟩ := h
  refine ⟨a.trans ?_, b.trans ?_, c.trans ?_, d.trans ?_⟩
  · rw [decide_eq_decide]; omega
  · rw [decide_eq_decide]; omega
  · rw [decide_eq_decide]; omega
  · rw [show decide (128 ≤ k ∧ k < 192) = decide ((128 : Int) ≤ k ∧ (k : Int) < 192) from by rw [decide_eq_decide]; omega]

theorem seq_any (x : Int) (h0 : 0 ≤ x) (h1 : x < 256) (w : World) :
    Calls Try.prog 7 #[.int .u8 x] w fun r w' => r = .returned (.int .i64 (sl x)) ∧ w' = w := by
  obtain ⟨a, b, c, _⟩ := and_at x h0 h1
  rcases (show x < 128 ∨ (128 ≤ x ∧ x < 192) ∨ (192 ≤ x ∧ x < 224) ∨ (224 ≤ x ∧ x < 240) ∨ (240 ≤ x ∧ x < 248) ∨ 248 ≤ x from by omega) with h | h | h | h | h | h
  · have e : sl x = 1 := by unfold sl; simp [h]
    rw [e]
    clear a b c e
    go_enter Try.func7, Try.ntmps7
    go_wp2
    go_ret
    exact ⟨rfl, rfl⟩
  · have e : sl x = 0 := by unfold sl; rw [if_neg (by omega), if_pos (by omega)]
    rw [e]
    have a' : (bits .and .u8 x 224 == 192) = false := by rw [a]; exact decide_eq_false (by omega)
    have b' : (bits .and .u8 x 240 == 224) = false := by rw [b]; exact decide_eq_false (by omega)
    have c' : (bits .and .u8 x 248 == 240) = false := by rw [c]; exact decide_eq_false (by omega)
    obtain ⟨h2, h3⟩ := h
    clear a b c e
    go_enter Try.func7, Try.ntmps7
    go_wp2
    go_ret
    exact ⟨rfl, rfl⟩
  · have e : sl x = 2 := by unfold sl; rw [if_neg (by omega), if_neg (by omega), if_pos (by omega)]
    rw [e]
    have a' : (bits .and .u8 x 224 == 192) = true := by rw [a]; exact decide_eq_true (by omega)
    obtain ⟨h2, h3⟩ := h
    clear a b c e
    go_enter Try.func7, Try.ntmps7
    go_wp2
    go_ret
    exact ⟨rfl, rfl⟩
  · have e : sl x = 3 := by unfold sl; rw [if_neg (by omega), if_neg (by omega), if_neg (by omega), if_pos (by omega)]
    rw [e]
    have a' : (bits .and .u8 x 224 == 192) = false := by rw [a]; exact decide_eq_false (by omega)
    have b' : (bits .and .u8 x 240 == 224) = true := by rw [b]; exact decide_eq_true (by omega)
    obtain ⟨h2, h3⟩ := h
    clear a b c e
    go_enter Try.func7, Try.ntmps7
    go_wp2
    go_ret
    exact ⟨rfl, rfl⟩
  · have e : sl x = 4 := by unfold sl; rw [if_neg (by omega), if_neg (by omega), if_neg (by omega), if_neg (by omega), if_pos (by omega)]
    rw [e]
    have a' : (bits .and .u8 x 224 == 192) = false := by rw [a]; exact decide_eq_false (by omega)
    have b' : (bits .and .u8 x 240 == 224) = false := by rw [b]; exact decide_eq_false (by omega)
    have c' : (bits .and .u8 x 248 == 240) = true := by rw [c]; exact decide_eq_true (by omega)
    obtain ⟨h2, h3⟩ := h
    clear a b c e
    go_enter Try.func7, Try.ntmps7
    go_wp2
    go_ret
    exact ⟨rfl, rfl⟩
  · have e : sl x = 0 := by unfold sl; rw [if_neg (by omega), if_neg (by omega), if_neg (by omega), if_neg (by omega), if_neg (by omega)]
    rw [e]
    have a' : (bits .and .u8 x 224 == 192) = false := by rw [a]; exact decide_eq_false (by omega)
    have b' : (bits .and .u8 x 240 == 224) = false := by rw [b]; exact decide_eq_false (by omega)
    have c' : (bits .and .u8 x 248 == 240) = false := by rw [c]; exact decide_eq_false (by omega)
    clear a b c e
    go_enter Try.func7, Try.ntmps7
    go_wp2
    go_ret
    exact ⟨rfl, rfl⟩

theorem start_any (x : Int) (h0 : 0 ≤ x) (h1 : x < 256) (w : World) :
    Calls Try.prog 9 #[.int .u8 x] w fun r w' => r = .returned (.bool !decide (128 ≤ x ∧ x < 192)) ∧ w' = w := by
  obtain ⟨_, _, _, d⟩ := and_at x h0 h1
  rw [← d]
  clear d
  go_enter Try.func9, Try.ntmps9
  go_wp2
  go_ret
  exact ⟨rfl, rfl⟩

theorem zb_any (s : ByteArray) (hs : s.size ≤ 9223372036854775807) (w : World) :
    Calls Try.prog 4 #[.string s] w fun r w' => (∃ b, r = .returned (.bool b)) ∧ w' = w := by
  by_cases h : s.size ≤ 1048576
  · go_enter Try.func4, Try.ntmps4
    go_wp2
    go_ret
    exact ⟨⟨_, rfl⟩, rfl⟩
  · go_enter Try.func4, Try.ntmps4
    go_wp2
    go_ret
    exact ⟨⟨_, rfl⟩, rfl⟩
end Go.Proofs.Qxb6623446a
