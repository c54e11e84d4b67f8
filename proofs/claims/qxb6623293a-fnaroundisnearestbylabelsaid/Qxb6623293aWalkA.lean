import Derived.Test.Qxb6623293aRows
import Derived.WalkKit
import Derived.ProofKit
import Derived.WalkSpells
import Derived.WalkLawsBesides
namespace Go.Proofs.Qxb6623293a
open Go.RowKit
set_option linter.unusedVariables false

set_option maxHeartbeats 1000000 in
theorem bytes_any (a0 a1 a2 a3 : Option Addr) (n0 c0 n1 c1 n2 c2 n3 c3 : Nat) (x y z : Int) (w : World)
    (h0 : n0 ≤ 9223372036854775807) (h1 : n1 ≤ 9223372036854775807) (h2 : n2 ≤ 9223372036854775807) (h3 : n3 ≤ 9223372036854775807) :
    Calls Try.prog 4 #[.slice a0 n0 c0, .slice a1 n1 c1, .slice a2 n2 c2, .slice a3 n3 c3, .int .i32 x, .int .i32 y, .int .i32 z] w
      fun e w' => (∃ b, e = .returned (.bool b)) ∧ w' = w := by
  go_enter Try.func4, Try.ntmps4
  go_wp2
  all_goals
    go_ret
    exact ⟨⟨_, rfl⟩, rfl⟩

/-- 'label': places[e].label -/
theorem label_any (b off bp n cp : Nat) (e : Int) (w : World)
    (h0 : w.cell? ⟨b, off, none⟩ = some (.slice (some ⟨bp, 0, none⟩) n cp))
    (k : Nat) (hk : k < n)
    (hl : w.cell? ⟨bp, k * 3, none⟩ = some (.int .u64 e)) :
    Calls Try.prog 8 #[.pointer (some ⟨b, off, none⟩), .int .i32 k] w fun r w' => r = .returned (.int .u64 e) ∧ w' = w := by
  go_enter Try.func8, Try.ntmps8
  go_wp2
  go_ret
  exact ⟨rfl, rfl⟩
end Go.Proofs.Qxb6623293a
