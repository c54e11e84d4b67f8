import Derived.Test.Qxb6623293aWalkE
import Derived.Test.Qxb6623293aPlain3
import Derived.Deep.DeepCutAuto
namespace Go.Proofs.Qxb6623293a
open Go.RowKit
set_option linter.unusedVariables false

set_option maxHeartbeats 1000000 in
set_option maxRecDepth 100000 in
theorem dom_no (a0 a1 a2 a3 : Option Addr) (n0 c0 n1 c1 n2 c2 n3 c3 : Nat) (first rest e : Int) (w : World)
    (h0 : n0 ≤ 32768) (h1 : n1 ≤ 32768) (h2 : n2 ≤ 32768) (h3 : n3 ≤ 32768)
    (wf : -2147483648 ≤ first ∧ first ≤ 2147483647) (wr : -2147483648 ≤ rest ∧ rest ≤ 2147483647) (we : -2147483648 ≤ e ∧ e ≤ 2147483647)
    (hno : ¬ (n2 = n1 ∧ n3 = n1 ∧ 0 ≤ e ∧ e < n0 ∧ 0 ≤ first ∧ first < n0 ∧ 0 ≤ rest ∧ rest < n1)) :
    Calls Try.prog 5 #[.slice a0 n0 c0, .slice a1 n1 c1, .slice a2 n2 c2, .slice a3 n3 c3, .int .i32 first, .int .i32 rest, .int .i32 e] w
      fun r w' => r = .returned (.tuple #[.slice none 0 0, .bool false]) ∧ w' = w := by
  by_cases e1 : n2 = n1
  · by_cases e2 : n3 = n1
    · by_cases e3 : 0 ≤ e ∧ e < n0
      · by_cases e4 : 0 ≤ first ∧ first < n0
        · by_cases e5 : 0 ≤ rest ∧ rest < n1
          · exact absurd ⟨e1, e2, e3.1, e3.2, e4.1, e4.2, e5.1, e5.2⟩ hno
          · clear hno
            subst e1 e2
            obtain ⟨e31, e32⟩ := e3
            obtain ⟨e41, e42⟩ := e4
            rcases (show rest < 0 ∨ (0 ≤ rest ∧ (n3 : Int) ≤ rest) from by omega) with h | ⟨h, h'⟩
            all_goals
              clear e5
              go_enter Try.func5, Try.ntmps5
              go_wp2
              go_ret2
              exact ⟨rfl, rfl⟩
        · clear hno
          subst e1 e2
          obtain ⟨e31, e32⟩ := e3
          rcases (show first < 0 ∨ (0 ≤ first ∧ (n0 : Int) ≤ first) from by omega) with h | ⟨h, h'⟩
          all_goals
            clear e4
            go_enter Try.func5, Try.ntmps5
            go_wp2
            go_ret2
            exact ⟨rfl, rfl⟩
      · clear hno
        subst e1 e2
        rcases (show e < 0 ∨ (0 ≤ e ∧ (n0 : Int) ≤ e) from by omega) with h | ⟨h, h'⟩
        all_goals
          clear e3
          go_enter Try.func5, Try.ntmps5
          go_wp2
          go_ret2
          exact ⟨rfl, rfl⟩
    · clear hno
      subst e1
      have hb : ((n3 : Int) != n2) = true := by rw [bne_iff_ne]; omega
      go_enter Try.func5, Try.ntmps5
      go_wp2
      go_ret2
      exact ⟨rfl, rfl⟩
  · clear hno
    have hb : ((n2 : Int) != n1) = true := by rw [bne_iff_ne]; omega
    go_enter Try.func5, Try.ntmps5
    go_wp2
    go_ret2
    exact ⟨rfl, rfl⟩
end Go.Proofs.Qxb6623293a
