import Derived.Test.Qxb6623293aWalkA
import Derived.Deep.QuietTactic
import Derived.BigQuiet
namespace Go.Proofs.Qxb6623293a
open Go.RowKit
set_option linter.unusedVariables false

set_option maxHeartbeats 1000000 in
theorem closer_b0 (bl bj bp np cp bat bb ba x v : Nat) (at' lx lv : Int) (w : World)
    (hl : w.cell? ⟨bl, 0, none⟩ = some (.pointer (some ⟨bj, 0, none⟩)))
    (hp : w.cell? ⟨bj, 5, none⟩ = some (.slice (some ⟨bp, 0, none⟩) np cp))
    (hat : w.cell? ⟨bat, 0, none⟩ = some (.int .u64 at'))
    (hb : w.cell? ⟨bb, 0, none⟩ = some (.int .i32 0))
    (hbf : w.frozen? ⟨bb, 0, none⟩ = false)
    (hxn : x < np) (hx : w.cell? ⟨bp, x * 3, none⟩ = some (.int .u64 lx)) (hlt : lx < at') :
    Calls Try.prog 9 #[.int .i32 x, .pointer (some ⟨bl, 0, none⟩), .pointer (some ⟨bat, 0, none⟩), .pointer (some ⟨bb, 0, none⟩), .pointer (some ⟨ba, 0, none⟩)] w
      fun e w' => e = .returned (.tuple #[]) ∧ ∃ n, w' = (w.setCell ⟨bb, 0, none⟩ (.int .i32 x)).drewN n := by
  go_enter Try.func9, Try.ntmps9
  go_wp2_with ((go_at_call 8; refine (label_any bj 5 bp np cp lx _ (by simpa using hp) x hxn (by simpa using hx)).mono ?_; rintro e w' ⟨rfl, rfl⟩))
  go_quiet (fail)
  go_wp2
  go_end0
  exact ⟨rfl, ⟨_, rfl⟩⟩

set_option maxHeartbeats 1000000 in
theorem closer_by (bl bj bp np cp bat bb ba x v : Nat) (at' lx lv : Int) (w : World)
    (hl : w.cell? ⟨bl, 0, none⟩ = some (.pointer (some ⟨bj, 0, none⟩)))
    (hp : w.cell? ⟨bj, 5, none⟩ = some (.slice (some ⟨bp, 0, none⟩) np cp))
    (hat : w.cell? ⟨bat, 0, none⟩ = some (.int .u64 at'))
    (hb : w.cell? ⟨bb, 0, none⟩ = some (.int .i32 (v : Int)))
    (hbf : w.frozen? ⟨bb, 0, none⟩ = false)
    (hxn : x < np) (hx : w.cell? ⟨bp, x * 3, none⟩ = some (.int .u64 lx)) (hlt : lx < at')
    (hv0 : 0 < v) (hvn : v < np) (hv : w.cell? ⟨bp, v * 3, none⟩ = some (.int .u64 lv)) (hc : lv < lx) :
    Calls Try.prog 9 #[.int .i32 x, .pointer (some ⟨bl, 0, none⟩), .pointer (some ⟨bat, 0, none⟩), .pointer (some ⟨bb, 0, none⟩), .pointer (some ⟨ba, 0, none⟩)] w
      fun e w' => e = .returned (.tuple #[]) ∧ ∃ n, w' = (w.setCell ⟨bb, 0, none⟩ (.int .i32 x)).drewN n := by
  have hd : ((v : Int) == 0) = false := beq_eq_false_iff_ne.2 (by omega)
  go_enter Try.func9, Try.ntmps9
  go_wp2_with ((go_at_call 8; refine (label_any bj 5 bp np cp lx _ (by simpa using hp) x hxn (by simpa using hx)).mono ?_; rintro e w' ⟨rfl, rfl⟩))
  go_quiet ((go_at_call 8; exact Calls.quiet_of_same (label_any bj 5 bp np cp lv _ (by simpa using hp) v hvn (by simpa using hv))))
  go_wp2
  go_end0
  exact ⟨rfl, ⟨_, rfl⟩⟩

set_option maxHeartbeats 1000000 in
theorem closer_bn (bl bj bp np cp bat bb ba x v : Nat) (at' lx lv : Int) (w : World)
    (hl : w.cell? ⟨bl, 0, none⟩ = some (.pointer (some ⟨bj, 0, none⟩)))
    (hp : w.cell? ⟨bj, 5, none⟩ = some (.slice (some ⟨bp, 0, none⟩) np cp))
    (hat : w.cell? ⟨bat, 0, none⟩ = some (.int .u64 at'))
    (hb : w.cell? ⟨bb, 0, none⟩ = some (.int .i32 (v : Int)))
    (hbf : w.frozen? ⟨bb, 0, none⟩ = false)
    (hxn : x < np) (hx : w.cell? ⟨bp, x * 3, none⟩ = some (.int .u64 lx)) (hlt : lx < at')
    (hv0 : 0 < v) (hvn : v < np) (hv : w.cell? ⟨bp, v * 3, none⟩ = some (.int .u64 lv)) (hc : lx ≤ lv) :
    Calls Try.prog 9 #[.int .i32 x, .pointer (some ⟨bl, 0, none⟩), .pointer (some ⟨bat, 0, none⟩), .pointer (some ⟨bb, 0, none⟩), .pointer (some ⟨ba, 0, none⟩)] w
      fun e w' => e = .returned (.tuple #[]) ∧ ∃ n, w' = w.drewN n := by
  have hd : ((v : Int) == 0) = false := beq_eq_false_iff_ne.2 (by omega)
  go_enter Try.func9, Try.ntmps9
  go_wp2_with ((go_at_call 8; refine (label_any bj 5 bp np cp lx _ (by simpa using hp) x hxn (by simpa using hx)).mono ?_; rintro e w' ⟨rfl, rfl⟩))
  go_quiet ((go_at_call 8; exact Calls.quiet_of_same (label_any bj 5 bp np cp lv _ (by simpa using hp) v hvn (by simpa using hv))))
  go_wp2
  go_end0
  exact ⟨rfl, ⟨_, rfl⟩⟩

set_option maxHeartbeats 1000000 in
theorem closer_a0 (bl bj bp np cp bat bb ba x v : Nat) (at' lx lv : Int) (w : World)
    (hl : w.cell? ⟨bl, 0, none⟩ = some (.pointer (some ⟨bj, 0, none⟩)))
    (hp : w.cell? ⟨bj, 5, none⟩ = some (.slice (some ⟨bp, 0, none⟩) np cp))
    (hat : w.cell? ⟨bat, 0, none⟩ = some (.int .u64 at'))
    (hb : w.cell? ⟨ba, 0, none⟩ = some (.int .i32 0))
    (hbf : w.frozen? ⟨ba, 0, none⟩ = false)
    (hxn : x < np) (hx : w.cell? ⟨bp, x * 3, none⟩ = some (.int .u64 lx)) (hlt : at' ≤ lx) :
    Calls Try.prog 9 #[.int .i32 x, .pointer (some ⟨bl, 0, none⟩), .pointer (some ⟨bat, 0, none⟩), .pointer (some ⟨bb, 0, none⟩), .pointer (some ⟨ba, 0, none⟩)] w
      fun e w' => e = .returned (.tuple #[]) ∧ ∃ n, w' = (w.setCell ⟨ba, 0, none⟩ (.int .i32 x)).drewN n := by
  go_enter Try.func9, Try.ntmps9
  go_wp2_with ((go_at_call 8; refine (label_any bj 5 bp np cp lx _ (by simpa using hp) x hxn (by simpa using hx)).mono ?_; rintro e w' ⟨rfl, rfl⟩))
  go_quiet (fail)
  go_wp2
  go_end0
  exact ⟨rfl, ⟨_, rfl⟩⟩

set_option maxHeartbeats 1000000 in
theorem closer_ay (bl bj bp np cp bat bb ba x v : Nat) (at' lx lv : Int) (w : World)
    (hl : w.cell? ⟨bl, 0, none⟩ = some (.pointer (some ⟨bj, 0, none⟩)))
    (hp : w.cell? ⟨bj, 5, none⟩ = some (.slice (some ⟨bp, 0, none⟩) np cp))
    (hat : w.cell? ⟨bat, 0, none⟩ = some (.int .u64 at'))
    (hb : w.cell? ⟨ba, 0, none⟩ = some (.int .i32 (v : Int)))
    (hbf : w.frozen? ⟨ba, 0, none⟩ = false)
    (hxn : x < np) (hx : w.cell? ⟨bp, x * 3, none⟩ = some (.int .u64 lx)) (hlt : at' ≤ lx)
    (hv0 : 0 < v) (hvn : v < np) (hv : w.cell? ⟨bp, v * 3, none⟩ = some (.int .u64 lv)) (hc : lx < lv) :
    Calls Try.prog 9 #[.int .i32 x, .pointer (some ⟨bl, 0, none⟩), .pointer (some ⟨bat, 0, none⟩), .pointer (some ⟨bb, 0, none⟩), .pointer (some ⟨ba, 0, none⟩)] w
      fun e w' => e = .returned (.tuple #[]) ∧ ∃ n, w' = (w.setCell ⟨ba, 0, none⟩ (.int .i32 x)).drewN n := by
  have hd : ((v : Int) == 0) = false := beq_eq_false_iff_ne.2 (by omega)
  go_enter Try.func9, Try.ntmps9
  go_wp2_with ((go_at_call 8; refine (label_any bj 5 bp np cp lx _ (by simpa using hp) x hxn (by simpa using hx)).mono ?_; rintro e w' ⟨rfl, rfl⟩))
  go_quiet ((go_at_call 8; exact Calls.quiet_of_same (label_any bj 5 bp np cp lv _ (by simpa using hp) v hvn (by simpa using hv))))
  go_wp2
  go_end0
  exact ⟨rfl, ⟨_, rfl⟩⟩

set_option maxHeartbeats 1000000 in
theorem closer_an (bl bj bp np cp bat bb ba x v : Nat) (at' lx lv : Int) (w : World)
    (hl : w.cell? ⟨bl, 0, none⟩ = some (.pointer (some ⟨bj, 0, none⟩)))
    (hp : w.cell? ⟨bj, 5, none⟩ = some (.slice (some ⟨bp, 0, none⟩) np cp))
    (hat : w.cell? ⟨bat, 0, none⟩ = some (.int .u64 at'))
    (hb : w.cell? ⟨ba, 0, none⟩ = some (.int .i32 (v : Int)))
    (hbf : w.frozen? ⟨ba, 0, none⟩ = false)
    (hxn : x < np) (hx : w.cell? ⟨bp, x * 3, none⟩ = some (.int .u64 lx)) (hlt : at' ≤ lx)
    (hv0 : 0 < v) (hvn : v < np) (hv : w.cell? ⟨bp, v * 3, none⟩ = some (.int .u64 lv)) (hc : lv ≤ lx) :
    Calls Try.prog 9 #[.int .i32 x, .pointer (some ⟨bl, 0, none⟩), .pointer (some ⟨bat, 0, none⟩), .pointer (some ⟨bb, 0, none⟩), .pointer (some ⟨ba, 0, none⟩)] w
      fun e w' => e = .returned (.tuple #[]) ∧ ∃ n, w' = w.drewN n := by
  have hd : ((v : Int) == 0) = false := beq_eq_false_iff_ne.2 (by omega)
  go_enter Try.func9, Try.ntmps9
  go_wp2_with ((go_at_call 8; refine (label_any bj 5 bp np cp lx _ (by simpa using hp) x hxn (by simpa using hx)).mono ?_; rintro e w' ⟨rfl, rfl⟩))
  go_quiet ((go_at_call 8; exact Calls.quiet_of_same (label_any bj 5 bp np cp lv _ (by simpa using hp) v hvn (by simpa using hv))))
  go_wp2
  go_end0
  exact ⟨rfl, ⟨_, rfl⟩⟩
end Go.Proofs.Qxb6623293a
