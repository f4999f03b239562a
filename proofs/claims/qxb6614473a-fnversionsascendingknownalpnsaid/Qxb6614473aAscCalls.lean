/-
  The callees of FnVersionsAscendingKnownALPN at the strings at which it calls them: parseVersion, ZZprotocol, validALPN.
-/
import Derived.Test.Qxb6614473aRows
import Derived.WalkKit
import Derived.WalkSpells
import Derived.LoopN
namespace Go.Proofs.Qxb6614473a.asc
open Go.RowKit

theorem ret3 {a b c d : Int} {x y : Bool} (h1 : a = c) (h2 : b = d) (h3 : x = y) : Ending.returned (.tuple #[.int .i64 a, .int .i64 b, .bool x]) = .returned (.tuple #[.int .i64 c, .int .i64 d, .bool y]) := by rw [h1, h2, h3]
theorem retS {a b : ByteArray} (h : a = b) : Ending.returned (.string a) = .returned (.string b) := by rw [h]

set_option maxHeartbeats 800000 in
theorem parse10 (w : World) : Calls Try.prog 7 #[.string { data := #[49, 46, 48] }] w fun e w' => e = .returned (.tuple #[.int .i64 1, .int .i64 0, .bool true]) ∧ w' = w := by
  go_enter Try.func7, Try.ntmps7
  go_wp2
  refine wp_loop_rounds 2 ?_
  rw [rounds_succ]
  go_wp2
  rw [rounds_succ]
  go_wp2
  refine wp_loop_rounds 2 ?_
  rw [rounds_succ]
  go_wp2
  rw [rounds_succ]
  go_wp2
  go_ret3
  exact ⟨ret3 (by decide) (by decide) rfl, rfl⟩

theorem proto10 (w : World) : Calls Try.prog 8 #[.string { data := #[49, 46, 48] }] w fun e w' => e = .returned (.string { data := #[114, 97, 100, 105, 117, 115, 47, 49, 46, 48] }) ∧ w' = w := by
  go_enter Try.func8, Try.ntmps8
  go_wp2
  go_ret
  exact ⟨retS (by decide), rfl⟩

set_option maxHeartbeats 800000 in
theorem valid10 (w : World) : Calls Try.prog 9 #[.string { data := #[114, 97, 100, 105, 117, 115, 47, 49, 46, 48] }] w fun e w' => e = .returned (.bool true) ∧ w' = w := by
  go_enter Try.func9, Try.ntmps9
  go_wp2
  refine wp_loop_rounds 11 ?_
  iterate 11 (rw [rounds_succ]; go_wp2)
  go_ret
  exact ⟨rfl, rfl⟩

set_option maxHeartbeats 800000 in
theorem parse11 (w : World) : Calls Try.prog 7 #[.string { data := #[49, 46, 49] }] w fun e w' => e = .returned (.tuple #[.int .i64 1, .int .i64 1, .bool true]) ∧ w' = w := by
  go_enter Try.func7, Try.ntmps7
  go_wp2
  refine wp_loop_rounds 2 ?_
  rw [rounds_succ]
  go_wp2
  rw [rounds_succ]
  go_wp2
  refine wp_loop_rounds 2 ?_
  rw [rounds_succ]
  go_wp2
  rw [rounds_succ]
  go_wp2
  go_ret3
  exact ⟨ret3 (by decide) (by decide) rfl, rfl⟩

theorem proto11 (w : World) : Calls Try.prog 8 #[.string { data := #[49, 46, 49] }] w fun e w' => e = .returned (.string { data := #[114, 97, 100, 105, 117, 115, 47, 49, 46, 49] }) ∧ w' = w := by
  go_enter Try.func8, Try.ntmps8
  go_wp2
  go_ret
  exact ⟨retS (by decide), rfl⟩

set_option maxHeartbeats 800000 in
theorem valid11 (w : World) : Calls Try.prog 9 #[.string { data := #[114, 97, 100, 105, 117, 115, 47, 49, 46, 49] }] w fun e w' => e = .returned (.bool true) ∧ w' = w := by
  go_enter Try.func9, Try.ntmps9
  go_wp2
  refine wp_loop_rounds 11 ?_
  iterate 11 (rw [rounds_succ]; go_wp2)
  go_ret
  exact ⟨rfl, rfl⟩

end Go.Proofs.Qxb6614473a.asc
