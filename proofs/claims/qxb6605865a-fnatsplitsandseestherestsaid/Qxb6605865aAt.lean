/-
  The callees of FnAtSplitsAndSeesTheRest: strings.HasPrefix, (parser).at, ZZat.
-/
import Derived.Test.Qxb6605865aRows
import Derived.WalkKit
import Derived.WalkSpells
import Derived.Lib.Strings
import Derived.Deep.QuietTactic
import Derived.BigQuiet
namespace Go.Proofs.Qxb6605865a.at1
open Go.RowKit
set_option linter.unusedVariables false

/-- Does s begin with p? -/
def hasP (s p : ByteArray) : Bool := p.data.toList.isPrefixOf s.data.toList

theorem hasP_of_take (s p : ByteArray) (h : p.size ≤ s.size) : ((s.extract 0 p.size).toList == p.toList) = hasP s p := by
  rw [ByteArray.toList_eq, ByteArray.toList_eq, Lib.extract_data, List.drop_zero, Nat.sub_zero]
  have e : p.size = p.data.toList.length := by simp
  rw [e, hasP, Bool.eq_iff_iff, List.isPrefixOf_iff_prefix, beq_iff_eq]
  constructor
  · intro h'; exact List.prefix_iff_eq_take.2 h'.symm
  · intro h'; exact (List.prefix_iff_eq_take.1 h').symm
theorem hasP_short (s p : ByteArray) (h : ¬ p.size ≤ s.size) : hasP s p = false := by
  rw [hasP, Bool.eq_false_iff]
  intro h'
  have := (List.isPrefixOf_iff_prefix.1 h').length_le
  simp at this
  exact h this

theorem ret_b {a b : Bool} (h : a = b) : Ending.returned (.bool a) = .returned (.bool b) := by rw [h]

theorem prefix_any (s p : ByteArray) (w : World) (hs : s.size ≤ maxLen) (hp : p.size ≤ maxLen) :
    Calls Try.prog 8 #[.string s, .string p] w fun e w' => e = .returned (.bool (hasP s p)) ∧ w' = w := by
  unfold maxLen at hs hp
  by_cases h : p.size ≤ s.size
  · go_enter Try.func8, Try.ntmps8
    go_wp2
    go_ret
    exact ⟨ret_b (hasP_of_take s p h), rfl⟩
  · go_enter Try.func8, Try.ntmps8
    go_wp2
    go_ret
    exact ⟨ret_b (hasP_short s p h).symm, rfl⟩

set_option maxHeartbeats 400000 in
theorem at_any (b p : Nat) (text s : ByteArray) (w : World) (hs : s.size ≤ maxLen) (ht : text.size ≤ maxLen) (hp : p ≤ text.size)
    (c0 : w.cell? ⟨b, 0, none⟩ = some (.string text)) (c1 : w.cell? ⟨b, 1, none⟩ = some (.int .i64 p)) :
    Calls Try.prog 6 #[.pointer (some ⟨b, 0, none⟩), .string s] w fun e w' => e = .returned (.bool (hasP (text.extract p text.size) s)) ∧ ∃ n, w' = w.drewN n := by
  have ht' := ht
  unfold maxLen at ht
  go_enter Try.func6, Try.ntmps6
  go_wp2
  go_quiet ((go_at_call 8; exact Calls.quiet_of_same (prefix_any _ _ _ (by simp; omega) (by assumption))))
  go_wp2
  go_ret
  exact ⟨rfl, _, rfl⟩

end Go.Proofs.Qxb6605865a.at1
