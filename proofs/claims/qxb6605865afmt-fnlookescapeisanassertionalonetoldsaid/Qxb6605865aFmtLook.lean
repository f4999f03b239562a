/-
  The walk of FnLookEscapeIsAnAssertionAlone.
-/
import Derived.Test.Qxb6605865aFmtErr
import Derived.Deep.RegionWith
import Derived.Deep.QuietTactic
import Derived.BigQuiet
import Derived.RegionTactic
namespace Go.Proofs.Qxb6605865aFmt.lit
open Go.RowKit Go.Extern.Stop Go.Stop Go.Extern
set_option linter.unusedVariables false

theorem below_n {B : Nat} {a w : World} (n : Nat) (h : Below B a w) : Below B a (w.drewN n) := h.trans ⟨rfl, rfl, rfl, Nat.le_refl _, fun _ _ => rfl⟩

theorem below_new {a w : World} (h : Below a.heap.size a w) (o : Obj) : Below a.heap.size a (w.alloc o) := h.alloc h.size o
theorem below_on {a w w' : World} (h : Below a.heap.size a w) (h' : Below w.heap.size w w') : Below a.heap.size a w' := h.trans (h'.mono h.size)

/-- lookEscape. -/
theorem look13 (lk : Int) (w : World) : Calls Tryf.prog 13 #[.int .u32 lk] w fun e w' => e = .returned (.agg #[.int .u8 2, .int .i32 0, .bool false, .slice none 0 0, .int .u32 lk]) ∧
    w' = w.alloc (.cells #[.int .u8 2, .int .i32 0, .bool false, .slice none 0 0, .int .u32 lk] 29) := by
  go_enter Tryf.func13, Tryf.ntmps13
  go_wp2
  exact bodyPost_ret (v := .agg #[.int .u8 2, .int .i32 0, .bool false, .slice none 0 0, .int .u32 lk]) (by simp [results, Tryf.results13, go_sem]) rfl ⟨rfl, rfl⟩

/-- ZZlookEscape. -/
theorem look_any (lk : Int) (w : World) : Calls Tryf.prog 10 #[.int .u32 lk] w fun e w' => e = .returned (.agg #[.int .u8 2, .int .i32 0, .bool false, .slice none 0 0, .int .u32 lk]) ∧
    w' = (w.alloc (.cells #[.int .u8 2, .int .i32 0, .bool false, .slice none 0 0, .int .u32 lk] 29)).alloc (.cells #[.int .u8 2, .int .i32 0, .bool false, .slice none 0 0, .int .u32 lk] 29) := by
  go_enter Tryf.func10, Tryf.ntmps10
  go_wp2_with (go_at_call 13; refine (look13 _ _).mono ?_; rintro e w' ⟨rfl, rfl⟩)
  exact bodyPost_ret (v := .agg #[.int .u8 2, .int .i32 0, .bool false, .slice none 0 0, .int .u32 lk]) (by simp [results, Tryf.results10, go_sem]) rfl ⟨rfl, rfl⟩

set_option maxHeartbeats 800000 in
/-- ZZescapeFields. -/
theorem fields_any (k ch lk : Int) (be : Bool) (w : World) : Calls Tryf.prog 11 #[.agg #[.int .u8 k, .int .i32 ch, .bool be, .slice none 0 0, .int .u32 lk]] w fun e w' => e = .returned (.tuple #[.int .u8 k, .int .i32 ch, .bool be, .bool true, .int .u32 lk]) ∧
    ∃ n, w' = (w.alloc (.cells #[.int .u8 k, .int .i32 ch, .bool be, .slice none 0 0, .int .u32 lk] 29)).drewN n := by
  have hn := fun (w : World) => Lib.run_eql_slice_nil (P := Tryf.prog) w
  go_enter Tryf.func11, Tryf.ntmps11
  go_wp2
  go_quiet (fail)
  go_wp2
  exact bodyPost_ret (v := .tuple #[.int .u8 k, .int .i32 ch, .bool be, .bool true, .int .u32 lk]) (by simp [results, Tryf.results11, go_sem]) rfl ⟨rfl, _, rfl⟩

theorem hu_zero (f : Int) : (bits BinOp.and IntKind.u8 f 16 != 0) = true ∨ ((bits BinOp.and IntKind.u8 f 16 != 0) = false ∧ ((0 : Int) < 128 ∨ (¬ (0 : Int) < 128 ∧ false = true))) := by
  cases h : (bits BinOp.and IntKind.u8 f 16 != 0) with
  | true => exact Or.inl rfl
  | false => exact Or.inr ⟨rfl, Or.inl (by omega)⟩

set_option maxHeartbeats 1600000 in
theorem look_walk (F : Interp) (lk : Int) (text : ByteArray) (pos f st : Int) (w : World) (hs : text.size ≤ maxLen) :
    Calls Tryf.prog 4 #[.int .u32 lk, .string text, .int .i64 pos, .int .u8 f, .int .i64 st] w fun e w' => e = .returned (.bool true) ∧ Below w.heap.size w w' := by
  unfold maxLen at hs
  by_cases c : text.size ≤ 1048576 ∧ (0 ≤ pos ∧ pos ≤ text.size) ∧ (0 ≤ st ∧ st ≤ text.size) ∧ ¬ 128 ≤ f
  · obtain ⟨c0, ⟨c1, c2⟩, ⟨c3, c4⟩, c5⟩ := c
    go_enter Tryf.func4, Tryf.ntmps4
    go_wp2_with (first | (go_at_call 9; go_in) | (go_at_call 10; refine (look_any _ _).mono ?_; rintro e w' ⟨rfl, rfl⟩) | (go_at_call 11; refine (fields_any _ _ _ _ _).mono ?_; rintro e w' ⟨rfl, n1, rfl⟩))
    go_region_with (first | (go_at_call 8; refine (new_any _ _ _ _).mono ?_; rintro e w' ⟨rfl, rfl⟩) | (go_at_call 7; refine (class_ok _ f _ _ _ _ _ _ (by simp) (by go_simp) (hu_zero f)).mono ?_; rintro e w' ⟨rfl, hb2⟩))
    all_goals
      go_wp2_with fail
      go_ret
      refine ⟨by simp, below_on ?_ hb2⟩
      repeat (first | exact Below.refl _ _ | apply Below.drew | apply below_n | refine below_new ?_ _)
  · go_enter Tryf.func4, Tryf.ntmps4
    go_wp2
    all_goals (go_ret; exact ⟨rfl, Below.refl _ _⟩)

end Go.Proofs.Qxb6605865aFmt.lit
