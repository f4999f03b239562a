/-
  The walk of FnClassLiteralHangsOnFlagAndCharAlone: Unicode is on.
-/
import Derived.Test.Qxb6605865aFmtClassBase
namespace Go.Proofs.Qxb6605865aFmt.lit
open Go.RowKit Go.Extern.Stop Go.Stop Go.Extern
set_option linter.unusedVariables false

set_option maxHeartbeats 3200000 in
theorem on_plain (text : ByteArray) (pos st : Int) (f ch : Int) (w : World) (c0 : text.size ≤ 1048576) (c1 : 0 ≤ pos) (c2 : pos ≤ text.size) (c3 : 0 ≤ st) (c4 : st ≤ text.size)
    (c5 : 0 ≤ f) (c6 : f < 128) (c7 : 0 ≤ ch) (c8 : ch ≤ 1114111) (h : (bits BinOp.and IntKind.u8 f 16 != 0) = true) :
    Calls Tryf.prog 3 #[.string text, .int .i64 pos, .int .u8 f, .int .i32 ch, .bool false, .int .i64 st] w fun e w' => e = .returned (.bool true) ∧ Below w.heap.size w w' := by
  have hk : okLit f ch false := Or.inl h
  have hk' := okLit_bare f ch false c5 (by omega) hk
  go_enter Tryf.func3, Tryf.ntmps3
  go_wp2_with (first | (go_at_call 5; go_in) | (go_at_call 6; refine (lit_any _ _ _).mono ?_; rintro e w' ⟨rfl, rfl⟩))
  go_region_with (first | (go_at_call 8; refine (new_any _ _ _ _).mono ?_; rintro e w' ⟨rfl, rfl⟩) | (go_at_call 7; refine (class_ok _ f _ _ _ _ _ _ (by simp) (by go_simp) hk).mono ?_; rintro e w' ⟨rfl, hb2⟩))
  all_goals
    have hz : w.heap.size + 1 < w'.heap.size := by have := hb2.size; simp at this; omega
    have q0 : w'.cell? ⟨w.heap.size + 1, 0, none⟩ = some (.int .u8 0) := by rw [hb2.cell (by simp)]; go_simp
    have q1 : w'.cell? ⟨w.heap.size + 1, 1, none⟩ = some (.int .i32 ch) := by rw [hb2.cell (by simp)]; go_simp
    have q2 : w'.cell? ⟨w.heap.size + 1, 2, none⟩ = some (.bool false) := by rw [hb2.cell (by simp)]; go_simp
    have q3 : w'.cell? ⟨w.heap.size + 1, 3, none⟩ = some (.slice none 0 0) := by rw [hb2.cell (by simp)]; go_simp
    have q4 : w'.cell? ⟨w.heap.size + 1, 4, none⟩ = some (.int .u32 0) := by rw [hb2.cell (by simp)]; go_simp
    go_wp2_with fail
    go_region_with (first | (go_at_call 8; refine (new_any _ _ _ _).mono ?_; rintro e w2 ⟨rfl, rfl⟩) | (go_at_call 7; refine (class_ok _ (bits BinOp.and IntKind.u8 f 16) _ _ _ _ _ _ (by simp) (by go_simp) hk').mono ?_; rintro e w2 ⟨rfl, hb3⟩))
    all_goals
      go_wp2_with fail
      go_ret
      refine ⟨by first | rfl | simp, belowOn ?_ hb3⟩
      repeat (first | exact Below.refl _ _ | apply Below.drew | apply belowN | refine belowNew ?_ _ | refine belowOn ?_ hb2)

set_option maxHeartbeats 3200000 in
theorem on_byte (text : ByteArray) (pos st : Int) (f ch : Int) (w : World) (c0 : text.size ≤ 1048576) (c1 : 0 ≤ pos) (c2 : pos ≤ text.size) (c3 : 0 ≤ st) (c4 : st ≤ text.size)
    (c5 : 0 ≤ f) (c6 : f < 128) (c7 : 0 ≤ ch) (c8 : ch ≤ 255) (h : (bits BinOp.and IntKind.u8 f 16 != 0) = true) :
    Calls Tryf.prog 3 #[.string text, .int .i64 pos, .int .u8 f, .int .i32 ch, .bool true, .int .i64 st] w fun e w' => e = .returned (.bool true) ∧ Below w.heap.size w w' := by
  have hk : okLit f ch true := Or.inl h
  have hk' := okLit_bare f ch true c5 (by omega) hk
  go_enter Tryf.func3, Tryf.ntmps3
  go_wp2_with (first | (go_at_call 5; go_in) | (go_at_call 6; refine (lit_any _ _ _).mono ?_; rintro e w' ⟨rfl, rfl⟩))
  go_region_with (first | (go_at_call 8; refine (new_any _ _ _ _).mono ?_; rintro e w' ⟨rfl, rfl⟩) | (go_at_call 7; refine (class_ok _ f _ _ _ _ _ _ (by simp) (by go_simp) hk).mono ?_; rintro e w' ⟨rfl, hb2⟩))
  all_goals
    have hz : w.heap.size + 1 < w'.heap.size := by have := hb2.size; simp at this; omega
    have q0 : w'.cell? ⟨w.heap.size + 1, 0, none⟩ = some (.int .u8 0) := by rw [hb2.cell (by simp)]; go_simp
    have q1 : w'.cell? ⟨w.heap.size + 1, 1, none⟩ = some (.int .i32 ch) := by rw [hb2.cell (by simp)]; go_simp
    have q2 : w'.cell? ⟨w.heap.size + 1, 2, none⟩ = some (.bool true) := by rw [hb2.cell (by simp)]; go_simp
    have q3 : w'.cell? ⟨w.heap.size + 1, 3, none⟩ = some (.slice none 0 0) := by rw [hb2.cell (by simp)]; go_simp
    have q4 : w'.cell? ⟨w.heap.size + 1, 4, none⟩ = some (.int .u32 0) := by rw [hb2.cell (by simp)]; go_simp
    go_wp2_with fail
    go_region_with (first | (go_at_call 8; refine (new_any _ _ _ _).mono ?_; rintro e w2 ⟨rfl, rfl⟩) | (go_at_call 7; refine (class_ok _ (bits BinOp.and IntKind.u8 f 16) _ _ _ _ _ _ (by simp) (by go_simp) hk').mono ?_; rintro e w2 ⟨rfl, hb3⟩))
    all_goals
      go_wp2_with fail
      go_ret
      refine ⟨by first | rfl | simp, belowOn ?_ hb3⟩
      repeat (first | exact Below.refl _ _ | apply Below.drew | apply belowN | refine belowNew ?_ _ | refine belowOn ?_ hb2)

end Go.Proofs.Qxb6605865aFmt.lit
