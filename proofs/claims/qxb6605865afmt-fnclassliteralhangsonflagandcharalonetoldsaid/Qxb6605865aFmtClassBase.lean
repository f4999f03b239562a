/-
  The walk of FnClassLiteralHangsOnFlagAndCharAlone: the small laws.
-/
import Derived.Test.Qxb6605865aFmtErr
import Derived.Deep.RegionWith
import Derived.Deep.Draws
namespace Go.Proofs.Qxb6605865aFmt.lit
open Go.RowKit Go.Extern.Stop Go.Stop Go.Extern
set_option linter.unusedVariables false

theorem belowN {B : Nat} {a w : World} (n : Nat) (h : Below B a w) : Below B a (w.drewN n) := h.trans ⟨rfl, rfl, rfl, Nat.le_refl _, fun _ _ => rfl⟩
theorem belowNew {a w : World} (h : Below a.heap.size a w) (o : Obj) : Below a.heap.size a (w.alloc o) := h.alloc h.size o
theorem belowOn {a w w' : World} (h : Below a.heap.size a w) (h' : Below w.heap.size w w') : Below a.heap.size a w' := h.trans (h'.mono h.size)

/-- ZZnewLiteralEscape. -/
theorem lit_any (ch : Int) (be : Bool) (w : World) : Calls Tryf.prog 6 #[.int .i32 ch, .bool be] w fun e w' => e = .returned (.agg #[.int .u8 0, .int .i32 ch, .bool be, .slice none 0 0, .int .u32 0]) ∧
    w' = w.alloc (.cells #[.int .u8 0, .int .i32 ch, .bool be, .slice none 0 0, .int .u32 0] 29) := by
  go_enter Tryf.func6, Tryf.ntmps6
  go_wp2
  exact bodyPost_ret (v := .agg #[.int .u8 0, .int .i32 ch, .bool be, .slice none 0 0, .int .u32 0]) (by simp [results, Tryf.results6, go_sem]) rfl ⟨rfl, rfl⟩

/-- The literal is let by. -/
def okLit (f ch : Int) (be : Bool) : Prop := (bits BinOp.and IntKind.u8 f 16 != 0) = true ∨ ((bits BinOp.and IntKind.u8 f 16 != 0) = false ∧ (ch < 128 ∨ (¬ ch < 128 ∧ be = true)))

theorem idem_fin : ∀ i : Fin 256, bits BinOp.and IntKind.u8 (bits BinOp.and IntKind.u8 (i.val : Int) 16) 16 = bits BinOp.and IntKind.u8 (i.val : Int) 16 := by decide +kernel
theorem idem (f : Int) (h0 : 0 ≤ f) (h1 : f ≤ 255) : bits BinOp.and IntKind.u8 (bits BinOp.and IntKind.u8 f 16) 16 = bits BinOp.and IntKind.u8 f 16 := by
  have := idem_fin ⟨f.toNat, by omega⟩
  simpa [Int.toNat_of_nonneg h0] using this
theorem okLit_bare (f ch : Int) (be : Bool) (h0 : 0 ≤ f) (h1 : f ≤ 255) (h : okLit f ch be) : okLit (bits BinOp.and IntKind.u8 f 16) ch be := by
  unfold okLit at *
  rw [idem f h0 h1]
  exact h
/-- Unicode is off. -/
def offB (f : Int) : Prop := (bits BinOp.and IntKind.u8 f 16 != 0) = false
theorem off_bare (f : Int) (h0 : 0 ≤ f) (h1 : f ≤ 255) (h : offB f) : offB (bits BinOp.and IntKind.u8 f 16) := by
  unfold offB at *
  rw [idem f h0 h1]
  exact h

end Go.Proofs.Qxb6605865aFmt.lit
