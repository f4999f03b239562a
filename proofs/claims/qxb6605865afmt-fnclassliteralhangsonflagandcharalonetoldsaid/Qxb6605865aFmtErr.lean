/-
  The closed facts on fmt's stopped front at this program; the contracts of fmt.Errorf and (parser).errorAt, for every F.
-/
import Derived.Test.Qxb6605865aFmtRows
import Derived.WalkKit
import Derived.WalkSpells
import Derived.LoopTactic
import Derived.Stop.CallBack
import Derived.Stop.IfaceNil
import GoSem.ClaimData
namespace Go.Proofs.Qxb6605865aFmt.lit
open Go.RowKit Go.Extern.Stop Go.Stop Go.Extern
set_option linter.unusedVariables false

theorem call17 (args : Array Value) (w : World) : (callFunc 17 args).run Tryf.prog w = ((FmtStop.errorf #[9, 50] #[32] args).run Tryf.prog w).andThen fun v w' => .ok (.value v) w' :=
  run_callFunc_extern Tryf.func17 (by kernel_rfl) (by kernel_rfl) (by kernel_rfl) (by kernel_rfl) args w
theorem guard (name : String) (w : World) : (FmtStop.guard name).run Tryf.prog w = .ok () w := by kernel_rfl
theorem fmt0 : FmtStop.printed? ⟨#[37, 115, 58, 32, 96, 37, 115, 96]⟩ 2 = some [(0, 115, false), (1, 115, false)] := by kernel_rfl
theorem fmt0r (w : World) : (FmtDoors.printed ⟨#[37, 115, 58, 32, 96, 37, 115, 96]⟩ 2).run Tryf.prog w = .ok [(0, 115, false), (1, 115, false)] w := by kernel_rfl
def shape9 : List UInt8 := [12, 6, 0, 0, 0, 0, 0, 0, 0, 115, 116, 114, 105, 110, 103]
theorem op9_115 (name : String) (x : ByteArray) (w : World) : (FmtStop.operand name false 115 false (.iface 9 (.string x))).run Tryf.prog w = .ok (shape9, FmtStop.pack x.data.toList) w := by kernel_rfl
theorem op9_115w (name : String) (x : ByteArray) (w : World) : (FmtStop.operand name true 115 false (.iface 9 (.string x))).run Tryf.prog w = .ok (shape9, FmtStop.pack x.data.toList) w := by kernel_rfl
theorem ptr53 (w : World) : (FmtStop.ptrTo "errors.errorString").run Tryf.prog w = .ok 53 w := by kernel_rfl
theorem elem53 (w : World) : (elemOf 53).run Tryf.prog w = .ok 55 w := by kernel_rfl
theorem isError53 (w : World) : (FmtDoors.textMethod 53 "Error").run Tryf.prog w = .ok true w := by kernel_rfl

attribute [local go_sem] call17 guard fmt0 fmt0r op9_115 op9_115w ptr53 elem53 isError53

set_option maxHeartbeats 800000 in
theorem errorf_any (F : Interp) (s t : ByteArray) (blk : Nat) (w : World) (hF : F.answers w.tape)
    (hc0 : w.cell? ⟨blk, 0, none⟩ = some (.iface 9 (.string s))) (hc1 : w.cell? ⟨blk, 1, none⟩ = some (.iface 9 (.string t))) :
    Calls Tryf.prog 16 #[.string ⟨#[37, 115, 58, 32, 96, 37, 115, 96]⟩, .slice (some ⟨blk, 0, none⟩) 2 2] w fun e w' => (∃ a, e = .returned (.iface 53 (.pointer (some a)))) ∧ Below w.heap.size w w' := by
  have hF' := answers_open hF
  go_enter Tryf.func16, Tryf.ntmps16
  go_wp2
  go_ret
  exact ⟨⟨_, rfl⟩, ((Below.refl _ _).alloc (Nat.le_refl _) _).drew⟩

set_option maxHeartbeats 1600000 in
theorem errorAt_any (F : Interp) (text reason : ByteArray) (b : Nat) (s e : Nat) (w : World) (hF : F.answers w.tape) (ht : text.size ≤ 1048576) (hs : s ≤ text.size) (he : e ≤ text.size) (hb : b < w.heap.size)
    (hc0 : w.cell? ⟨b, 0, none⟩ = some (.string text)) :
    Calls Tryf.prog 14 #[.pointer (some ⟨b, 0, none⟩), .int .i64 s, .int .i64 e, .string reason] w fun e w' => (∃ a, e = .returned (.iface 53 (.pointer (some a)))) ∧ Below w.heap.size w w' := by
  by_cases hse : (s : Int) ≤ (e : Int)
  all_goals
    go_enter Tryf.func14, Tryf.ntmps14
    go_wp2
    go_loop [2] (fun x => ∃ m : Nat, s ≤ m ∧ m ≤ text.size ∧ x = .int .i64 m) (fun x => text.size - (intOf x).toNat)
    case atStart => first | exact ⟨e, by omega, by omega, rfl⟩ | exact ⟨s, by omega, by omega, rfl⟩
    case round =>
      obtain ⟨m, hm1, hm2, rfl⟩ := hrel
      by_cases hlt : m < text.size
      · go_wp2_with (go_at_call 15; go_in)
        all_goals first
          | (go_round
             case rel => exact ⟨m + 1, by omega, by omega, by go_num⟩
             case measure => simp [intOf]; omega)
          | (refine (errorf_any F reason (text.extract s m) w.heap.size _ (by exact hF) (by simp) (by simp)).mono ?_
             rintro e' w1 ⟨⟨a, rfl⟩, hb1⟩
             go_wp2_with fail
             go_ret
             exact ⟨⟨_, rfl⟩, ((Below.refl _ _).alloc (Nat.le_refl _) _).trans (hb1.mono (by simp))⟩)
      · go_wp2_with (go_at_call 15; go_in)
        refine (errorf_any F reason (text.extract s m) w.heap.size _ (by exact hF) (by simp) (by simp)).mono ?_
        rintro e' w1 ⟨⟨a, rfl⟩, hb1⟩
        go_wp2_with fail
        go_ret
        exact ⟨⟨_, rfl⟩, ((Below.refl _ _).alloc (Nat.le_refl _) _).trans (hb1.mono (by simp))⟩

/-- ZZnewParser. -/
theorem new_any (t : ByteArray) (n f : Int) (w : World) : Calls Tryf.prog 8 #[.string t, .int .i64 n, .int .u8 f] w fun e w' => e = .returned (.pointer (some ⟨w.heap.size, 0, none⟩)) ∧
    w' = w.alloc (.cells #[.string t, .int .i64 n, .int .u8 f, .int .i64 0, .map none, .pointer none] 45) := by
  go_enter Tryf.func8, Tryf.ntmps8
  go_wp2
  go_ret
  exact ⟨rfl, rfl⟩

set_option maxHeartbeats 1600000 in
/-- ZZclassLiteral where it refuses nothing. -/
theorem class_ok (b : Nat) (f k ch lk st : Int) (be : Bool) (w : World) (hb : b < w.heap.size) (hc2 : w.cell? ⟨b, 2, none⟩ = some (.int .u8 f))
    (h : (bits BinOp.and IntKind.u8 f 16 != 0) = true ∨ ((bits BinOp.and IntKind.u8 f 16 != 0) = false ∧ (ch < 128 ∨ (¬ ch < 128 ∧ be = true)))) :
    Calls Tryf.prog 7 #[.pointer (some ⟨b, 0, none⟩), .agg #[.int .u8 k, .int .i32 ch, .bool be, .slice none 0 0, .int .u32 lk], .int .i64 st] w fun e w' => e = .returned .nilIface ∧ Below w.heap.size w w' := by
  have hb1 : b < w.heap.size + 1 := by omega
  rcases h with h | ⟨h, hch | ⟨hch, rfl⟩⟩
  all_goals
    go_enter Tryf.func7, Tryf.ntmps7
    go_wp2
    go_ret
    exact ⟨rfl, ((Below.refl _ _).alloc (Nat.le_refl _) _).alloc (by simp) _⟩

set_option maxHeartbeats 1600000 in
/-- ZZclassLiteral where it refuses: with Unicode off, a character outside ASCII that is not written as a byte. -/
theorem class_err (F : Interp) (b p s : Nat) (text : ByteArray) (f k ch lk : Int) (w : World) (hF : F.answers w.tape) (hb : b < w.heap.size) (ht : text.size ≤ 1048576) (hp : p ≤ text.size) (hs : s ≤ text.size)
    (hc0 : w.cell? ⟨b, 0, none⟩ = some (.string text)) (hc1 : w.cell? ⟨b, 1, none⟩ = some (.int .i64 p)) (hc2 : w.cell? ⟨b, 2, none⟩ = some (.int .u8 f))
    (h : (bits BinOp.and IntKind.u8 f 16 != 0) = false) (hch : ¬ ch < 128) :
    Calls Tryf.prog 7 #[.pointer (some ⟨b, 0, none⟩), .agg #[.int .u8 k, .int .i32 ch, .bool false, .slice none 0 0, .int .u32 lk], .int .i64 s] w fun e w' => (∃ a, e = .returned (.iface 53 (.pointer (some a)))) ∧ Below w.heap.size w w' := by
  have hb1 : b < w.heap.size + 1 := by omega
  go_enter Tryf.func7, Tryf.ntmps7
  go_wp2_with (go_at_call 12; go_in)
  refine (errorAt_any F text _ b s p _ (by exact hF) ht hs hp (by simp; omega) (by go_simp)).mono ?_
  rintro e' w1 ⟨⟨a, rfl⟩, hb2⟩
  go_wp2_with fail
  go_ret
  exact ⟨⟨_, rfl⟩, (((Below.refl _ _).alloc (Nat.le_refl _) _).alloc (by simp) _).trans (hb2.mono (by simp; omega))⟩

end Go.Proofs.Qxb6605865aFmt.lit
