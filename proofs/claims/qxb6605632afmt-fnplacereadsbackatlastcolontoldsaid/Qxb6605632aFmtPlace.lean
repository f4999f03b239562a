/-
  The walk of (row).place and ZZplaceB1, for every F.
-/
import Derived.Test.Qxb6605632aFmtText
import Derived.WalkKit
import Derived.WalkSpells
import Derived.RegionTactic
import Derived.Deep.RegionWith
namespace Go.Proofs.Qxb6605632aFmt.place
open Go.RowKit Go.Extern.Stop Go.Stop Go.Extern
attribute [local go_sem] call7 guard fmt2 fmt2r op3_100 op9_115

set_option maxHeartbeats 800000 in
theorem place_any (F : Interp) (path : ByteArray) (line : Int) (w : World) (hF : F.answers w.tape) :
    Calls Tryf.prog 5 #[.string path, .int .i64 line] w fun e w' => e = .returned (.string (FmtStop.textOf (F "fmt.Sprintf" (reading path.data.toList line) 0))) ∧ Below w.heap.size w w' := by
  have hF' := answers_open hF
  go_enter Tryf.func5, Tryf.ntmps5
  go_wp2
  go_region
  all_goals
    go_wp2
    go_ret
    exact ⟨rfl, (((((Below.refl _ _).alloc (Nat.le_refl _) _).alloc (by simp) _).alloc (by simp; omega) _).drew).drew⟩

end Go.Proofs.Qxb6605632aFmt.place
