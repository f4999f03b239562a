/-
  zzBytes_FnIncludesAfterInsertingAndStripping: some bool comes back; the world is as it was.
-/
import Derived.Test.Qxb6614468aBytes
namespace Go.Proofs.Qxb6614468a.inc
open Go.RowKit
set_option linter.unusedVariables false

/-- The call ends with a bool. -/
def SomeBool (e : Ending) : Prop := ∃ r : Bool, e = .returned (.bool r)
theorem someBool (r : Bool) : SomeBool (.returned (.bool r)) := ⟨r, rfl⟩

set_option maxRecDepth 100000 in
set_option maxHeartbeats 6400000 in
theorem bytes4_any (v : Value) (cs : List (List ByteArray × List ByteArray)) (id addr : ByteArray) (p ix : Int) (rs : Bool) (w : World) (hm : ConfsAt w v cs) :
    Calls Try.prog 4 #[v, .string id, .int .i64 p, .string addr, .int .u64 ix, .bool rs] w fun e w' => SomeBool e ∧ w' = w := by
  obtain ⟨a, c, rfl, hn, hc⟩ := hm
  have HC : Hid (∀ i, i < cs.length → ∃ b o, a = some ⟨b, o, none⟩ ∧ ∃ (vm vo : Value), w.cell? ⟨b, o + i * 4 + 1, none⟩ = some vm ∧ w.cell? ⟨b, o + i * 4 + 2, none⟩ = some vo ∧ MemsAt w vm (cfAt cs i).1 ∧ MemsAt w vo (cfAt cs i).2) := by
    intro i hi
    rcases hc with hc | ⟨b, o, ha, _, hc⟩
    · omega
    · obtain ⟨ix, vm, vo, rs, _, k1, k2, _, hm, ho⟩ := hc i hi
      exact ⟨b, o, ha, vm, vo, k1, k2, hm, ho⟩
  clear hc
  by_cases c1 : 1048576 < cs.length
  · go_enter Try.func4, Try.ntmps4
    go_wp2
    go_ret
    exact ⟨someBool _, rfl⟩
  go_enter Try.func4, Try.ntmps4
  go_wp2
  go_loop [13, 14] (fun x i => ∃ (k : Nat) (z : Int), k ≤ cs.length ∧ i = .int .i64 k ∧ x = .int .i64 z) (fun _ i => cs.length - (intOf i).toNat)
  case atStart => exact ⟨0, _, Nat.zero_le _, rfl, rfl⟩
  case round =>
    obtain ⟨k, z, hk, rfl, rfl⟩ := hrel
    by_cases hlk : k < cs.length
    · obtain ⟨b, o, rfl, vm, vo, d1, d2, hm, ho⟩ := HC.out k hlk
      obtain ⟨am, cm, hvm, hnm, hcm⟩ := hm
      obtain ⟨ao, co, hvo, hno, hco⟩ := ho
      subst hvm hvo
      obtain ⟨nm, hnm'⟩ : ∃ nm, nm = (cfAt cs k).1.length := ⟨_, rfl⟩
      obtain ⟨no, hno'⟩ : ∃ no, no = (cfAt cs k).2.length := ⟨_, rfl⟩
      rw [← hnm'] at d1 hnm hcm
      rw [← hno'] at d2 hno hco
      have KM : Hid (∀ j, j < nm → ∃ b o, am = some ⟨b, o, none⟩ ∧ ∃ s1 s2, w.cell? ⟨b, o + j * 2, none⟩ = some (.string s1) ∧ w.cell? ⟨b, o + j * 2 + 1, none⟩ = some (.string s2)) := by
        intro j hj
        rcases hcm with hc | ⟨b, o, ha, _, hc⟩
        · omega
        · obtain ⟨h1, s, h2⟩ := hc j hj
          exact ⟨b, o, ha, _, s, h1, h2⟩
      have KO : Hid (∀ j, j < no → ∃ b o, ao = some ⟨b, o, none⟩ ∧ ∃ s1 s2, w.cell? ⟨b, o + j * 2, none⟩ = some (.string s1) ∧ w.cell? ⟨b, o + j * 2 + 1, none⟩ = some (.string s2)) := by
        intro j hj
        rcases hco with hc | ⟨b, o, ha, _, hc⟩
        · omega
        · obtain ⟨h1, s, h2⟩ := hc j hj
          exact ⟨b, o, ha, _, s, h1, h2⟩
      clear hcm hco hnm' hno'
      by_cases e1 : 1048576 < nm
      · go_wp2
        go_ret
        exact ⟨someBool _, rfl⟩
      go_wp2
      · go_ret
        exact ⟨someBool _, rfl⟩
      go_loop [13, 15] (fun x j => ∃ (l : Nat) (y : Int), l ≤ nm ∧ j = .int .i64 l ∧ x = .int .i64 y) (fun _ j => nm - (intOf j).toNat)
      case atStart => exact ⟨0, _, Nat.zero_le _, rfl, rfl⟩
      case round =>
        obtain ⟨l, y, hl, rfl, rfl⟩ := hrel
        by_cases hll : l < nm
        · obtain ⟨b2, o2, rfl, s1, s2, f1, f2⟩ := KM.out l hll
          go_wp2
          · go_ret
            exact ⟨someBool _, rfl⟩
          · go_ret
            exact ⟨someBool _, rfl⟩
          · go_ret
            exact ⟨someBool _, rfl⟩
          · go_ret
            exact ⟨someBool _, rfl⟩
          · go_round
            case rel => exact ⟨l + 1, _, by omega, by go_num, rfl⟩
            case measure => simp [intOf]; omega
        · by_cases e2 : 1048576 < no
          · go_wp2
            go_ret
            exact ⟨someBool _, rfl⟩
          go_wp2
          · go_ret
            exact ⟨someBool _, rfl⟩
          go_loop [13, 16] (fun x j => ∃ (l : Nat) (y : Int), l ≤ no ∧ j = .int .i64 l ∧ x = .int .i64 y) (fun _ j => no - (intOf j).toNat)
          case atStart => exact ⟨0, _, Nat.zero_le _, rfl, rfl⟩
          case round =>
            obtain ⟨l2, y2, hl2, rfl, rfl⟩ := hrel
            by_cases hll2 : l2 < no
            · obtain ⟨b2, o2, rfl, s1, s2, f1, f2⟩ := KO.out l2 hll2
              go_wp2
              · go_ret
                exact ⟨someBool _, rfl⟩
              · go_ret
                exact ⟨someBool _, rfl⟩
              · go_ret
                exact ⟨someBool _, rfl⟩
              · go_ret
                exact ⟨someBool _, rfl⟩
              · go_round
                case rel => exact ⟨l2 + 1, _, by omega, by go_num, rfl⟩
                case measure => simp [intOf]; omega
            · go_wp2
              go_round
              case rel => exact ⟨k + 1, _, by omega, by go_num, rfl⟩
              case measure => simp [intOf]; omega
    · go_wp2
      · go_ret
        exact ⟨someBool _, rfl⟩
      · go_ret
        exact ⟨someBool _, rfl⟩
      · go_ret
        exact ⟨someBool _, rfl⟩
      · go_ret
        exact ⟨someBool _, rfl⟩
      · go_ret
        exact ⟨someBool _, rfl⟩

end Go.Proofs.Qxb6614468a.inc
