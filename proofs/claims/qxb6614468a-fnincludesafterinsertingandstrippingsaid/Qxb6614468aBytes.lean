/-
  zzMemsBytes, zzBytesOK: a number, a bool comes back; the world is as it was; 'yes' means that every length is at most 2^20.
-/
import Derived.Test.Qxb6614468aView
import Derived.LoopTactic
import Derived.LoopN
import Derived.Deep.RegionWith
namespace Go.Proofs.Qxb6614468a.inc
open Go.RowKit
set_option linter.unusedVariables false

set_option maxHeartbeats 1600000 in
/-- zzMemsBytes. -/
theorem membytes_any (t : Int) (v : Value) (ms : List ByteArray) (w : World) (hm : MemsAt w v ms) :
    Calls Try.prog 10 #[.int .i64 t, v] w fun e w' => (∃ z : Int, e = .returned (.int .i64 z) ∧ (z ≤ 1048576 → ms.length ≤ 1048576)) ∧ w' = w := by
  obtain ⟨a, c, rfl, hn, hc⟩ := hm
  have HC : Hid (∀ j, j < ms.length → ∃ b o, a = some ⟨b, o, none⟩ ∧ ∃ s1 s2, w.cell? ⟨b, o + j * 2, none⟩ = some (.string s1) ∧ w.cell? ⟨b, o + j * 2 + 1, none⟩ = some (.string s2)) := by
    intro j hj
    rcases hc with hc | ⟨b, o, ha, _, hc⟩
    · omega
    · obtain ⟨h1, s, h2⟩ := hc j hj
      exact ⟨b, o, ha, _, s, h1, h2⟩
  clear hc
  by_cases hlen : 1048576 < ms.length
  · go_enter Try.func10, Try.ntmps10
    go_wp2
    go_ret
    exact ⟨⟨_, rfl, by omega⟩, rfl⟩
  · go_enter Try.func10, Try.ntmps10
    go_wp2
    · go_ret
      exact ⟨⟨_, rfl, by omega⟩, rfl⟩
    · go_loop [0, 5] (fun x j => ∃ (k : Nat) (z : Int), k ≤ ms.length ∧ j = .int .i64 k ∧ x = .int .i64 z) (fun _ j => ms.length - (intOf j).toNat)
      case atStart => exact ⟨0, _, Nat.zero_le _, rfl, rfl⟩
      case round =>
        obtain ⟨k, z, hk, rfl, rfl⟩ := hrel
        by_cases hlk : k < ms.length
        · obtain ⟨b, o, rfl, s1, s2, d1, d2⟩ := HC.out k hlk
          go_wp2
          all_goals first
            | (go_round
               case rel => exact ⟨k + 1, _, by omega, by go_num, rfl⟩
               case measure => simp [intOf]; omega)
            | (go_ret
               exact ⟨⟨_, rfl, by omega⟩, rfl⟩)
        · go_wp2
          go_ret
          exact ⟨⟨_, rfl, by omega⟩, rfl⟩

/-- Every length is at most 2^20. -/
def Lens (cs : List (List ByteArray × List ByteArray)) (k : Nat) : Prop := ∀ i, i < k → (cfAt cs i).1.length ≤ 1048576 ∧ (cfAt cs i).2.length ≤ 1048576
/-- How zzBytesOK ends: 'yes' means that every length is small. -/
def OkEnd (cs : List (List ByteArray × List ByteArray)) (e : Ending) : Prop := ∃ r : Bool, e = .returned (.bool r) ∧ (r = true → cs.length ≤ 1048576 ∧ Lens cs cs.length)
theorem okEnd_no (cs : List (List ByteArray × List ByteArray)) : OkEnd cs (.returned (.bool false)) := ⟨false, rfl, fun h => by cases h⟩
theorem okEnd_yes (cs : List (List ByteArray × List ByteArray)) (h : cs.length ≤ 1048576) (h' : Lens cs cs.length) : OkEnd cs (.returned (.bool true)) := ⟨true, rfl, fun _ => ⟨h, h'⟩⟩

set_option maxHeartbeats 3200000 in
/-- zzBytesOK. -/
theorem bytesOK_any (v : Value) (cs : List (List ByteArray × List ByteArray)) (id addr : ByteArray) (w : World) (hm : ConfsAt w v cs) (h1 : id.size ≤ maxLen) (h2 : addr.size ≤ maxLen) :
    Calls Try.prog 5 #[v, .string id, .string addr] w fun e w' => OkEnd cs e ∧ w' = w := by
  unfold maxLen at h1 h2
  obtain ⟨a, c, rfl, hn, hc⟩ := hm
  have HC : Hid (∀ i, i < cs.length → ∃ b o, a = some ⟨b, o, none⟩ ∧ ∃ (vm vo : Value), w.cell? ⟨b, o + i * 4 + 1, none⟩ = some vm ∧ w.cell? ⟨b, o + i * 4 + 2, none⟩ = some vo ∧ MemsAt w vm (cfAt cs i).1 ∧ MemsAt w vo (cfAt cs i).2) := by
    intro i hi
    rcases hc with hc | ⟨b, o, ha, _, hc⟩
    · omega
    · obtain ⟨ix, vm, vo, rs, _, k1, k2, _, hm, ho⟩ := hc i hi
      exact ⟨b, o, ha, vm, vo, k1, k2, hm, ho⟩
  clear hc
  by_cases c1 : 1048576 < cs.length
  · go_enter Try.func5, Try.ntmps5
    go_wp2
    go_ret
    exact ⟨okEnd_no cs, rfl⟩
  by_cases c2 : 1048576 < id.size
  · go_enter Try.func5, Try.ntmps5
    go_wp2
    go_ret
    exact ⟨okEnd_no cs, rfl⟩
  by_cases c3 : 1048576 < addr.size
  · go_enter Try.func5, Try.ntmps5
    go_wp2
    go_ret
    exact ⟨okEnd_no cs, rfl⟩
  by_cases c4 : 1048576 < id.size + addr.size
  · go_enter Try.func5, Try.ntmps5
    go_wp2
    go_ret
    exact ⟨okEnd_no cs, rfl⟩
  by_cases c5 : 1048576 < id.size + addr.size + 64 * cs.length
  · go_enter Try.func5, Try.ntmps5
    go_wp2
    go_ret
    exact ⟨okEnd_no cs, rfl⟩
  go_enter Try.func5, Try.ntmps5
  go_wp2
  go_loop [7, 8] (fun x i => ∃ (k : Nat) (z : Int), k ≤ cs.length ∧ i = .int .i64 k ∧ x = .int .i64 z ∧ Hid (Lens cs k)) (fun _ i => cs.length - (intOf i).toNat)
  case atStart => exact ⟨0, _, Nat.zero_le _, rfl, rfl, fun i hi => absurd hi (Nat.not_lt_zero _)⟩
  case round =>
    obtain ⟨k, z, hk, rfl, rfl, HL⟩ := hrel
    by_cases hlk : k < cs.length
    · obtain ⟨b, o, rfl, vm, vo, d1, d2, hm, ho⟩ := HC.out k hlk
      obtain ⟨am', nm', cm', hvm⟩ : ∃ a n c, vm = .slice a n c := by obtain ⟨a, c, h, _⟩ := hm; exact ⟨a, _, c, h⟩
      obtain ⟨ao', no', co', hvo⟩ : ∃ a n c, vo = .slice a n c := by obtain ⟨a, c, h, _⟩ := ho; exact ⟨a, _, c, h⟩
      subst hvm hvo
      have KM : Hid (MemsAt w (.slice am' nm' cm') (cfAt cs k).1) := hm
      have KO : Hid (MemsAt w (.slice ao' no' co') (cfAt cs k).2) := ho
      clear hm ho
      go_wp2_with (first | (go_at_call_of 10 (Value.slice am' nm' cm'); refine (membytes_any _ _ (cfAt cs k).1 _ KM.out).mono ?_; rintro e w' ⟨⟨z1, rfl, g1⟩, rfl⟩) | (go_at_call_of 10 (Value.slice ao' no' co'); refine (membytes_any _ _ (cfAt cs k).2 _ KO.out).mono ?_; rintro e w' ⟨⟨z2, rfl, g2⟩, rfl⟩))
      · go_ret
        exact ⟨okEnd_no cs, rfl⟩
      · go_ret
        exact ⟨okEnd_no cs, rfl⟩
      · go_round
        case rel =>
          refine ⟨k + 1, _, by omega, by go_num, rfl, fun i hi => ?_⟩
          rcases Nat.lt_succ_iff_lt_or_eq.1 hi with h | rfl
          · exact HL.out i h
          · exact ⟨g1 (by omega), g2 (by omega)⟩
        case measure => simp [intOf]; omega
    · obtain rfl : k = cs.length := by omega
      go_wp2
      go_ret
      exact ⟨okEnd_yes cs (by omega) HL.out, rfl⟩

end Go.Proofs.Qxb6614468a.inc
