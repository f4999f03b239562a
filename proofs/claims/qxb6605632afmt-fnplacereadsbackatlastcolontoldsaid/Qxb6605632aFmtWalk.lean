/-
  The walk of FnPlaceReadsBackAtLastColon, over the text as a variable.
-/
import Derived.Test.Qxb6605632aFmtPlace
import Derived.LoopTactic
namespace Go.Proofs.Qxb6605632aFmt.place
open Go.RowKit Go.Extern.Stop Go.Stop Go.Extern

/-- The value of the first k digits. -/
def valTo (D : ByteArray) : Nat → Int
  | 0 => 0
  | k + 1 => valTo D k * 10 + (((D.data.toList.getD k 0).toNat : Int) - 48)

theorem valTo_zero (D : ByteArray) : valTo D 0 = 0 := rfl
theorem valTo_succ (D : ByteArray) (k : Nat) (h : k < D.size) : valTo D (k + 1) = valTo D k * 10 + ((D[k].toNat : Int) - 48) := by
  have e : D.data.toList.getD k 0 = D[k] := by
    rw [List.getD_eq_getElem?_getD, List.getElem?_eq_getElem (by simpa using h)]
    rfl
  show valTo D k * 10 + (((D.data.toList.getD k 0).toNat : Int) - 48) = _
  rw [e]

set_option maxHeartbeats 1600000 in
theorem main_walk (F : Interp) (path T D : ByteArray) (line : Int) (w : World) (hF : F.answers w.tape)
    (hp : path.size ≤ 1048576) (hl : 1 ≤ line) (hl2 : line ≤ 9223372036854775807)
    (hT : FmtStop.textOf (F "fmt.Sprintf" (reading path.data.toList line) 0) = T)
    (hsz : T.size = path.size + 1 + D.size) (hn1 : 1 ≤ D.size) (hn2 : D.size ≤ 19)
    (hcol : ∀ h : path.size < T.size, (T[path.size].toNat : Int) = 58)
    (hdig : ∀ j (h : j < T.size), path.size < j → (48 : Int) ≤ (T[j].toNat : Int) ∧ (T[j].toNat : Int) ≤ 57)
    (hpre : T.extract 0 path.size = path) (hsuf : T.extract (path.size + 1) (path.size + 1 + D.size) = D)
    (hD0 : ∀ h : 0 < D.size, (49 : Int) ≤ (D[0].toNat : Int) ∧ (D[0].toNat : Int) ≤ 57)
    (hD : ∀ j (h : j < D.size), (48 : Int) ≤ (D[j].toNat : Int) ∧ (D[j].toNat : Int) ≤ 57)
    (hv0 : ∀ k, k ≤ D.size → 0 ≤ valTo D k ∧ valTo D k ≤ line) (hv : valTo D D.size = line) :
    Calls Tryf.prog 3 #[.string path, .int .i64 line] w fun e w' => e = .returned (.bool true) ∧ Below w.heap.size w w' := by
  have HT : Hid (FmtStop.textOf (F "fmt.Sprintf" (reading path.data.toList line) 0) = T) := hT
  have HV : Hid (valTo D D.size = line) := hv
  clear hT hv
  have HC : Hid (∀ h : path.size < T.size, (T[path.size].toNat : Int) = 58) := hcol
  have HG : Hid (∀ j (h : j < T.size), path.size < j → (48 : Int) ≤ (T[j].toNat : Int) ∧ (T[j].toNat : Int) ≤ 57) := hdig
  have HD : Hid (∀ j (h : j < D.size), (48 : Int) ≤ (D[j].toNat : Int) ∧ (D[j].toNat : Int) ≤ 57) := hD
  have HB : Hid (∀ k, k ≤ D.size → 0 ≤ valTo D k ∧ valTo D k ≤ line) := hv0
  obtain ⟨hd01, hd02⟩ := hD0 (by omega)
  have hne : ((D.size : Int) == 0) = false := beq_eq_false_iff_ne.2 (by omega)
  clear hcol hdig hD hD0 hv0
  go_enter Tryf.func3, Tryf.ntmps3
  go_wp2_with (first | (go_at_call 5; refine (place_any F _ _ _ hF).mono ?_; rw [HT.out]; rintro e w' ⟨rfl, hb⟩) | go_in)
  go_loop [6, 7] (fun k i => ∃ m : Nat, path.size ≤ m ∧ m ≤ path.size + D.size ∧ i = .int .i64 m ∧ k = .int .i64 (-1)) (fun _ i => (intOf i).toNat)
  case atStart => exact ⟨path.size + D.size, by omega, by omega, by go_num, rfl⟩
  case round =>
    obtain ⟨m, hm1, hm2, rfl, rfl⟩ := hrel
    by_cases hm : m = path.size
    · subst hm
      have hc := HC.out (by omega)
      go_wp2
      go_loop [9, 10] (fun v i => ∃ k : Nat, k ≤ D.size ∧ i = .int .i64 k ∧ v = .int .u64 (valTo D k)) (fun _ i => D.size - (intOf i).toNat)
      case atStart => exact ⟨0, Nat.zero_le _, rfl, rfl⟩
      case round =>
        obtain ⟨k, hk, rfl, rfl⟩ := hrel
        by_cases hlt : k < D.size
        · obtain ⟨g1, g2⟩ := HD.out k hlt
          obtain ⟨b1, b2⟩ := HB.out k hk
          obtain ⟨b3, b4⟩ := HB.out (k + 1) hlt
          have HS : Hid (valTo D (k + 1) = valTo D k * 10 + ((D[k].toNat : Int) - 48)) := valTo_succ D k hlt
          have b5 : valTo D k * 10 + ((D[k].toNat : Int) - 48) ≤ line := by rw [← HS.out]; exact b4
          clear b3 b4
          go_wp2
          go_round
          case rel => exact ⟨k + 1, by omega, by go_num, by rw [HS.out]⟩
          case measure => simp [intOf]; omega
        · obtain rfl : k = D.size := by omega
          rw [HV.out]
          go_wp2
          go_ret
          exact ⟨by simp, hb⟩
    · have hd := HG.out m (by omega) (by omega)
      go_wp2
      go_round
      case rel => exact ⟨m - 1, by omega, by omega, by go_num, rfl⟩
      case measure => simp [intOf]; omega

end Go.Proofs.Qxb6605632aFmt.place
