/-
  The plain law: the decimal numeral read back; a text that is a path, a colon and a numeral. No Go in sight.
-/
import Derived.Test.Qxb6605632aFmtWalk
import Derived.Lib.ItoaNum
import Derived.Lib.Strings
import Derived.WideShapes
namespace Go.Proofs.Qxb6605632aFmt.place
open Go.Lib Go.WideShapes Go.RowKit

/-! ### the numeral -/
theorem dd_small {u : Nat} (h : u < 10) : decDigits u = [UInt8.ofNat (48 + u)] := by rw [decDigits, dif_pos h]
theorem dd_big {u : Nat} (h : ¬ u < 10) : decDigits u = decDigits (u / 10) ++ [UInt8.ofNat (48 + u % 10)] := by rw [decDigits, dif_neg h]
theorem byte_of {n : Nat} (h : n < 10) : (UInt8.ofNat (48 + n)).toNat = 48 + n := by
  simp [UInt8.toNat_ofNat]; omega

theorem dd_mem (u : Nat) : ∀ c ∈ decDigits u, 48 ≤ c.toNat ∧ c.toNat ≤ 57 := by
  induction u using Nat.strongRecOn with
  | _ u ih =>
    intro c hc
    by_cases h : u < 10
    · rw [dd_small h, List.mem_singleton] at hc
      rw [hc, byte_of h]; omega
    · rw [dd_big h, List.mem_append, List.mem_singleton] at hc
      rcases hc with hc | hc
      · exact ih (u / 10) (by omega) c hc
      · rw [hc, byte_of (by omega)]; omega

theorem dd_head (u : Nat) (h1 : 1 ≤ u) : 49 ≤ ((decDigits u).getD 0 0).toNat := by
  induction u using Nat.strongRecOn with
  | _ u ih =>
    by_cases h : u < 10
    · rw [dd_small h, List.getD_cons_zero, byte_of h]; omega
    · have hi := ih (u / 10) (by omega) (by omega)
      have hl : 0 < (decDigits (u / 10)).length := by rw [decDigits_length]; exact nDigits_pos _
      rw [dd_big h, List.getD_eq_getElem?_getD, List.getElem?_append_left hl, ← List.getD_eq_getElem?_getD]
      exact hi

theorem nDigits_le : ∀ (k u : Nat), u < 10 ^ (k + 1) → nDigits u ≤ k + 1
  | 0, u, h => by rw [nDigits_small (by simpa using h)]; exact Nat.le_refl _
  | k + 1, u, h => by
    by_cases h' : u < 10
    · rw [nDigits_small h']; omega
    · rw [nDigits_big h']
      have := nDigits_le k (u / 10) (by rw [Nat.pow_succ] at h; omega)
      omega

/-- The value of a row of digits. -/
def valL : List UInt8 → Int → Int
  | [], a => a
  | c :: l, a => valL l (a * 10 + ((c.toNat : Int) - 48))

theorem valL_snoc (l : List UInt8) (c : UInt8) (a : Int) : valL (l ++ [c]) a = valL l a * 10 + ((c.toNat : Int) - 48) := by
  induction l generalizing a with
  | nil => rfl
  | cons x l ih => exact ih _

theorem dd_val (u : Nat) : valL (decDigits u) 0 = u := by
  induction u using Nat.strongRecOn with
  | _ u ih =>
    by_cases h : u < 10
    · rw [dd_small h]
      show (0 : Int) * 10 + (((UInt8.ofNat (48 + u)).toNat : Int) - 48) = u
      rw [byte_of h]; omega
    · rw [dd_big h, valL_snoc, ih (u / 10) (by omega), byte_of (by omega)]; omega

theorem valTo_take (D : ByteArray) (k : Nat) (h : k ≤ D.size) : valTo D k = valL (D.data.toList.take k) 0 := by
  induction k with
  | zero => rfl
  | succ k ih =>
    have hk : k < D.data.toList.length := by have e : D.data.toList.length = D.size := by simp
                                             omega
    rw [List.take_succ_eq_append_getElem hk, valL_snoc, ← ih (by omega), valTo_succ D k h]
    rfl

theorem valTo_all (D : ByteArray) : valTo D D.size = valL D.data.toList 0 := by
  rw [valTo_take D _ (Nat.le_refl _), List.take_of_length_le (by simp)]

theorem valTo_mono (D : ByteArray) (hD : ∀ j (h : j < D.size), (48 : Int) ≤ (D[j].toNat : Int)) (k : Nat) : ∀ n, k + n ≤ D.size → 0 ≤ valTo D k ∧ valTo D k ≤ valTo D (k + n) := by
  have h0 : ∀ k, k ≤ D.size → 0 ≤ valTo D k := by
    intro k
    induction k with
    | zero => intro _; exact Int.le_refl _
    | succ k ih => intro hk; rw [valTo_succ D k hk]; have := ih (by omega); have := hD k hk; omega
  intro n
  induction n with
  | zero => intro hn; exact ⟨h0 k hn, Int.le_refl _⟩
  | succ n ih =>
    intro hn
    obtain ⟨i1, i2⟩ := ih (by omega)
    refine ⟨i1, ?_⟩
    show _ ≤ valTo D ((k + n) + 1)
    rw [valTo_succ D (k + n) hn]
    have := hD (k + n) hn
    omega

/-! ### the text -/
theorem at_list (T : ByteArray) (j : Nat) (h : j < T.size) : T[j] = T.data.toList.getD j 0 := by
  rw [List.getD_eq_getElem?_getD, List.getElem?_eq_getElem (by simpa using h)]
  rfl

theorem walk_of_text (F : Stop.Interp) (path : ByteArray) (line : Int) (w : World) (hF : F.answers w.tape) (hp : path.size ≤ 1048576) (hl : 1 ≤ line) (hl2 : line ≤ 9223372036854775807)
    (hTx : (Extern.FmtStop.textOf (F "fmt.Sprintf" (reading path.data.toList line) 0)).data.toList = text path.data.toList line) :
    Calls Tryf.prog 3 #[.string path, .int .i64 line] w fun e w' => e = .returned (.bool true) ∧ Below w.heap.size w w' := by
  obtain ⟨T, hT⟩ : ∃ T, Extern.FmtStop.textOf (F "fmt.Sprintf" (reading path.data.toList line) 0) = T := ⟨_, rfl⟩
  rw [hT] at hTx
  obtain ⟨u, rfl⟩ : ∃ u : Nat, line = (u : Int) := ⟨line.toNat, by omega⟩
  have hit : Lib.itoa (u : Int) = decDigits u := by unfold Lib.itoa; rw [if_neg (by omega)]; simp
  have hTl : T.data.toList = path.data.toList ++ (58 :: decDigits u) := by rw [hTx, text, hit]; simp
  obtain ⟨D, hDl⟩ : ∃ D : ByteArray, D.data.toList = decDigits u := ⟨⟨(decDigits u).toArray⟩, rfl⟩
  have sD : D.size = nDigits u := by rw [← decDigits_length, ← hDl]; simp
  have sP : path.data.toList.length = path.size := by simp
  have sT : T.size = path.size + 1 + D.size := by
    have h1 : T.data.toList.length = T.size := by simp
    rw [← h1, hTl, List.length_append, List.length_cons, decDigits_length, sD, sP]; omega
  have hdg : ∀ j (h : j < D.size), (48 : Int) ≤ (D[j].toNat : Int) ∧ (D[j].toNat : Int) ≤ 57 := by
    intro j h
    have hm : D[j] ∈ decDigits u := by rw [← hDl]; exact List.getElem_mem (l := D.data.toList) (by simpa using h)
    have := dd_mem u _ hm
    omega
  have hmo := valTo_mono D (fun j h => (hdg j h).1)
  have hva : valTo D D.size = u := by rw [valTo_all, hDl, dd_val]
  refine main_walk F path T D u w hF hp hl hl2 hT sT (by rw [sD]; exact nDigits_pos u) (by rw [sD]; exact nDigits_le 18 u (by omega)) ?_ ?_ ?_ ?_ ?_ hdg ?_ hva
  · intro h
    rw [at_list, hTl, List.getD_eq_getElem?_getD, ← sP, List.getElem?_append_right (Nat.le_refl _), Nat.sub_self]
    rfl
  · intro j h hj
    have h' : j - path.size - 1 < D.size := by omega
    have e : T[j] = D[j - path.size - 1] := by
      rw [at_list, at_list, hTl, hDl, List.getD_eq_getElem?_getD, List.getD_eq_getElem?_getD, List.getElem?_append_right (by omega), sP, show j - path.size = (j - path.size - 1) + 1 from by omega, List.getElem?_cons_succ]
      rfl
    rw [e]
    exact hdg _ h'
  · apply bytes_inj
    rw [Lib.extract_data, hTl, List.drop_zero, Nat.sub_zero, ← sP, List.take_left']
    rfl
  · apply bytes_inj
    rw [Lib.extract_data, hTl, hDl]
    have e : (path.data.toList ++ 58 :: decDigits u).drop (path.size + 1) = decDigits u := by
      rw [show path.data.toList ++ 58 :: decDigits u = (path.data.toList ++ [58]) ++ decDigits u from by simp]
      exact List.drop_left' (by simp)
    rw [e]
    exact List.take_of_length_le (by rw [decDigits_length]; omega)
  · intro h
    refine ⟨?_, (hdg 0 h).2⟩
    rw [at_list, hDl]
    have := dd_head u (by omega)
    omega
  · intro k hk
    obtain ⟨a1, a2⟩ := hmo k (D.size - k) (by omega)
    rw [show k + (D.size - k) = D.size from by omega, hva] at a2
    exact ⟨a1, a2⟩

set_option maxHeartbeats 800000 in
/-- The two ways on which the law asks nothing. -/
theorem walk_none (path : ByteArray) (line : Int) (w : World) (hs : path.size ≤ 9223372036854775807) (h : 1048576 < path.size ∨ line < 1) :
    Calls Tryf.prog 3 #[.string path, .int .i64 line] w fun e w' => e = .returned (.bool true) ∧ Below w.heap.size w w' := by
  by_cases hp : 1048576 < path.size
  · go_enter Tryf.func3, Tryf.ntmps3
    go_wp2
    go_ret
    exact ⟨rfl, Below.refl _ _⟩
  · have hl : line < 1 := by omega
    go_enter Tryf.func3, Tryf.ntmps3
    go_wp2
    go_ret
    exact ⟨rfl, Below.refl _ _⟩

end Go.Proofs.Qxb6605632aFmt.place
