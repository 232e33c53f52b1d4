/-
  The shared walks: digits, allDigits, isNumber, ZZisNumber.
-/
import Derived.Test.Qxb6615689aRows
import Derived.WalkKit
import Derived.ProofKit
namespace Go.Proofs.Qxb6615689a.IsNum
open Go.RowKit
set_option linter.unusedVariables false

/-- A digit, by its number. -/
def digI (c : Int) : Bool := decide (48 ≤ c) && decide (c ≤ 57)
def digB (b : UInt8) : Bool := digI (b.toNat : Int)
/-- Digits alone, at least one. -/
def allB (l : List UInt8) : Bool := l.all digB
def allD (l : List UInt8) : Bool := !l.isEmpty && allB l
/-- A whole number without leading zeros. -/
def isNum (l : List UInt8) : Bool := allD l && (l == [48] || l.head? != some 48)

theorem ret_bool {a b : Bool} (h : a = b) : Ending.returned (.bool a) = .returned (.bool b) := by rw [h]

theorem isDigit_any (c : Int) (w : World) :
    Calls Try.prog 21 #[.int .u8 c] w fun e w' => e = .returned (.bool (digI c)) ∧ w' = w := by
  by_cases h1 : 48 ≤ c
  · by_cases h2 : c ≤ 57
    · go_enter Try.func21, Try.ntmps21
      go_wp2
      go_ret
      exact ⟨by simp [digI, h1, h2], rfl⟩
    · go_enter Try.func21, Try.ntmps21
      go_wp2
      go_ret
      exact ⟨by simp [digI, h1, h2], rfl⟩
  · go_enter Try.func21, Try.ntmps21
    go_wp2
    go_ret
    exact ⟨by simp [digI]; omega, rfl⟩

theorem take_snoc (s : ByteArray) (k : Nat) (h : k < s.size) : s.data.toList.take (k + 1) = s.data.toList.take k ++ [s[k]] := by
  rw [List.take_succ_eq_append_getElem (by simpa using h)]; rfl

theorem allDigits_empty (s : ByteArray) (w : World) (hs : s.data.toList = []) :
    Calls Try.prog 20 #[.string s] w fun e w' => e = .returned (.bool (allD s.data.toList)) ∧ w' = w := by
  have he : s.toList.isEmpty = true := by rw [ByteArray.toList_eq, hs]; rfl
  have HS : Hid (s.data.toList = []) := hs
  clear hs
  go_enter Try.func20, Try.ntmps20
  go_wp2
  go_ret
  exact ⟨ret_bool (by rw [HS.out]; rfl), rfl⟩

set_option maxHeartbeats 400000 in
theorem allDigits_some (s : ByteArray) (w : World) (hm : s.size ≤ maxLen) (hs : s.data.toList ≠ []) :
    Calls Try.prog 20 #[.string s] w fun e w' => e = .returned (.bool (allB s.data.toList)) ∧ w' = w := by
  unfold maxLen at hm
  have he : s.toList.isEmpty = false := by rw [ByteArray.toList_eq]; cases hl : s.data.toList with | nil => exact absurd hl hs | cons _ _ => rfl
  clear hs
  go_enter Try.func20, Try.ntmps20
  go_wp2
  go_loop [8] (fun i => ∃ k : Nat, k ≤ s.size ∧ i = .int .i64 k ∧ Hid ((s.data.toList.take k).all digB = true)) (fun i => s.size - (intOf i).toNat)
  case atStart => exact ⟨0, Nat.zero_le _, rfl, rfl⟩
  case round =>
    obtain ⟨k, hk, rfl, hall⟩ := hrel
    by_cases hlt : k < s.size
    · have hsn : Hid ((s.data.toList.take (k + 1)).all digB = ((s.data.toList.take k).all digB && digI (s[k].toNat : Int))) := by
        show _ = _
        rw [take_snoc s k hlt, List.all_append]; simp [digB]
      by_cases hd : digI (s[k].toNat : Int) = true
      · go_wp2_with (go_at_call 21; refine (isDigit_any _ _).mono ?_; rintro e w' ⟨rfl, rfl⟩)
        go_round
        case rel => exact ⟨k + 1, by omega, by go_num, by show _ = _; rw [hsn.out, hall.out, hd]; rfl⟩
        case measure => simp [intOf]; omega
      · have hd' : digI (s[k].toNat : Int) = false := by simpa using hd
        have hfin : Hid (allB s.data.toList = false) := by
          show _ = _
          have h1 : (s.data.toList.take (k + 1)).all digB = false := by rw [hsn.out, hd']; simp
          have h2 := congrArg (fun l => List.all l digB) (List.take_append_drop (k + 1) s.data.toList)
          simp only [List.all_append, h1, Bool.false_and] at h2
          exact h2.symm
        clear hd
        go_wp2_with (go_at_call 21; refine (isDigit_any _ _).mono ?_; rintro e w' ⟨rfl, rfl⟩)
        go_ret
        exact ⟨ret_bool hfin.out.symm, rfl⟩
    · have hfin : Hid (allB s.data.toList = true) := by
        show _ = _
        have h := hall.out
        rwa [List.take_of_length_le (by simp; omega)] at h
      go_wp2
      go_ret
      exact ⟨ret_bool hfin.out.symm, rfl⟩

theorem allDigits_any (s : ByteArray) (w : World) (hm : s.size ≤ maxLen) :
    Calls Try.prog 20 #[.string s] w fun e w' => e = .returned (.bool (allD s.data.toList)) ∧ w' = w := by
  by_cases hs : s.data.toList = []
  · exact allDigits_empty s w hs
  · refine (allDigits_some s w hm hs).mono ?_
    rintro e w' ⟨rfl, rfl⟩
    refine ⟨?_, rfl⟩
    have h : allD s.data.toList = allB s.data.toList := by
      unfold allD; cases hl : s.data.toList with | nil => exact absurd hl hs | cons _ _ => rfl
    rw [h]

set_option maxHeartbeats 400000 in
theorem isNumber_any (s : ByteArray) (w : World) (hm : s.size ≤ maxLen) :
    Calls Try.prog 19 #[.string s] w fun e w' => e = .returned (.bool (isNum s.data.toList)) ∧ w' = w := by
  by_cases ha : allD s.data.toList = true
  · have hne : s.data.toList ≠ [] := by intro h; rw [h] at ha; exact absurd ha (by decide)
    have hpos : 0 < s.size := by
      have h1 : s.size = s.data.toList.length := by simp
      have h2 := List.length_pos_iff.2 hne
      omega
    have hhd : Hid (s.data.toList.head? = some s[0]) := by
      show _ = _
      rw [List.head?_eq_getElem?, List.getElem?_eq_getElem (by simpa using hpos)]; rfl
    by_cases h0 : s.data.toList = [48]
    · have h0' : (s.toList == [48]) = true := by rw [ByteArray.toList_eq, h0]; rfl
      have H0 : Hid (isNum s.data.toList = true) := by show _ = _; rw [h0]; decide
      clear h0 hne
      go_enter Try.func19, Try.ntmps19
      go_wp2_with (go_at_call 20; refine (allDigits_any _ _ hm).mono ?_; rintro e w' ⟨rfl, rfl⟩)
      go_ret
      exact ⟨ret_bool H0.out.symm, rfl⟩
    · have h0' : (s.toList == [48]) = false := by rw [ByteArray.toList_eq]; simpa using h0
      have H0 : Hid (isNum s.data.toList = ((s[0].toNat : Int) != 48)) := by
        show _ = _
        have h1 : (s.data.toList == [48]) = false := by simpa using h0
        have h2 : (some s[0] != some (48 : UInt8)) = ((s[0].toNat : Int) != 48) := by
          rw [Bool.eq_iff_iff]; simp [← UInt8.toNat_inj]; omega
        unfold isNum
        rw [ha, h1, hhd.out, h2]; simp
      clear h0 hne
      go_enter Try.func19, Try.ntmps19
      go_wp2_with (go_at_call 20; refine (allDigits_any _ _ hm).mono ?_; rintro e w' ⟨rfl, rfl⟩)
      all_goals go_ret
      all_goals exact ⟨ret_bool H0.out.symm, rfl⟩
  · have ha' : allD s.data.toList = false := by simpa using ha
    have H0 : Hid (isNum s.data.toList = false) := by show _ = _; unfold isNum; rw [ha']; rfl
    clear ha
    go_enter Try.func19, Try.ntmps19
    go_wp2_with (go_at_call 20; refine (allDigits_any _ _ hm).mono ?_; rintro e w' ⟨rfl, rfl⟩)
    go_ret
    exact ⟨ret_bool H0.out.symm, rfl⟩

theorem zzIsNumber_any (s : ByteArray) (w : World) (hm : s.size ≤ maxLen) :
    Calls Try.prog 12 #[.string s] w fun e w' => e = .returned (.bool (isNum s.data.toList)) ∧ w' = w := by
  go_enter Try.func12, Try.ntmps12
  go_wp2_with (go_at_call 19; refine (isNumber_any _ _ hm).mono ?_; rintro e w' ⟨rfl, rfl⟩)
  go_ret
  exact ⟨rfl, rfl⟩

end Go.Proofs.Qxb6615689a.IsNum
