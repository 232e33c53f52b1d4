/-
  'Rows.FnIsNumberPrependOneByteSaid': the proof. The walk and the plain law are typed by hand; the row's step is the guide's template, laid by program.
-/
import Derived.Test.Qxb6615689aRows
import Derived.Test.Qxb6615689aIsNum
import Derived.Test.Qxb6615689aJoin
import Derived.WalkKit
import Derived.ProofKit
import Derived.OpenShut
import Derived.ShutString
namespace Go.Proofs.Qxb6615689a.fnIsNumberPrependOneByte
open Go.ChangeShapes Go.WideShapes Go.ChangeAt Go.RowKit
open Go.ChangeMaps (open_string shut_string)
open Go.Proofs.Qxb6615689a.IsNum Go.Proofs.Qxb6615689a.Join
set_option linter.unusedVariables false      -- a walk need not use every 'w<i>' (that an integer argument fits its kind)

theorem own : ownKnob Try.prog.godebug = none := by kernel_rfl

/-! ### THE PLAIN LAW -/
/-- '1' to '9', by its number. -/
def nzI (c : Int) : Bool := decide (49 ≤ c) && decide (c ≤ 57)

theorem law_zero (l : List UInt8) : isNum ((48 : UInt8) :: l) = l.isEmpty := by
  cases l with
  | nil => decide
  | cons a t =>
    have h : ((48 : UInt8) :: a :: t == [48]) = false := by
      rw [beq_eq_false_iff_ne]; intro h; have := congrArg List.length h; simp at this
    unfold isNum
    rw [h]
    simp

theorem law_other (c : UInt8) (l : List UInt8) (h : c ≠ 48) : isNum (c :: l) = (digB c && allB l) := by
  have h1 : ((c :: l).head? != some 48) = true := by simpa using h
  unfold isNum
  rw [h1]
  simp [allD, allB]

/-! ### THE WALK -/
theorem bytes_yes (a0 : ByteArray) (a1 a2 : Int) (w : World) (h : a0.size ≤ 1048576) :
    Calls Try.prog 11 #[.string a0, .int .u8 a1, .int .u8 a2] w fun e w' => e = .returned (.bool true) ∧ w' = w := by
  go_enter Try.func11, Try.ntmps11
  go_wp2
  go_ret
  exact ⟨rfl, rfl⟩

theorem bytes_no (a0 : ByteArray) (a1 a2 : Int) (w : World) (h : ¬ a0.size ≤ 1048576) :
    Calls Try.prog 11 #[.string a0, .int .u8 a1, .int .u8 a2] w fun e w' => e = .returned (.bool false) ∧ w' = w := by
  go_enter Try.func11, Try.ntmps11
  go_wp2
  go_ret
  exact ⟨rfl, rfl⟩

theorem zzIsDigit_any (c : Int) (w : World) :
    Calls Try.prog 15 #[.int .u8 c] w fun e w' => e = .returned (.bool (digI c)) ∧ w' = w := by
  by_cases h1 : 48 ≤ c
  · by_cases h2 : c ≤ 57
    · go_enter Try.func15, Try.ntmps15
      go_wp2
      go_ret
      exact ⟨by simp [digI, h1, h2], rfl⟩
    · go_enter Try.func15, Try.ntmps15
      go_wp2
      go_ret
      exact ⟨by simp [digI, h1, h2], rfl⟩
  · go_enter Try.func15, Try.ntmps15
    go_wp2
    go_ret
    exact ⟨by simp [digI]; omega, rfl⟩

theorem nonZero_any (c : Int) (w : World) :
    Calls Try.prog 14 #[.int .u8 c] w fun e w' => e = .returned (.bool (nzI c)) ∧ w' = w := by
  by_cases h1 : 49 ≤ c
  · by_cases h2 : c ≤ 57
    · go_enter Try.func14, Try.ntmps14
      go_wp2
      go_ret
      exact ⟨by simp [nzI, h1, h2], rfl⟩
    · go_enter Try.func14, Try.ntmps14
      go_wp2
      go_ret
      exact ⟨by simp [nzI, h1, h2], rfl⟩
  · go_enter Try.func14, Try.ntmps14
    go_wp2
    go_ret
    exact ⟨by simp [nzI]; omega, rfl⟩

set_option maxHeartbeats 400000 in
theorem digitsOrEmpty_any (s : ByteArray) (w : World) (hm : s.size ≤ maxLen) :
    Calls Try.prog 16 #[.string s] w fun e w' => e = .returned (.bool (allB s.data.toList)) ∧ w' = w := by
  unfold maxLen at hm
  go_enter Try.func16, Try.ntmps16
  go_wp2
  go_loop [3] (fun i => ∃ k : Nat, k ≤ s.size ∧ i = .int .i64 k ∧ Hid ((s.data.toList.take k).all digB = true)) (fun i => s.size - (intOf i).toNat)
  case atStart => exact ⟨0, Nat.zero_le _, rfl, rfl⟩
  case round =>
    obtain ⟨k, hk, rfl, hall⟩ := hrel
    by_cases hlt : k < s.size
    · have hsn : Hid ((s.data.toList.take (k + 1)).all digB = ((s.data.toList.take k).all digB && digI (s[k].toNat : Int))) := by
        show _ = _
        rw [take_snoc s k hlt, List.all_append]; simp [digB]
      by_cases hd : digI (s[k].toNat : Int) = true
      · go_wp2_with (go_at_call 15; refine (zzIsDigit_any _ _).mono ?_; rintro e w' ⟨rfl, rfl⟩)
        go_round
        case rel => exact ⟨k + 1, by omega, by go_num, by show _ = _; rw [hsn.out, hall.out, hd]; rfl⟩
        case measure => simp [intOf]; omega
      · have hd' : digI (s[k].toNat : Int) = false := by simpa using hd
        have hfin : Hid (allB s.data.toList = false) := by
          show _ = _
          have h1 : (s.data.toList.take (k + 1)).all digB = false := by rw [hsn.out, hd']; simp
          have h2 := congrArg (fun l => List.all l digB) (List.take_append_drop (k + 1) s.data.toList)
          simp only [List.all_append, h1, Bool.false_and] at h2
          exact h2.symm
        clear hd
        go_wp2_with (go_at_call 15; refine (zzIsDigit_any _ _).mono ?_; rintro e w' ⟨rfl, rfl⟩)
        go_ret
        exact ⟨ret_bool hfin.out.symm, rfl⟩
    · have hfin : Hid (allB s.data.toList = true) := by
        show _ = _
        have h := hall.out
        rwa [List.take_of_length_le (by simp; omega)] at h
      go_wp2
      go_ret
      exact ⟨ret_bool hfin.out.symm, rfl⟩

theorem prepend_ex (s : ByteArray) (c : UInt8) (w : World) (hs : s.size ≤ 1048576) :
    Calls Try.prog 13 #[.int .u8 (c.toNat : Int), .string s] w fun e w' => ∃ t : ByteArray, e = .returned (.string t) ∧ Hid (t.data.toList = c :: s.data.toList) ∧ t.size ≤ maxLen ∧ Grown w w' := by
  refine (prepend_any s c w hs).mono ?_
  rintro e w' ⟨rfl, hg⟩
  refine ⟨_, rfl, by show _ = _; simp, ?_, hg⟩
  have : (⟨(c :: s.data.toList).toArray⟩ : ByteArray).size = s.size + 1 := by
    show ((c :: s.data.toList).toArray).size = _
    simp
  rw [this]; unfold maxLen; omega

theorem grown_trans {a b c : World} (h : Grown a b) (k : Grown b c) : Grown a c :=
  ⟨World.keptBut_trans h.1 k.1, fun x => (k.2.1 x).trans (h.2.1 x), Nat.le_trans h.2.2 k.2.2⟩

set_option maxHeartbeats 1000000 in
/-- c is '0', or no digit: the second byte is not looked at. A: what 'c and then s' answers. -/
theorem walk_plain (s : ByteArray) (c d : UInt8) (hs : s.size ≤ 1048576) (w : World) (A : Bool) (hA : isNum (c :: s.data.toList) = A) (hN : nzI (c.toNat : Int) = false)
    (hZ : (((c.toNat : Int) == 48) = true ∧ s.toList.isEmpty = A) ∨ (((c.toNat : Int) == 48) = false ∧ digI (c.toNat : Int) = false ∧ A = false)) :
    Calls Try.prog 4 #[.string s, .int .u8 (c.toNat : Int), .int .u8 (d.toNat : Int)] w fun e w' => e = .returned (.bool true) ∧ Grown w w' := by
  have hm : s.size ≤ maxLen := by unfold maxLen; omega
  rcases hZ with ⟨hZ, hE⟩ | ⟨hZ, hD, rfl⟩
  · cases A
    all_goals go_enter Try.func4, Try.ntmps4
    · go_wp2_with (first
    | (go_at_call 11; refine (bytes_yes _ _ _ _ hs).mono ?_; rintro e w' ⟨rfl, rfl⟩)
    | (go_at_call_of 13 (Value.int IntKind.u8 (c.toNat : Int)); refine (prepend_ex _ _ _ hs).mono ?_; rintro e w1 ⟨t, rfl, ht, htm, hg1⟩; have hT : isNum t.data.toList = false := by rw [ht.out]; exact hA)
    | (go_at_call_of 13 (Value.int IntKind.u8 (d.toNat : Int)); refine (prepend_ex _ _ _ hs).mono ?_; rintro e w2 ⟨u, rfl, hu, hum, hg2⟩)
    | (go_at_call_of 12 (Value.string t); refine (zzIsNumber_any t _ htm).mono ?_; rintro e w' ⟨rfl, rfl⟩)
    | (go_at_call_of 12 (Value.string u); refine (zzIsNumber_any u _ hum).mono ?_; rintro e w' ⟨rfl, rfl⟩)
    | (go_at_call_of 14 (Value.int IntKind.u8 (c.toNat : Int)); refine (nonZero_any _ _).mono ?_; rintro e w' ⟨rfl, rfl⟩)
    | (go_at_call_of 14 (Value.int IntKind.u8 (d.toNat : Int)); refine (nonZero_any _ _).mono ?_; rintro e w' ⟨rfl, rfl⟩)
    | (go_at_call 15; refine (zzIsDigit_any _ _).mono ?_; rintro e w' ⟨rfl, rfl⟩)
    | (go_at_call 16; refine (digitsOrEmpty_any _ _ hm).mono ?_; rintro e w' ⟨rfl, rfl⟩))
      go_ret
      exact ⟨rfl, grown_trans hg1 hg2⟩
    · go_wp2_with (first
    | (go_at_call 11; refine (bytes_yes _ _ _ _ hs).mono ?_; rintro e w' ⟨rfl, rfl⟩)
    | (go_at_call_of 13 (Value.int IntKind.u8 (c.toNat : Int)); refine (prepend_ex _ _ _ hs).mono ?_; rintro e w1 ⟨t, rfl, ht, htm, hg1⟩; have hT : isNum t.data.toList = true := by rw [ht.out]; exact hA)
    | (go_at_call_of 13 (Value.int IntKind.u8 (d.toNat : Int)); refine (prepend_ex _ _ _ hs).mono ?_; rintro e w2 ⟨u, rfl, hu, hum, hg2⟩)
    | (go_at_call_of 12 (Value.string t); refine (zzIsNumber_any t _ htm).mono ?_; rintro e w' ⟨rfl, rfl⟩)
    | (go_at_call_of 12 (Value.string u); refine (zzIsNumber_any u _ hum).mono ?_; rintro e w' ⟨rfl, rfl⟩)
    | (go_at_call_of 14 (Value.int IntKind.u8 (c.toNat : Int)); refine (nonZero_any _ _).mono ?_; rintro e w' ⟨rfl, rfl⟩)
    | (go_at_call_of 14 (Value.int IntKind.u8 (d.toNat : Int)); refine (nonZero_any _ _).mono ?_; rintro e w' ⟨rfl, rfl⟩)
    | (go_at_call 15; refine (zzIsDigit_any _ _).mono ?_; rintro e w' ⟨rfl, rfl⟩)
    | (go_at_call 16; refine (digitsOrEmpty_any _ _ hm).mono ?_; rintro e w' ⟨rfl, rfl⟩))
      go_ret
      exact ⟨rfl, grown_trans hg1 hg2⟩
  · go_enter Try.func4, Try.ntmps4
    go_wp2_with (first
    | (go_at_call 11; refine (bytes_yes _ _ _ _ hs).mono ?_; rintro e w' ⟨rfl, rfl⟩)
    | (go_at_call_of 13 (Value.int IntKind.u8 (c.toNat : Int)); refine (prepend_ex _ _ _ hs).mono ?_; rintro e w1 ⟨t, rfl, ht, htm, hg1⟩; have hT : isNum t.data.toList = false := by rw [ht.out]; exact hA)
    | (go_at_call_of 13 (Value.int IntKind.u8 (d.toNat : Int)); refine (prepend_ex _ _ _ hs).mono ?_; rintro e w2 ⟨u, rfl, hu, hum, hg2⟩)
    | (go_at_call_of 12 (Value.string t); refine (zzIsNumber_any t _ htm).mono ?_; rintro e w' ⟨rfl, rfl⟩)
    | (go_at_call_of 12 (Value.string u); refine (zzIsNumber_any u _ hum).mono ?_; rintro e w' ⟨rfl, rfl⟩)
    | (go_at_call_of 14 (Value.int IntKind.u8 (c.toNat : Int)); refine (nonZero_any _ _).mono ?_; rintro e w' ⟨rfl, rfl⟩)
    | (go_at_call_of 14 (Value.int IntKind.u8 (d.toNat : Int)); refine (nonZero_any _ _).mono ?_; rintro e w' ⟨rfl, rfl⟩)
    | (go_at_call 15; refine (zzIsDigit_any _ _).mono ?_; rintro e w' ⟨rfl, rfl⟩)
    | (go_at_call 16; refine (digitsOrEmpty_any _ _ hm).mono ?_; rintro e w' ⟨rfl, rfl⟩))
    go_ret
    exact ⟨rfl, grown_trans hg1 hg2⟩

set_option maxHeartbeats 1000000 in
/-- c is '1' to '9'. -/
theorem walk_digit (s : ByteArray) (c d : UInt8) (hs : s.size ≤ 1048576) (w : World) (A : Bool) (hA : isNum (c :: s.data.toList) = A) (hN : nzI (c.toNat : Int) = true)
    (hZ : ((c.toNat : Int) == 48) = false) (hD : digI (c.toNat : Int) = true) (hL : allB s.data.toList = A) (hB : nzI (d.toNat : Int) = true → isNum (d :: s.data.toList) = A) :
    Calls Try.prog 4 #[.string s, .int .u8 (c.toNat : Int), .int .u8 (d.toNat : Int)] w fun e w' => e = .returned (.bool true) ∧ Grown w w' := by
  have hm : s.size ≤ maxLen := by unfold maxLen; omega
  cases hM : nzI (d.toNat : Int) <;> cases A
  all_goals go_enter Try.func4, Try.ntmps4
  · go_wp2_with (first
    | (go_at_call 11; refine (bytes_yes _ _ _ _ hs).mono ?_; rintro e w' ⟨rfl, rfl⟩)
    | (go_at_call_of 13 (Value.int IntKind.u8 (c.toNat : Int)); refine (prepend_ex _ _ _ hs).mono ?_; rintro e w1 ⟨t, rfl, ht, htm, hg1⟩; have hT : isNum t.data.toList = false := by rw [ht.out]; exact hA)
    | (go_at_call_of 13 (Value.int IntKind.u8 (d.toNat : Int)); refine (prepend_ex _ _ _ hs).mono ?_; rintro e w2 ⟨u, rfl, hu, hum, hg2⟩)
    | (go_at_call_of 12 (Value.string t); refine (zzIsNumber_any t _ htm).mono ?_; rintro e w' ⟨rfl, rfl⟩)
    | (go_at_call_of 12 (Value.string u); refine (zzIsNumber_any u _ hum).mono ?_; rintro e w' ⟨rfl, rfl⟩)
    | (go_at_call_of 14 (Value.int IntKind.u8 (c.toNat : Int)); refine (nonZero_any _ _).mono ?_; rintro e w' ⟨rfl, rfl⟩)
    | (go_at_call_of 14 (Value.int IntKind.u8 (d.toNat : Int)); refine (nonZero_any _ _).mono ?_; rintro e w' ⟨rfl, rfl⟩)
    | (go_at_call 15; refine (zzIsDigit_any _ _).mono ?_; rintro e w' ⟨rfl, rfl⟩)
    | (go_at_call 16; refine (digitsOrEmpty_any _ _ hm).mono ?_; rintro e w' ⟨rfl, rfl⟩))
    go_ret
    exact ⟨rfl, grown_trans hg1 hg2⟩
  · go_wp2_with (first
    | (go_at_call 11; refine (bytes_yes _ _ _ _ hs).mono ?_; rintro e w' ⟨rfl, rfl⟩)
    | (go_at_call_of 13 (Value.int IntKind.u8 (c.toNat : Int)); refine (prepend_ex _ _ _ hs).mono ?_; rintro e w1 ⟨t, rfl, ht, htm, hg1⟩; have hT : isNum t.data.toList = true := by rw [ht.out]; exact hA)
    | (go_at_call_of 13 (Value.int IntKind.u8 (d.toNat : Int)); refine (prepend_ex _ _ _ hs).mono ?_; rintro e w2 ⟨u, rfl, hu, hum, hg2⟩)
    | (go_at_call_of 12 (Value.string t); refine (zzIsNumber_any t _ htm).mono ?_; rintro e w' ⟨rfl, rfl⟩)
    | (go_at_call_of 12 (Value.string u); refine (zzIsNumber_any u _ hum).mono ?_; rintro e w' ⟨rfl, rfl⟩)
    | (go_at_call_of 14 (Value.int IntKind.u8 (c.toNat : Int)); refine (nonZero_any _ _).mono ?_; rintro e w' ⟨rfl, rfl⟩)
    | (go_at_call_of 14 (Value.int IntKind.u8 (d.toNat : Int)); refine (nonZero_any _ _).mono ?_; rintro e w' ⟨rfl, rfl⟩)
    | (go_at_call 15; refine (zzIsDigit_any _ _).mono ?_; rintro e w' ⟨rfl, rfl⟩)
    | (go_at_call 16; refine (digitsOrEmpty_any _ _ hm).mono ?_; rintro e w' ⟨rfl, rfl⟩))
    go_ret
    exact ⟨rfl, grown_trans hg1 hg2⟩
  · go_wp2_with (first
    | (go_at_call 11; refine (bytes_yes _ _ _ _ hs).mono ?_; rintro e w' ⟨rfl, rfl⟩)
    | (go_at_call_of 13 (Value.int IntKind.u8 (c.toNat : Int)); refine (prepend_ex _ _ _ hs).mono ?_; rintro e w1 ⟨t, rfl, ht, htm, hg1⟩; have hT : isNum t.data.toList = false := by rw [ht.out]; exact hA)
    | (go_at_call_of 13 (Value.int IntKind.u8 (d.toNat : Int)); refine (prepend_ex _ _ _ hs).mono ?_; rintro e w2 ⟨u, rfl, hu, hum, hg2⟩; have hU : isNum u.data.toList = false := by rw [hu.out]; exact hB hM)
    | (go_at_call_of 12 (Value.string t); refine (zzIsNumber_any t _ htm).mono ?_; rintro e w' ⟨rfl, rfl⟩)
    | (go_at_call_of 12 (Value.string u); refine (zzIsNumber_any u _ hum).mono ?_; rintro e w' ⟨rfl, rfl⟩)
    | (go_at_call_of 14 (Value.int IntKind.u8 (c.toNat : Int)); refine (nonZero_any _ _).mono ?_; rintro e w' ⟨rfl, rfl⟩)
    | (go_at_call_of 14 (Value.int IntKind.u8 (d.toNat : Int)); refine (nonZero_any _ _).mono ?_; rintro e w' ⟨rfl, rfl⟩)
    | (go_at_call 15; refine (zzIsDigit_any _ _).mono ?_; rintro e w' ⟨rfl, rfl⟩)
    | (go_at_call 16; refine (digitsOrEmpty_any _ _ hm).mono ?_; rintro e w' ⟨rfl, rfl⟩))
    go_ret
    exact ⟨rfl, grown_trans hg1 hg2⟩
  · go_wp2_with (first
    | (go_at_call 11; refine (bytes_yes _ _ _ _ hs).mono ?_; rintro e w' ⟨rfl, rfl⟩)
    | (go_at_call_of 13 (Value.int IntKind.u8 (c.toNat : Int)); refine (prepend_ex _ _ _ hs).mono ?_; rintro e w1 ⟨t, rfl, ht, htm, hg1⟩; have hT : isNum t.data.toList = true := by rw [ht.out]; exact hA)
    | (go_at_call_of 13 (Value.int IntKind.u8 (d.toNat : Int)); refine (prepend_ex _ _ _ hs).mono ?_; rintro e w2 ⟨u, rfl, hu, hum, hg2⟩; have hU : isNum u.data.toList = true := by rw [hu.out]; exact hB hM)
    | (go_at_call_of 12 (Value.string t); refine (zzIsNumber_any t _ htm).mono ?_; rintro e w' ⟨rfl, rfl⟩)
    | (go_at_call_of 12 (Value.string u); refine (zzIsNumber_any u _ hum).mono ?_; rintro e w' ⟨rfl, rfl⟩)
    | (go_at_call_of 14 (Value.int IntKind.u8 (c.toNat : Int)); refine (nonZero_any _ _).mono ?_; rintro e w' ⟨rfl, rfl⟩)
    | (go_at_call_of 14 (Value.int IntKind.u8 (d.toNat : Int)); refine (nonZero_any _ _).mono ?_; rintro e w' ⟨rfl, rfl⟩)
    | (go_at_call 15; refine (zzIsDigit_any _ _).mono ?_; rintro e w' ⟨rfl, rfl⟩)
    | (go_at_call 16; refine (digitsOrEmpty_any _ _ hm).mono ?_; rintro e w' ⟨rfl, rfl⟩))
    go_ret
    exact ⟨rfl, grown_trans hg1 hg2⟩

/-- Nothing of the world in this one: which of the two walks serves. -/
theorem walk_in (s : ByteArray) (c d : UInt8) (hs : s.size ≤ 1048576) (w : World) :
    Calls Try.prog 4 #[.string s, .int .u8 (c.toNat : Int), .int .u8 (d.toNat : Int)] w fun e w' => e = .returned (.bool true) ∧ Grown w w' := by
  by_cases h0 : c = 48
  · subst h0
    exact walk_plain s 48 d hs w s.toList.isEmpty (by rw [law_zero, ByteArray.toList_eq]) (by decide) (.inl ⟨by decide, rfl⟩)
  · have hne : ((c.toNat : Int) == 48) = false := by
      rw [beq_eq_false_iff_ne]
      intro h
      exact h0 (UInt8.toNat_inj.1 (by have e : (48 : UInt8).toNat = 48 := rfl; omega))
    have hne' : (c.toNat : Int) ≠ 48 := by simpa using hne
    by_cases hn : nzI (c.toNat : Int) = true
    · have hd : digI (c.toNat : Int) = true := by
        simp only [nzI, digI, Bool.and_eq_true, decide_eq_true_eq] at hn ⊢
        omega
      refine walk_digit s c d hs w (allB s.data.toList) ?_ hn hne hd rfl ?_
      · rw [law_other c _ h0]
        show (digI (c.toNat : Int) && _) = _
        rw [hd]; rfl
      · intro hM
        have h1 : digI (d.toNat : Int) = true := by
          simp only [nzI, digI, Bool.and_eq_true, decide_eq_true_eq] at hM ⊢
          omega
        have h2 : d ≠ 48 := by
          rintro rfl
          exact absurd hM (by decide)
        rw [law_other d _ h2]
        show (digI (d.toNat : Int) && _) = _
        rw [h1]; rfl
    · have hn' : nzI (c.toNat : Int) = false := by simpa using hn
      have hd : digI (c.toNat : Int) = false := by
        simp only [nzI, digI, Bool.and_eq_false_iff, decide_eq_false_iff_not] at hn' ⊢
        omega
      refine walk_plain s c d hs w false ?_ hn' (.inr ⟨hne, hd, rfl⟩)
      rw [law_other c _ h0]
      show (digI (c.toNat : Int) && _) = _
      rw [hd]; rfl

theorem walk (a0 : ByteArray) (a1 : Int) (a2 : Int) (w0 : a0.size ≤ maxLen) (w1 : (Lit.int .u8 a1).wf = true) (w2 : (Lit.int .u8 a2).wf = true) (w : World) :
    Calls Try.prog 4 #[.string a0, .int .u8 a1, .int .u8 a2] w fun e w' => e = .returned (.bool true) ∧ Grown w w' := by
  by_cases h : a0.size ≤ 1048576
  · have hb := bounds_u8 w1
    have hb2 := bounds_u8 w2
    obtain ⟨c, rfl⟩ : ∃ c : UInt8, a1 = (c.toNat : Int) := ⟨UInt8.ofNat a1.toNat, by simp; omega⟩
    obtain ⟨d, rfl⟩ : ∃ d : UInt8, a2 = (d.toNat : Int) := ⟨UInt8.ofNat a2.toNat, by simp; omega⟩
    exact walk_in a0 c d h w
  · go_enter Try.func4, Try.ntmps4
    go_wp2_with (go_at_call 11; refine (bytes_no _ _ _ _ h).mono ?_; rintro e w' ⟨rfl, rfl⟩)
    go_ret
    exact ⟨rfl, Grown.refl _⟩

/-! ### THE ROW's STEP: WRITTEN OUT: LEAVE IT -/
set_option maxRecDepth 100000 in
theorem lifted (os : Os) (started : os.Started) (H : Type) (enc : TypeId × Value → H) :
    ReturnsInHanded {} Try.checked os 4 .any (Rows.fnIsNumberPrependOneByteSpec.pre6 enc Try.prog Try.f4 Rows.fnIsNumberPrependOneByteRow.domain false) (Rows.fnIsNumberPrependOneByteSpec.post enc Try.prog Try.f4 false true false false) := by
  refine returnsInHanded_of_change (C := Try.checked) own started (by kernel_rfl) Try.func4
    (ChangeSpec.witness6 (enc := enc) (C := Try.checked) false ⟨#[], #[.string ByteArray.empty, .int .u8 0, .int .u8 0], []⟩ 8 (by kernel_rfl) (by kernel_rfl) (by kernel_rfl) (by kernel_rfl)) ?_
  intro W base args ds gs before hval0 hW hcnd _
  have hval : ∀ (j : Nat) t v, Try.f4.params[j]? = some t → args[j]? = some v → Value.okWide Try.prog W .any base t v := hval0
  have hW' := hW
  obtain ⟨p, q, hA0, hV, rfl, hfz, hnd⟩ := hW
  have hA : DataW.TrodAll enc Try.prog W 0 (fun _ => true) true Try.f4.params.toList args.toList ds p := hA0
  rw [Try.params4] at hA hval
  obtain ⟨v0, vs0, d0, ds0, p0, q0, hargs, rfl, rfl, h0, r0⟩ := trodAll_cons hA
  obtain ⟨v1, vs1, d1, ds1, p1, q1, rfl, rfl, rfl, h1, r1⟩ := trodAll_cons r0
  obtain ⟨v2, vs2, d2, ds2, p2, q2, rfl, rfl, rfl, h2, r2⟩ := trodAll_cons r1
  obtain ⟨rfl, rfl, rfl⟩ := trodAll_nil r2
  obtain rfl : args = #[v0, v1, v2] := by cases args; simp_all
  obtain ⟨rfl, rfl⟩ := trodVars_none hV
  obtain ⟨a0, rfl, rfl, rfl, w0⟩ := open_string Try.underlying9 (hval 0 9 v0 rfl rfl) h0
  obtain ⟨a1, rfl, rfl, rfl, w1⟩ := open_int Try.underlying5 (hval 1 5 v1 rfl rfl) h1
  obtain ⟨a2, rfl, rfl, rfl, w2⟩ := open_int Try.underlying5 (hval 2 5 v2 rfl rfl) h2
  clear hA0 hval0
  simp only [List.append_nil] at hW'
  refine (walk a0 a1 a2 w0 w1 w2 W).mono fun e W' ⟨he, hg⟩ => ?_
  subst he
  exact ⟨_, rfl, post_of_same (pa := []) (pv := []) hW' (fun _ _ _ => (trodAll_cons_mk (shut_bool Try.underlying4 _) trodAll_mk0)) (fun sp _ => (trodAll_cons_mk (shut_string Try.underlying9 w0) (trodAll_cons_mk (shut_int Try.underlying5 w1) (trodAll_cons_mk (shut_int Try.underlying5 w2) trodAll_mk0)))) (fun _ _ => rfl) rfl
    (hg.frame _) hg.2.1 (ok_one (by kernel_rfl) rfl (okWide_bool_mk Try.underlying4 _))⟩

theorem over : Rows.fnIsNumberPrependOneByteRow.holds Try.pinned (OpenSpec.ofChange Rows.fnIsNumberPrependOneByteSpec) :=
  OpenClaim.holds_of_wide 4 Try.f4 rfl rfl rfl rfl rfl rfl rfl ⟨rfl, rfl, rfl, rfl, rfl⟩ rfl rfl rfl rfl rfl (by kernel_rfl) Try.func4 (by kernel_rfl)
    (of_decide_eq_true (by kernel_rfl)) (by unfold Func.isWrapper; first | (rw [if_pos (by decide +kernel)]; kernel_rfl) | (rw [if_neg (by decide +kernel)]; exact ⟨rfl, rfl⟩))
    (fun os started H enc _ => lifted os started H enc)

/-- ████ THE STATEMENT ████ -/
theorem proved : Rows.FnIsNumberPrependOneByteSaid :=
  over
end Go.Proofs.Qxb6615689a.fnIsNumberPrependOneByte
namespace Go.Proofs.Qxb6615689a
theorem fnIsNumberPrependOneByte_holds : Rows.FnIsNumberPrependOneByteSaid := fnIsNumberPrependOneByte.proved
end Go.Proofs.Qxb6615689a
