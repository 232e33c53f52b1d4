/-
  'Rows.FnIsNumberAppendOneByteSaid': the proof. The walk and the plain law are typed by hand; the row's step is the guide's template, laid by program.
-/
import Derived.Test.Qxb6615689aRows
import Derived.Test.Qxb6615689aIsNum
import Derived.Test.Qxb6615689aJoin
import Derived.WalkKit
import Derived.ProofKit
import Derived.OpenShut
import Derived.ShutString
namespace Go.Proofs.Qxb6615689a.fnIsNumberAppendOneByte
open Go.ChangeShapes Go.WideShapes Go.ChangeAt Go.RowKit
open Go.ChangeMaps (open_string shut_string)
open Go.Proofs.Qxb6615689a.IsNum Go.Proofs.Qxb6615689a.Join
set_option linter.unusedVariables false      -- a walk need not use every 'w<i>' (that an integer argument fits its kind)

theorem own : ownKnob Try.prog.godebug = none := by kernel_rfl

/-! ### THE PLAIN LAW -/
theorem allB_snoc (l : List UInt8) (c : UInt8) : allB (l ++ [c]) = (allB l && digB c) := by simp [allB, List.all_append]

theorem law (l : List UInt8) (c : UInt8) : isNum (l ++ [c]) = (digB c && (l.isEmpty || (isNum l && !(l == [48])))) := by
  cases l with
  | nil =>
    have h : (([c] : List UInt8) == [48] || ([c] : List UInt8).head? != some 48) = true := by
      by_cases hc : c = 48
      · subst hc; rfl
      · simp [hc]
    show (allD [c] && (([c] : List UInt8) == [48] || ([c] : List UInt8).head? != some 48)) = _
    rw [h]
    simp [allD, allB]
  | cons a t =>
    have h1 : (a :: t ++ [c] == [48]) = false := by
      rw [beq_eq_false_iff_ne]; intro h; have := congrArg List.length h; simp at this
    have h2 : (a :: t ++ [c]).head? = some a := rfl
    have h3 : (a :: t).head? = some a := rfl
    have h4 : allD (a :: t ++ [c]) = (allB (a :: t) && digB c) := by rw [← allB_snoc]; rfl
    have h5 : allD (a :: t) = allB (a :: t) := rfl
    have h6 : (some a != some (48 : UInt8)) = true → (a :: t == [48]) = false := by
      intro h; rw [beq_eq_false_iff_ne]; intro e; injection e with e1 _; subst e1; simp at h
    unfold isNum
    rw [h1, h2, h3, h4, h5]
    generalize allB (a :: t) = x
    generalize digB c = y
    revert h6
    generalize (a :: t == [48]) = z
    generalize (some a != some (48 : UInt8)) = u
    intro h6
    cases x <;> cases y <;> cases z <;> cases u <;> simp_all

/-! ### THE WALK -/
theorem bytes_yes (a0 : ByteArray) (a1 : Int) (w : World) (h : a0.size ≤ 1048576) :
    Calls Try.prog 17 #[.string a0, .int .u8 a1] w fun e w' => e = .returned (.bool true) ∧ w' = w := by
  go_enter Try.func17, Try.ntmps17
  go_wp2
  go_ret
  exact ⟨rfl, rfl⟩

theorem bytes_no (a0 : ByteArray) (a1 : Int) (w : World) (h : ¬ a0.size ≤ 1048576) :
    Calls Try.prog 17 #[.string a0, .int .u8 a1] w fun e w' => e = .returned (.bool false) ∧ w' = w := by
  go_enter Try.func17, Try.ntmps17
  go_wp2
  go_ret
  exact ⟨rfl, rfl⟩

theorem zzIsDigit_any (c : Int) (w : World) :
    Calls Try.prog 15 #[.int .u8 c] w fun e w' => e = .returned (.bool (digI c)) ∧ w' = w := by
  by_cases h1 : 48 ≤ c
  · by_cases h2 : c ≤ 57
    · go_enter Try.func15, Try.ntmps15
      go_wp2
      go_ret
      exact ⟨by simp [digI, h1, h2], rfl⟩
    · go_enter Try.func15, Try.ntmps15
      go_wp2
      go_ret
      exact ⟨by simp [digI, h1, h2], rfl⟩
  · go_enter Try.func15, Try.ntmps15
    go_wp2
    go_ret
    exact ⟨by simp [digI]; omega, rfl⟩

theorem append_ex (s : ByteArray) (c : UInt8) (w : World) (hs : s.size ≤ 1048576) :
    Calls Try.prog 18 #[.string s, .int .u8 (c.toNat : Int)] w fun e w' => ∃ t : ByteArray, e = .returned (.string t) ∧ Hid (t.data.toList = s.data.toList ++ [c]) ∧ t.size ≤ maxLen ∧ Grown w w' := by
  refine (append_any s c w hs).mono ?_
  rintro e w' ⟨rfl, hg⟩
  refine ⟨_, rfl, by show _ = _; simp, ?_, hg⟩
  have : (⟨(s.data.toList ++ [c]).toArray⟩ : ByteArray).size = s.size + 1 := by
    show ((s.data.toList ++ [c]).toArray).size = _
    simp
  rw [this]; unfold maxLen; omega

set_option maxHeartbeats 1000000 in
theorem walk_in (s : ByteArray) (c : UInt8) (hs : s.size ≤ 1048576) (w : World) :
    Calls Try.prog 5 #[.string s, .int .u8 (c.toNat : Int)] w fun e w' => e = .returned (.bool true) ∧ Grown w w' := by
  have hm : s.size ≤ maxLen := by unfold maxLen; omega
  have hlaw : ∀ t : ByteArray, Hid (t.data.toList = s.data.toList ++ [c]) → Hid (isNum t.data.toList = (digI (c.toNat : Int) && (s.toList.isEmpty || (isNum s.data.toList && !(s.toList == [48]))))) := by
    intro t ht
    show _ = _
    rw [ht.out, law, ByteArray.toList_eq]; rfl
  have hemp : s.toList.isEmpty = true → isNum s.data.toList = false := by
    intro h
    rw [ByteArray.toList_eq] at h
    rw [List.isEmpty_iff.1 h]; rfl
  have HL : Hid (∀ t : ByteArray, Hid (t.data.toList = s.data.toList ++ [c]) → Hid (isNum t.data.toList = (digI (c.toNat : Int) && (s.toList.isEmpty || (isNum s.data.toList && !(s.toList == [48])))))) := hlaw
  clear hlaw
  cases hE : s.toList.isEmpty <;> cases hD : digI (c.toNat : Int) <;> cases hB : isNum s.data.toList <;> cases hZ : (s.toList == [48]) <;> try (exact absurd (hemp hE) (by rw [hB]; decide))
  all_goals clear hemp
  all_goals go_enter Try.func5, Try.ntmps5
  all_goals go_wp2_with (first
    | (go_at_call 17; refine (bytes_yes _ _ _ hs).mono ?_; rintro e w' ⟨rfl, rfl⟩)
    | (go_at_call 15; refine (zzIsDigit_any _ _).mono ?_; rintro e w' ⟨rfl, rfl⟩)
    | (go_at_call 18; refine (append_ex _ _ _ hs).mono ?_; rintro e w1 ⟨t, rfl, ht, htm, hg⟩)
    | (go_at_call_of 12 (Value.string s); refine (zzIsNumber_any s _ hm).mono ?_; rintro e w' ⟨rfl, rfl⟩)
    | (go_at_call 12; refine (zzIsNumber_any t _ htm).mono ?_; rintro e w' ⟨rfl, rfl⟩))
  all_goals go_ret
  all_goals exact ⟨ret_bool (by have h := (HL.out t ht).out; rw [hE, hD, hB, hZ] at h; simp [h]), hg⟩

theorem walk (a0 : ByteArray) (a1 : Int) (w0 : a0.size ≤ maxLen) (w1 : (Lit.int .u8 a1).wf = true) (w : World) :
    Calls Try.prog 5 #[.string a0, .int .u8 a1] w fun e w' => e = .returned (.bool true) ∧ Grown w w' := by
  by_cases h : a0.size ≤ 1048576
  · have hb := bounds_u8 w1
    obtain ⟨c, rfl⟩ : ∃ c : UInt8, a1 = (c.toNat : Int) := ⟨UInt8.ofNat a1.toNat, by simp; omega⟩
    exact walk_in a0 c h w
  · go_enter Try.func5, Try.ntmps5
    go_wp2_with (go_at_call 17; refine (bytes_no _ _ _ h).mono ?_; rintro e w' ⟨rfl, rfl⟩)
    go_ret
    exact ⟨rfl, Grown.refl _⟩

/-! ### THE ROW's STEP: WRITTEN OUT: LEAVE IT -/
set_option maxRecDepth 100000 in
theorem lifted (os : Os) (started : os.Started) (H : Type) (enc : TypeId × Value → H) :
    ReturnsInHanded {} Try.checked os 5 .any (Rows.fnIsNumberAppendOneByteSpec.pre6 enc Try.prog Try.f5 Rows.fnIsNumberAppendOneByteRow.domain false) (Rows.fnIsNumberAppendOneByteSpec.post enc Try.prog Try.f5 false true false false) := by
  refine returnsInHanded_of_change (C := Try.checked) own started (by kernel_rfl) Try.func5
    (ChangeSpec.witness6 (enc := enc) (C := Try.checked) false ⟨#[], #[.string ByteArray.empty, .int .u8 0], []⟩ 8 (by kernel_rfl) (by kernel_rfl) (by kernel_rfl) (by kernel_rfl)) ?_
  intro W base args ds gs before hval0 hW hcnd _
  have hval : ∀ (j : Nat) t v, Try.f5.params[j]? = some t → args[j]? = some v → Value.okWide Try.prog W .any base t v := hval0
  have hW' := hW
  obtain ⟨p, q, hA0, hV, rfl, hfz, hnd⟩ := hW
  have hA : DataW.TrodAll enc Try.prog W 0 (fun _ => true) true Try.f5.params.toList args.toList ds p := hA0
  rw [Try.params5] at hA hval
  obtain ⟨v0, vs0, d0, ds0, p0, q0, hargs, rfl, rfl, h0, r0⟩ := trodAll_cons hA
  obtain ⟨v1, vs1, d1, ds1, p1, q1, rfl, rfl, rfl, h1, r1⟩ := trodAll_cons r0
  obtain ⟨rfl, rfl, rfl⟩ := trodAll_nil r1
  obtain rfl : args = #[v0, v1] := by cases args; simp_all
  obtain ⟨rfl, rfl⟩ := trodVars_none hV
  obtain ⟨a0, rfl, rfl, rfl, w0⟩ := open_string Try.underlying9 (hval 0 9 v0 rfl rfl) h0
  obtain ⟨a1, rfl, rfl, rfl, w1⟩ := open_int Try.underlying5 (hval 1 5 v1 rfl rfl) h1
  clear hA0 hval0
  simp only [List.append_nil] at hW'
  refine (walk a0 a1 w0 w1 W).mono fun e W' ⟨he, hg⟩ => ?_
  subst he
  exact ⟨_, rfl, post_of_same (pa := []) (pv := []) hW' (fun _ _ _ => (trodAll_cons_mk (shut_bool Try.underlying4 _) trodAll_mk0)) (fun sp _ => (trodAll_cons_mk (shut_string Try.underlying9 w0) (trodAll_cons_mk (shut_int Try.underlying5 w1) trodAll_mk0))) (fun _ _ => rfl) rfl
    (hg.frame _) hg.2.1 (ok_one (by kernel_rfl) rfl (okWide_bool_mk Try.underlying4 _))⟩

theorem over : Rows.fnIsNumberAppendOneByteRow.holds Try.pinned (OpenSpec.ofChange Rows.fnIsNumberAppendOneByteSpec) :=
  OpenClaim.holds_of_wide 5 Try.f5 rfl rfl rfl rfl rfl rfl rfl ⟨rfl, rfl, rfl, rfl, rfl⟩ rfl rfl rfl rfl rfl (by kernel_rfl) Try.func5 (by kernel_rfl)
    (of_decide_eq_true (by kernel_rfl)) (by unfold Func.isWrapper; first | (rw [if_pos (by decide +kernel)]; kernel_rfl) | (rw [if_neg (by decide +kernel)]; exact ⟨rfl, rfl⟩))
    (fun os started H enc _ => lifted os started H enc)

/-- ████ THE STATEMENT ████ -/
theorem proved : Rows.FnIsNumberAppendOneByteSaid :=
  over
end Go.Proofs.Qxb6615689a.fnIsNumberAppendOneByte
namespace Go.Proofs.Qxb6615689a
theorem fnIsNumberAppendOneByte_holds : Rows.FnIsNumberAppendOneByteSaid := fnIsNumberAppendOneByte.proved
end Go.Proofs.Qxb6615689a
