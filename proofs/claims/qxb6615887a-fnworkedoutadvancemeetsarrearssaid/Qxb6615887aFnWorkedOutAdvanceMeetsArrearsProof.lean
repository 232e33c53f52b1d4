/-
  'Rows.FnWorkedOutAdvanceMeetsArrearsSaid': the proof. The walk is typed by hand; the row's step is the guide's template, laid by program.
-/
import Derived.Test.Qxb6615887aRows
import Derived.WalkKit
import Derived.Laws.EntriesVeiled
import Derived.ProofKit
import Derived.OpenShut
import Derived.ShutString
namespace Go.Proofs.Qxb6615887a.fnWorkedOutAdvanceMeetsArrears
open Go.ChangeShapes Go.WideShapes Go.ChangeAt Go.RowKit
open Go.ChangeMaps (open_string shut_string)
set_option linter.unusedVariables false      -- a walk need not use every 'w<i>' (that an integer argument fits its kind)

theorem own : ownKnob Try.prog.godebug = none := by kernel_rfl

/-! ### THE WALK -/
theorem bytes_yes (a0 a1 : Int) (a2 : ByteArray) (a3 a4 a5 : Int) (w : World) (h : a2.size ≤ 1048576) :
    Calls Try.prog 4 #[.int .i64 a0, .int .i64 a1, .string a2, .int .i32 a3, .int .i32 a4, .int .i32 a5] w fun e w' => e = .returned (.bool true) ∧ w' = w := by
  go_enter Try.func4, Try.ntmps4
  go_wp2
  go_ret
  exact ⟨rfl, rfl⟩

theorem bytes_no (a0 a1 : Int) (a2 : ByteArray) (a3 a4 a5 : Int) (w : World) (h : ¬ a2.size ≤ 1048576) :
    Calls Try.prog 4 #[.int .i64 a0, .int .i64 a1, .string a2, .int .i32 a3, .int .i32 a4, .int .i32 a5] w fun e w' => e = .returned (.bool false) ∧ w' = w := by
  go_enter Try.func4, Try.ntmps4
  go_wp2
  go_ret
  exact ⟨rfl, rfl⟩

theorem workedOut_advance (d : Int) (c : ByteArray) (s e : Int) (w : World) :
    Calls Try.prog 5 #[.agg #[.nilFunc, .nilFunc, .bool false, .int .i64 d, .int .i64 2, .nilFunc, .bool false, .string c], .agg #[.int .i32 s, .int .i32 e]] w
      fun r w' => r = .returned (.int .i32 s) ∧ w' = (w.alloc (.cells #[.nilFunc, .nilFunc, .bool false, .int .i64 d, .int .i64 2, .nilFunc, .bool false, .string c] 31)).alloc (.cells #[.int .i32 s, .int .i32 e] 35) := by
  go_enter Try.func5, Try.ntmps5
  go_wp2
  go_ret
  exact ⟨rfl, rfl⟩

theorem workedOut_arrears (d p : Int) (c : ByteArray) (s e : Int) (hp : (p == 2) = false) (w : World) :
    Calls Try.prog 5 #[.agg #[.nilFunc, .nilFunc, .bool false, .int .i64 d, .int .i64 p, .nilFunc, .bool false, .string c], .agg #[.int .i32 s, .int .i32 e]] w
      fun r w' => r = .returned (.int .i32 e) ∧ w' = (w.alloc (.cells #[.nilFunc, .nilFunc, .bool false, .int .i64 d, .int .i64 p, .nilFunc, .bool false, .string c] 31)).alloc (.cells #[.int .i32 s, .int .i32 e] 35) := by
  go_enter Try.func5, Try.ntmps5
  go_wp2
  go_ret
  exact ⟨rfl, rfl⟩

set_option maxHeartbeats 400000 in
theorem walk_in (a0 : Int) (a1 : Int) (a2 : ByteArray) (a3 : Int) (a4 : Int) (a5 : Int) (h2 : a2.size ≤ 1048576) (hp : (a1 == 2) = false) (w : World) :
    Calls Try.prog 3 #[.int .i64 a0, .int .i64 a1, .string a2, .int .i32 a3, .int .i32 a4, .int .i32 a5] w fun e w' => e = .returned (.bool true) ∧ Grown w w' := by
  go_enter Try.func3, Try.ntmps3
  go_wp2_with (go_at_call 4; refine (bytes_yes _ _ _ _ _ _ _ h2).mono ?_; rintro e w' ⟨rfl, rfl⟩)
  refine (workedOut_advance _ _ _ _ _).mono ?_
  rintro e w1 ⟨rfl, rfl⟩
  go_wp2_with fail
  refine (workedOut_arrears _ _ _ _ _ hp _).mono ?_
  rintro e w1 ⟨rfl, rfl⟩
  go_wp2
  go_ret
  exact ⟨rfl, (((((((Grown.refl _).alloc _ _).alloc _ _).alloc _ _).alloc _ _).alloc _ _).alloc _ _)⟩

theorem walk (a0 : Int) (a1 : Int) (a2 : ByteArray) (a3 : Int) (a4 : Int) (a5 : Int) (w0 : (Lit.int .i64 a0).wf = true) (w1 : (Lit.int .i64 a1).wf = true) (w2 : a2.size ≤ maxLen) (w3 : (Lit.int .i32 a3).wf = true) (w4 : (Lit.int .i32 a4).wf = true) (w5 : (Lit.int .i32 a5).wf = true) (w : World) :
    Calls Try.prog 3 #[.int .i64 a0, .int .i64 a1, .string a2, .int .i32 a3, .int .i32 a4, .int .i32 a5] w fun e w' => e = .returned (.bool true) ∧ Grown w w' := by
  by_cases h2 : a2.size ≤ 1048576
  · cases hp : (a1 == 2)
    · exact walk_in a0 a1 a2 a3 a4 a5 h2 hp w
    · go_enter Try.func3, Try.ntmps3
      go_wp2_with (go_at_call 4; refine (bytes_yes _ _ _ _ _ _ _ h2).mono ?_; rintro e w' ⟨rfl, rfl⟩)
      go_ret
      exact ⟨rfl, Grown.refl _⟩
  · go_enter Try.func3, Try.ntmps3
    go_wp2_with (go_at_call 4; refine (bytes_no _ _ _ _ _ _ _ h2).mono ?_; rintro e w' ⟨rfl, rfl⟩)
    go_ret
    exact ⟨rfl, Grown.refl _⟩

/-! ### THE ROW's STEP: WRITTEN OUT: LEAVE IT -/
set_option maxRecDepth 100000 in
theorem lifted (os : Os) (started : os.Started) (H : Type) (enc : TypeId × Value → H) :
    ReturnsInHanded {} Try.checked os 3 .any (Rows.fnWorkedOutAdvanceMeetsArrearsSpec.pre6 enc Try.prog Try.f3 Rows.fnWorkedOutAdvanceMeetsArrearsRow.domain false) (Rows.fnWorkedOutAdvanceMeetsArrearsSpec.post enc Try.prog Try.f3 false true false false) := by
  refine returnsInHanded_of_change (C := Try.checked) own started (by kernel_rfl) Try.func3
    (ChangeSpec.witness6 (enc := enc) (C := Try.checked) false ⟨#[], #[.int .i64 0, .int .i64 0, .string ByteArray.empty, .int .i32 0, .int .i32 0, .int .i32 0], []⟩ 8 (by kernel_rfl) (by kernel_rfl) (by kernel_rfl) (by kernel_rfl)) ?_
  intro W base args ds gs before hval0 hW hcnd _
  have hval : ∀ (j : Nat) t v, Try.f3.params[j]? = some t → args[j]? = some v → Value.okWide Try.prog W .any base t v := hval0
  have hW' := hW
  obtain ⟨p, q, hA0, hV, rfl, hfz, hnd⟩ := hW
  have hA : DataW.TrodAll enc Try.prog W 0 (fun _ => true) true Try.f3.params.toList args.toList ds p := hA0
  rw [Try.params3] at hA hval
  obtain ⟨v0, vs0, d0, ds0, p0, q0, hargs, rfl, rfl, h0, r0⟩ := trodAll_cons hA
  obtain ⟨v1, vs1, d1, ds1, p1, q1, rfl, rfl, rfl, h1, r1⟩ := trodAll_cons r0
  obtain ⟨v2, vs2, d2, ds2, p2, q2, rfl, rfl, rfl, h2, r2⟩ := trodAll_cons r1
  obtain ⟨v3, vs3, d3, ds3, p3, q3, rfl, rfl, rfl, h3, r3⟩ := trodAll_cons r2
  obtain ⟨v4, vs4, d4, ds4, p4, q4, rfl, rfl, rfl, h4, r4⟩ := trodAll_cons r3
  obtain ⟨v5, vs5, d5, ds5, p5, q5, rfl, rfl, rfl, h5, r5⟩ := trodAll_cons r4
  obtain ⟨rfl, rfl, rfl⟩ := trodAll_nil r5
  obtain rfl : args = #[v0, v1, v2, v3, v4, v5] := by cases args; simp_all
  obtain ⟨rfl, rfl⟩ := trodVars_none hV
  obtain ⟨a0, rfl, rfl, rfl, w0⟩ := open_int Try.underlying3 (hval 0 3 v0 rfl rfl) h0
  obtain ⟨a1, rfl, rfl, rfl, w1⟩ := open_int Try.underlying3 (hval 1 3 v1 rfl rfl) h1
  obtain ⟨a2, rfl, rfl, rfl, w2⟩ := open_string Try.underlying9 (hval 2 9 v2 rfl rfl) h2
  obtain ⟨a3, rfl, rfl, rfl, w3⟩ := open_int Try.underlying21 (hval 3 21 v3 rfl rfl) h3
  obtain ⟨a4, rfl, rfl, rfl, w4⟩ := open_int Try.underlying21 (hval 4 21 v4 rfl rfl) h4
  obtain ⟨a5, rfl, rfl, rfl, w5⟩ := open_int Try.underlying21 (hval 5 21 v5 rfl rfl) h5
  clear hA0 hval0
  simp only [List.append_nil] at hW'
  refine (walk a0 a1 a2 a3 a4 a5 w0 w1 w2 w3 w4 w5 W).mono fun e W' ⟨he, hg⟩ => ?_
  subst he
  exact ⟨_, rfl, post_of_same (pa := []) (pv := []) hW' (fun _ _ _ => (trodAll_cons_mk (shut_bool Try.underlying4 _) trodAll_mk0)) (fun sp _ => (trodAll_cons_mk (shut_int Try.underlying3 w0) (trodAll_cons_mk (shut_int Try.underlying3 w1) (trodAll_cons_mk (shut_string Try.underlying9 w2) (trodAll_cons_mk (shut_int Try.underlying21 w3) (trodAll_cons_mk (shut_int Try.underlying21 w4) (trodAll_cons_mk (shut_int Try.underlying21 w5) trodAll_mk0))))))) (fun _ _ => rfl) rfl
    (hg.frame _) hg.2.1 (ok_one (by kernel_rfl) rfl (okWide_bool_mk Try.underlying4 _))⟩

theorem over : Rows.fnWorkedOutAdvanceMeetsArrearsRow.holds Try.pinned (OpenSpec.ofChange Rows.fnWorkedOutAdvanceMeetsArrearsSpec) :=
  OpenClaim.holds_of_wide 3 Try.f3 rfl rfl rfl rfl rfl rfl rfl ⟨rfl, rfl, rfl, rfl, rfl⟩ rfl rfl rfl rfl rfl (by kernel_rfl) Try.func3 (by kernel_rfl)
    (of_decide_eq_true (by kernel_rfl)) (by unfold Func.isWrapper; first | (rw [if_pos (by decide +kernel)]; kernel_rfl) | (rw [if_neg (by decide +kernel)]; exact ⟨rfl, rfl⟩))
    (fun os started H enc _ => lifted os started H enc)

/-- ████ THE STATEMENT ████ -/
theorem proved : Rows.FnWorkedOutAdvanceMeetsArrearsSaid :=
  over
end Go.Proofs.Qxb6615887a.fnWorkedOutAdvanceMeetsArrears
namespace Go.Proofs.Qxb6615887a
theorem fnWorkedOutAdvanceMeetsArrears_holds : Rows.FnWorkedOutAdvanceMeetsArrearsSaid := fnWorkedOutAdvanceMeetsArrears.proved
end Go.Proofs.Qxb6615887a
