/-
  The walks of zzb1Append and zzb1Prepend.
-/
import Derived.Test.Qxb6615689aHeld
namespace Go.Proofs.Qxb6615689a.Join
open Go.RowKit Go.Proofs.Qxb6615689a.Held0
set_option linter.unusedVariables false

theorem ret_string {a b : ByteArray} (h : a = b) : Ending.returned (.string a) = .returned (.string b) := by rw [h]

set_option maxHeartbeats 400000 in
theorem append_any (s : ByteArray) (c : UInt8) (w : World) (hs : s.size ≤ 1048576) :
    Calls Try.prog 18 #[.string s, .int .u8 (c.toNat : Int)] w fun e w' => e = .returned (.string ⟨(s.data.toList ++ [c]).toArray⟩) ∧ Grown w w' := by
  obtain ⟨t, ht⟩ : ∃ t : ByteArray, Hid (t = ⟨(s.data.toList ++ [c]).toArray⟩) := ⟨_, rfl⟩
  have hmk := fun wx => run_make_room (P := Try.prog) 34 5 (.int .u8 0) 1 Try.underlying34 info5 rfl .i64 .i64 (s.size + 1) (by omega) (by omega) wx
  rw [show ((s.size + 1 : Nat) : Int) = (s.size : Int) + 1 from by omega] at hmk
  go_enter Try.func18, Try.ntmps18
  go_wp2_with (first
    | (at_builtin; refine (Held.made w (s.size + 1)).wp_append_string rfl (.tmp 10) (.tmp 11) rfl 0 s rfl rfl rfl (by omega) ?_; intro w1 h1)
    | (at_builtin; refine (h1.alloc _ _).wp_append_one rfl (.tmp 13) (.tmp 15) rfl s.size c w1.heap.size 1 (by simp) rfl rfl (by simp) (by omega) ?_; intro w2 h2; have htx := h2.text_at (s.size + 1) (s.size + 1) t (by simp) (by simpa using ht.out)))
  go_ret
  exact ⟨ret_string ht.out, h2.grown⟩

set_option maxHeartbeats 400000 in
theorem prepend_any (s : ByteArray) (c : UInt8) (w : World) (hs : s.size ≤ 1048576) :
    Calls Try.prog 13 #[.int .u8 (c.toNat : Int), .string s] w fun e w' => e = .returned (.string ⟨(c :: s.data.toList).toArray⟩) ∧ Grown w w' := by
  obtain ⟨t, ht⟩ : ∃ t : ByteArray, Hid (t = ⟨(c :: s.data.toList).toArray⟩) := ⟨_, rfl⟩
  have hmk := fun wx => run_make_room (P := Try.prog) 34 5 (.int .u8 0) 1 Try.underlying34 info5 rfl .i64 .i64 (s.size + 1) (by omega) (by omega) wx
  rw [show ((s.size + 1 : Nat) : Int) = (s.size : Int) + 1 from by omega] at hmk
  go_enter Try.func13, Try.ntmps13
  go_wp2_with (first
    | (at_builtin; refine ((Held.made w (s.size + 1)).alloc _ _).wp_append_one rfl (.tmp 10) (.tmp 12) rfl 0 c (w.heap.size + 1) 1 rfl rfl rfl (by simp) (by omega) ?_; intro w1 h1)
    | (at_builtin; refine h1.wp_append_string rfl (.tmp 14) (.tmp 15) rfl 1 s rfl rfl rfl (by omega) ?_; intro w2 h2; have htx := h2.text_at (1 + s.size) (s.size + 1) t (by simp; omega) (by simpa using ht.out)))
  go_ret
  exact ⟨ret_string ht.out, h2.grown⟩

end Go.Proofs.Qxb6615689a.Join
