/-
  THE WALK of 'LawS0483AExact' over the program 'ybulkizc': at n = 0 and at every other n.
-/
import Derived.Test.YbulkizcOrder
namespace Go.Proofs.Ybulkizc.Walks
open Go.ChangeShapes Go.WideShapes Go.ChangeAt Go.RowKit

theorem add_none (w : World) :
    Calls Yba.prog 7 #[.agg #[.int .u64 0, .int .i64 0, .pointer none], .int .i64 0] w fun e w' =>
      e = .returned (.agg #[.int .u64 0, .int .i64 0, .pointer none]) ∧ Below w.heap.size w w' := by
  simpa using add_zero 0 w (by omega) (by omega)
theorem add_some (n : Int) (w : World) (h1 : -9223372036854775808 ≤ n) (h2 : n ≤ 9223372036854775807) (hn : n ≠ 0) :
    Calls Yba.prog 7 #[.agg #[.int .u64 0, .int .i64 0, .pointer none], .int .i64 n] w fun e w' =>
      ∃ r s : Int, (e = .returned (.agg #[.int .u64 r, .int .i64 s, .pointer none]) ∧ Below w.heap.size w w') ∧ Hid (r = n % 1000000000 ∧ s = n / 1000000000) ∧ 0 ≤ r ∧ r < 1000000000 ∧ -9223372038 ≤ s ∧ s ≤ 9223372038 ∧ (r == 0 && s == 0) = false :=
  (add_zero n w h1 h2).mono fun e w' h => ⟨_, _, h, ⟨rfl, rfl⟩, by omega, by omega, by omega, by omega, zero_iff n hn⟩

set_option maxHeartbeats 400000 in
theorem exact_zero (id : Int) (w : World) :
    Calls Yba.prog 3 #[.int .i64 0, .int .i64 id] w fun e w' => e = .returned (.bool true) ∧ Below w.heap.size w w' := by
  go_enter Yba.func3, Yba.ntmps3
  go_wp2_with fail
  refine (add_none _).mono ?_
  rintro e w1 ⟨rfl, hb⟩
  have HB : Hid (Below w.heap.size w w1) := hb
  clear hb
  go_wp2_with fail
  refine (order_zero _ id _ ?_ ?_ ?_ ?_ ?_).mono ?_
  · simp
  · simp [go_sem]
  · simp [go_sem]
  · simp [go_sem]
  · simp [go_sem]
  rintro e w2 ⟨rfl, hb⟩
  have HB2 : Hid (Below w.heap.size w w2) := (HB.out.alloc HB.out.size _).trans (hb.mono (by have := HB.out.size; simp; omega))
  clear hb
  go_wp2
  go_ret
  exact ⟨rfl, HB2.out.alloc HB2.out.size _⟩

set_option maxHeartbeats 400000 in
theorem exact_set (n id : Int) (w : World) (h1 : -9223372036854775808 ≤ n) (h2 : n ≤ 9223372036854775807) (hn : n ≠ 0) :
    Calls Yba.prog 3 #[.int .i64 n, .int .i64 id] w fun e w' => e = .returned (.bool true) ∧ Below w.heap.size w w' := by
  have hn' : (n == 0) = false := by simp [hn]
  go_enter Yba.func3, Yba.ntmps3
  go_wp2_with fail
  refine (add_some n _ h1 h2 hn).mono ?_
  rintro e w1 ⟨r, s, ⟨rfl, hb⟩, E, q1, q2, q3, q4, q5⟩
  have HB : Hid (Below w.heap.size w w1) := hb
  have HS : Hid (∀ w : World, Calls Yba.prog 9 #[.int .i64 n] w fun e w' => e = .returned (.tuple #[.int .i64 (s + -62135596800), .int .i32 r]) ∧ w' = w) := fun w => by
    rw [E.out.1, E.out.2]; exact split n w h1 h2
  clear hb E hn h1 h2
  go_wp2_with fail
  refine (order_set _ id r s _ ?_ ?_ ?_ ?_ ?_ q1 q2 q3 q4 q5).mono ?_
  · simp
  · simp [go_sem]
  · simp [go_sem]
  · simp [go_sem]
  · simp [go_sem]
  rintro e w2 ⟨rfl, hb⟩
  have HB2 : Hid (Below w.heap.size w w2) := (HB.out.alloc HB.out.size _).trans (hb.mono (by have := HB.out.size; simp; omega))
  clear hb
  go_wp2_with (go_at_call 9; refine (HS.out _).mono ?_; rintro e w' ⟨rfl, rfl⟩)
  go_ret
  exact ⟨rfl, HB2.out.alloc HB2.out.size _⟩
end Go.Proofs.Ybulkizc.Walks
