/-
  THE WALKS of '(time.Time).Add' at the zero Time, of the law's own split and of 'orderOf', over the program 'ybulkizc'; the plain arithmetic of Go's quotient and remainder by 1000000000.
-/
import Derived.Test.YbulkizcWalks
import Derived.Deep.RegionHeld3
namespace Go.Proofs.Ybulkizc.Walks
open Go.ChangeShapes Go.WideShapes Go.ChangeAt Go.RowKit

theorem t_neg (n : Int) (h : n < 0) : n.tdiv 1000000000 = -((-n) / 1000000000) ∧ n.tmod 1000000000 = -((-n) % 1000000000) := by
  have e : n = -(-n) := by omega
  refine ⟨?_, ?_⟩
  · rw [show n.tdiv 1000000000 = (-(-n)).tdiv 1000000000 by rw [← e], Int.neg_tdiv, Int.tdiv_eq_ediv_of_nonneg (by omega)]
  · rw [show n.tmod 1000000000 = (-(-n)).tmod 1000000000 by rw [← e], Int.neg_tmod, Int.tmod_eq_emod_of_nonneg (by omega)]
theorem t_low (n : Int) (h : n.tmod 1000000000 < 0) : n.tdiv 1000000000 - 1 = n / 1000000000 ∧ n.tmod 1000000000 + 1000000000 = n % 1000000000 := by
  by_cases hn : 0 ≤ n
  · rw [Int.tmod_eq_emod_of_nonneg hn] at h
    omega
  · obtain ⟨e1, e2⟩ := t_neg n (by omega)
    rw [e2] at h
    rw [e1, e2]
    omega
theorem t_high (n : Int) (h : 0 ≤ n.tmod 1000000000) : n.tdiv 1000000000 = n / 1000000000 ∧ n.tmod 1000000000 = n % 1000000000 := by
  by_cases hn : 0 ≤ n
  · exact ⟨Int.tdiv_eq_ediv_of_nonneg hn, Int.tmod_eq_emod_of_nonneg hn⟩
  · obtain ⟨e1, e2⟩ := t_neg n (by omega)
    rw [e2] at h
    rw [e1, e2]
    omega

set_option maxHeartbeats 400000 in
theorem add_zero (n : Int) (w : World) (h1 : -9223372036854775808 ≤ n) (h2 : n ≤ 9223372036854775807) :
    Calls Yba.prog 7 #[.agg #[.int .u64 0, .int .i64 0, .pointer none], .int .i64 n] w fun e w' =>
      e = .returned (.agg #[.int .u64 (n % 1000000000), .int .i64 (n / 1000000000), .pointer none]) ∧ Below w.heap.size w w' := by
  by_cases hn : n.tmod 1000000000 < 0
  · obtain ⟨e1, e2⟩ := t_low n hn
    have b1 : -9223372037 ≤ n.tdiv 1000000000 := by omega
    have b2 : n.tdiv 1000000000 ≤ 9223372037 := by omega
    have b3 : -1000000000 ≤ n.tmod 1000000000 := by omega
    have E1 : Hid (n.tdiv 1000000000 - 1 = n / 1000000000) := e1
    have E2 : Hid (n.tmod 1000000000 + 1000000000 = n % 1000000000) := e2
    have b4 : 0 ≤ n.tmod 1000000000 + 1000000000 := by omega
    have b5 : n.tmod 1000000000 + 1000000000 < 1000000000 := by omega
    clear e1 e2 h1 h2
    have hA : bits .andNot .u64 0 1073741823 = 0 := by decide
    have hO := or_zero (n.tmod 1000000000 + 1000000000) b4 b5
    have hm := and_high (n.tmod 1000000000 + 1000000000) b4 b5
    go_enter Yba.func7, Yba.ntmps7
    go_wp2_with (first
      | (go_at_call 15; refine (nsec _ _ 0 _ ?_ (by omega) (by omega)).mono ?_; simp [go_sem]; rintro e w' ⟨rfl, rfl⟩)
      | (go_at_call 16; refine (addSec _ (n.tmod 1000000000 + 1000000000) (n.tdiv 1000000000 - 1) _ ?_ ?_ ?_ b4 b5 (by omega) (by omega)).mono ?_; simp [go_sem]; simp [go_sem]; simp [go_sem]; rintro e w' ⟨rfl, rfl⟩))
    rw [← E1.out, ← E2.out]
    refine bodyPost_ret (v := .agg #[.int .u64 (n.tmod 1000000000 + 1000000000), .int .i64 (n.tdiv 1000000000 - 1), .pointer none]) (by simp [results, Yba.results7, go_sem]) rfl ⟨rfl, ?_⟩
    exact ((Below.refl _ w).alloc (Nat.le_refl _) _).alloc (by simp) _
  · obtain ⟨e1, e2⟩ := t_high n (by omega)
    have b1 : -9223372037 ≤ n.tdiv 1000000000 := by omega
    have b2 : n.tdiv 1000000000 ≤ 9223372037 := by omega
    have E1 : Hid (n.tdiv 1000000000 = n / 1000000000) := e1
    have E2 : Hid (n.tmod 1000000000 = n % 1000000000) := e2
    have b4 : 0 ≤ n.tmod 1000000000 := by omega
    have b5 : n.tmod 1000000000 < 1000000000 := by omega
    clear e1 e2 h1 h2
    have hA : bits .andNot .u64 0 1073741823 = 0 := by decide
    have hO := or_zero (n.tmod 1000000000) b4 b5
    have hm := and_high (n.tmod 1000000000) b4 b5
    go_enter Yba.func7, Yba.ntmps7
    go_wp2_with (first
      | (go_at_call 15; refine (nsec _ _ 0 _ ?_ (by omega) (by omega)).mono ?_; simp [go_sem]; rintro e w' ⟨rfl, rfl⟩)
      | (go_at_call 16; refine (addSec _ (n.tmod 1000000000) (n.tdiv 1000000000) _ ?_ ?_ ?_ b4 b5 (by omega) (by omega)).mono ?_; simp [go_sem]; simp [go_sem]; simp [go_sem]; rintro e w' ⟨rfl, rfl⟩))
    rw [← E1.out, ← E2.out]
    refine bodyPost_ret (v := .agg #[.int .u64 (n.tmod 1000000000), .int .i64 (n.tdiv 1000000000), .pointer none]) (by simp [results, Yba.results7, go_sem]) rfl ⟨rfl, ?_⟩
    exact ((Below.refl _ w).alloc (Nat.le_refl _) _).alloc (by simp) _

theorem ret_two {k k' : IntKind} {a b a' b' : Int} (h : a = b) (h' : a' = b') : Ending.returned (.tuple #[.int k a, .int k' a']) = .returned (.tuple #[.int k b, .int k' b']) := by rw [h, h']

set_option maxHeartbeats 400000 in
/-- zzs0483asplit. -/
theorem split (n : Int) (w : World) (h1 : -9223372036854775808 ≤ n) (h2 : n ≤ 9223372036854775807) :
    Calls Yba.prog 9 #[.int .i64 n] w fun e w' => e = .returned (.tuple #[.int .i64 (n / 1000000000 + -62135596800), .int .i32 (n % 1000000000)]) ∧ w' = w := by
  by_cases hn : n.tmod 1000000000 < 0
  · obtain ⟨e1, e2⟩ := t_low n hn
    have b1 : -9223372037 ≤ n.tdiv 1000000000 := by omega
    have b2 : n.tdiv 1000000000 ≤ 9223372037 := by omega
    have b3 : -1000000000 ≤ n.tmod 1000000000 := by omega
    have E1 : Hid (n.tdiv 1000000000 - 1 = n / 1000000000) := e1
    have E2 : Hid (n.tmod 1000000000 + 1000000000 = n % 1000000000) := e2
    clear e1 e2 h1 h2
    go_enter Yba.func9, Yba.ntmps9
    go_wp2
    go_ret2
    exact ⟨ret_two (by rw [← E1.out]; omega) (by rw [← E2.out]), rfl⟩
  · obtain ⟨e1, e2⟩ := t_high n (by omega)
    have b1 : -9223372037 ≤ n.tdiv 1000000000 := by omega
    have b2 : n.tdiv 1000000000 ≤ 9223372037 := by omega
    have b4 : 0 ≤ n.tmod 1000000000 := by omega
    have b5 : n.tmod 1000000000 < 1000000000 := by omega
    have E1 : Hid (n.tdiv 1000000000 = n / 1000000000) := e1
    have E2 : Hid (n.tmod 1000000000 = n % 1000000000) := e2
    clear e1 e2 h1 h2
    go_enter Yba.func9, Yba.ntmps9
    go_wp2
    go_ret2
    exact ⟨ret_two (by rw [← E1.out]; omega) (by rw [← E2.out]), rfl⟩

set_option maxHeartbeats 400000 in
/-- orderOf, at an entry without a next activation. -/
theorem order_zero (b : Nat) (id : Int) (w : World) (hb : b < w.heap.size) (c0 : w.cell? ⟨b, 0, none⟩ = some (.int .i64 id)) (c2 : w.cell? ⟨b, 2, none⟩ = some (.int .u64 0)) (c3 : w.cell? ⟨b, 3, none⟩ = some (.int .i64 0)) (c4 : w.cell? ⟨b, 4, none⟩ = some (.pointer none)) :
    Calls Yba.prog 8 #[.pointer (some ⟨b, 0, none⟩)] w fun e w' => e = .returned (.agg #[.int .i64 9223372036854775807, .int .i32 1000000000, .int .i64 id]) ∧ Below w.heap.size w w' := by
  go_enter Yba.func8, Yba.ntmps8
  go_wp2_with (go_at_call 18; refine (isZero 0 0 none _).mono ?_; rintro e w' ⟨rfl, rfl⟩)
  refine bodyPost_ret (v := .agg #[.int .i64 9223372036854775807, .int .i32 1000000000, .int .i64 id]) (by simp [results, Yba.results8, go_sem]) rfl ⟨rfl, ?_⟩
  exact ((Below.refl _ w).alloc (Nat.le_refl _) _).alloc (by simp) _

set_option maxHeartbeats 400000 in
/-- orderOf, at an entry with one. -/
theorem order_set (b : Nat) (id r s : Int) (w : World) (hb : b < w.heap.size) (c0 : w.cell? ⟨b, 0, none⟩ = some (.int .i64 id)) (c2 : w.cell? ⟨b, 2, none⟩ = some (.int .u64 r)) (c3 : w.cell? ⟨b, 3, none⟩ = some (.int .i64 s)) (c4 : w.cell? ⟨b, 4, none⟩ = some (.pointer none))
    (h0 : 0 ≤ r) (h1 : r < 1000000000) (h2 : -9223372038 ≤ s) (h3 : s ≤ 9223372038) (hz : (r == 0 && s == 0) = false) :
    Calls Yba.prog 8 #[.pointer (some ⟨b, 0, none⟩)] w fun e w' => e = .returned (.agg #[.int .i64 (s + -62135596800), .int .i32 r, .int .i64 id]) ∧ Below w.heap.size w w' := by
  go_enter Yba.func8, Yba.ntmps8
  go_wp2_with (go_at_call 18; refine (isZero r s none _).mono ?_; rintro e w' ⟨rfl, rfl⟩)
  have hb1 : b < w.heap.size + 1 := by omega
  have hb2 : b < w.heap.size + 1 + 1 := by omega
  have hb3 : b < w.heap.size + 1 + 1 + 1 := by omega
  have hne : ¬ w.heap.size = b := by omega
  have hne' : ¬ b = w.heap.size := by omega
  go_region_held3 (fun w' => w'.cell? ⟨b, 0, none⟩ = some (.int .i64 id) ∧ w'.cell? ⟨b, 2, none⟩ = some (.int .u64 r) ∧ w'.cell? ⟨b, 3, none⟩ = some (.int .i64 s) ∧ w'.cell? ⟨b, 4, none⟩ = some (.pointer none)) (simp [*, go_sem])
    (first
      | (go_at_call 19; refine (unix r s none _ h0 h1 h2 h3).mono ?_; rintro e w' ⟨rfl, rfl⟩)
      | (go_at_call 20; refine (nanosecond r s none _ h0 h1).mono ?_; rintro e w' ⟨rfl, rfl⟩))
  go_wp2
  have hw : IntKind.i32.wrap r = r := wraps_i32 r h0 (by omega)
  refine bodyPost_ret (v := .agg #[.int .i64 (s + -62135596800), .int .i32 r, .int .i64 id]) (by simp [results, Yba.results8, go_sem, hw]) rfl ⟨rfl, ?_⟩
  exact (((((Below.refl _ w).alloc (Nat.le_refl _) _).alloc (by simp) _).alloc (by simp; omega) _).alloc (by simp; omega) _).drew

/-! ### THE PLAIN LAWS: no Go in sight -/
/-- The seconds and the nanoseconds of 'n' nanoseconds are both zero just where n is. -/
theorem zero_iff (n : Int) (h : n ≠ 0) : (n % 1000000000 == 0 && n / 1000000000 == 0) = false := by
  rw [Bool.and_eq_false_iff]
  by_cases e : n % 1000000000 = 0
  · right
    rw [beq_eq_false_iff_ne]
    omega
  · left
    rw [beq_eq_false_iff_ne]
    exact e
end Go.Proofs.Ybulkizc.Walks
