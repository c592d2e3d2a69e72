/-
  THE WALKS of the functions below the two laws over the program 'ybulkizc': package time's methods on the instants that the laws make, 'orderOf', the law's own split; each by a contract.
-/
import Derived.Test.YbulkizcRows
import Derived.WalkKit
import Derived.WalkSpells
import Derived.ProofKit
import Derived.OpenShut
import Derived.Laws.BitsAllLaws
namespace Go.Proofs.Ybulkizc.Walks
open Go.ChangeShapes Go.WideShapes Go.ChangeAt Go.RowKit

theorem and_mask (r : Int) (h0 : 0 ≤ r) (h1 : r < 1000000000) : bits .and .u64 r 1073741823 = r := by
  rw [u64_and r 1073741823 h0 (by omega) (by omega) (by omega)]
  have e : (1073741823 : Int).toNat = 2 ^ 30 - 1 := by decide
  rw [e, Nat.and_two_pow_sub_one_eq_mod]
  omega
theorem and_high (r : Int) (h0 : 0 ≤ r) (h1 : r < 1000000000) : (bits .and .u64 r 9223372036854775808 != 0) = false := by
  rw [u64_and r 9223372036854775808 h0 (by omega) (by omega) (by omega)]
  have e : (9223372036854775808 : Int).toNat = 2 ^ 63 := by decide
  have z : r.toNat &&& 2 ^ 63 = 0 := by
    refine Nat.eq_of_testBit_eq fun i => ?_
    rw [Nat.testBit_and, Nat.testBit_two_pow, Nat.zero_testBit]
    by_cases hi : 63 = i
    · subst hi
      rw [Nat.testBit_lt_two_pow (by omega)]
      rfl
    · simp [hi]
  rw [e, z]
  rfl
theorem or_zero (r : Int) (h0 : 0 ≤ r) (h1 : r < 1000000000) : bits .or .u64 0 r = r := by
  rw [u64_or 0 r (by omega) (by omega) h0 (by omega)]
  simp
  omega

theorem ret_int {k : IntKind} {a b : Int} (h : a = b) : Ending.returned (.int k a) = .returned (.int k b) := by rw [h]

set_option maxHeartbeats 400000 in
theorem nsec (b o : Nat) (r : Int) (w : World) (hc : w.cell? ⟨b, o, none⟩ = some (.int .u64 r)) (h0 : 0 ≤ r) (h1 : r < 1000000000) :
    Calls Yba.prog 15 #[.pointer (some ⟨b, o, none⟩)] w fun e w' => e = .returned (.int .i32 r) ∧ w' = w := by
  go_enter Yba.func15, Yba.ntmps15
  go_wp2
  go_ret
  exact ⟨ret_int (by rw [and_mask r h0 h1]; unfold wrap32; omega), rfl⟩
set_option maxHeartbeats 400000 in
theorem sec (b o : Nat) (r s : Int) (w : World) (hc : w.cell? ⟨b, o, none⟩ = some (.int .u64 r)) (hc1 : w.cell? ⟨b, o + 1, none⟩ = some (.int .i64 s)) (h0 : 0 ≤ r) (h1 : r < 1000000000) :
    Calls Yba.prog 24 #[.pointer (some ⟨b, o, none⟩)] w fun e w' => e = .returned (.int .i64 s) ∧ w' = w := by
  have hm := and_high r h0 h1
  go_enter Yba.func24, Yba.ntmps24
  go_wp2
  go_ret
  exact ⟨rfl, rfl⟩
set_option maxHeartbeats 400000 in
theorem unixSec (b o : Nat) (r s : Int) (w : World) (hc : w.cell? ⟨b, o, none⟩ = some (.int .u64 r)) (hc1 : w.cell? ⟨b, o + 1, none⟩ = some (.int .i64 s)) (h0 : 0 ≤ r) (h1 : r < 1000000000)
    (h2 : -9223372038 ≤ s) (h3 : s ≤ 9223372038) :
    Calls Yba.prog 25 #[.pointer (some ⟨b, o, none⟩)] w fun e w' => e = .returned (.int .i64 (s + -62135596800)) ∧ w' = w := by
  go_enter Yba.func25, Yba.ntmps25
  go_wp2_with (go_at_call 24; refine (sec b o r s _ hc hc1 h0 h1).mono ?_; rintro e w' ⟨rfl, rfl⟩)
  go_ret
  exact ⟨rfl, rfl⟩
set_option maxHeartbeats 400000 in
theorem isZero (r s : Int) (p : Option Addr) (w : World) :
    Calls Yba.prog 18 #[.agg #[.int .u64 r, .int .i64 s, .pointer p]] w fun e w' => e = .returned (.bool (r == 0 && s == 0)) ∧ w' = w.alloc (.cells #[.int .u64 r, .int .i64 s, .pointer p] 27) := by
  go_enter Yba.func18, Yba.ntmps18
  go_wp2
  · have h : r = 0 := by assumption
    go_ret
    subst h
    exact ⟨rfl, rfl⟩
  · have h : ¬ r = 0 := by assumption
    go_ret
    exact ⟨congrArg (fun b => Ending.returned (.bool b)) (by simp [h]), rfl⟩
set_option maxHeartbeats 400000 in
theorem unix (r s : Int) (p : Option Addr) (w : World) (h0 : 0 ≤ r) (h1 : r < 1000000000) (h2 : -9223372038 ≤ s) (h3 : s ≤ 9223372038) :
    Calls Yba.prog 19 #[.agg #[.int .u64 r, .int .i64 s, .pointer p]] w fun e w' => e = .returned (.int .i64 (s + -62135596800)) ∧ w' = w.alloc (.cells #[.int .u64 r, .int .i64 s, .pointer p] 27) := by
  go_enter Yba.func19, Yba.ntmps19
  go_wp2_with (go_at_call 25; refine (unixSec _ _ r s _ ?_ ?_ h0 h1 h2 h3).mono ?_; simp [go_sem]; simp [go_sem]; rintro e w' ⟨rfl, rfl⟩)
  go_ret
  exact ⟨rfl, rfl⟩
set_option maxHeartbeats 400000 in
theorem nanosecond (r s : Int) (p : Option Addr) (w : World) (h0 : 0 ≤ r) (h1 : r < 1000000000) :
    Calls Yba.prog 20 #[.agg #[.int .u64 r, .int .i64 s, .pointer p]] w fun e w' => e = .returned (.int .i64 r) ∧ w' = w.alloc (.cells #[.int .u64 r, .int .i64 s, .pointer p] 27) := by
  go_enter Yba.func20, Yba.ntmps20
  go_wp2_with (go_at_call 15; refine (nsec _ _ r _ ?_ h0 h1).mono ?_; simp [go_sem]; rintro e w' ⟨rfl, rfl⟩)
  go_ret
  exact ⟨rfl, rfl⟩

set_option maxHeartbeats 400000 in
theorem addSec (b : Nat) (r d : Int) (w : World) (hc : w.cell? ⟨b, 0, none⟩ = some (.int .u64 r)) (hc1 : w.cell? ⟨b, 1, none⟩ = some (.int .i64 0)) (hf : w.frozen? ⟨b, 1, none⟩ = false) (h0 : 0 ≤ r) (h1 : r < 1000000000)
    (h2 : -9223372038 ≤ d) (h3 : d ≤ 9223372038) :
    Calls Yba.prog 16 #[.pointer (some ⟨b, 0, none⟩), .int .i64 d] w fun e w' => e = .returned (.tuple #[]) ∧ w' = w.setCell ⟨b, 1, none⟩ (.int .i64 d) := by
  have hm := and_high r h0 h1
  by_cases hd : 0 < d
  · go_enter Yba.func16, Yba.ntmps16
    go_wp2
    go_end0
    exact ⟨rfl, rfl⟩
  · go_enter Yba.func16, Yba.ntmps16
    go_wp2
    go_end0
    exact ⟨rfl, rfl⟩
end Go.Proofs.Ybulkizc.Walks
