/-
  THE WALKS of the two callees over the program 'ybulkiuu': 'notBase64Char' and 'zzs0475bin' each answer by the plain predicate 'inB'.
-/
import Derived.Test.YbulkiuuRows
import Derived.WalkKit
import Derived.ProofKit
import Derived.OpenShut
import Derived.ShutString
namespace Go.Proofs.Ybulkiuu.Walks
open Go.ChangeShapes Go.WideShapes Go.ChangeAt Go.RowKit

/-! ### THE PLAIN LAW: no Go in sight -/

/-- Base64's alphabet and its pad, as ranges. -/
def inB (r : Int) : Bool := decide ((65 ≤ r ∧ r ≤ 90) ∨ (97 ≤ r ∧ r ≤ 122) ∨ (48 ≤ r ∧ r ≤ 57) ∨ r = 43 ∨ r = 47 ∨ r = 61)

/-- The 65 characters as the law's own table has them. -/
def abc : ByteArray := ⟨#[65, 66, 67, 68, 69, 70, 71, 72, 73, 74, 75, 76, 77, 78, 79, 80, 81, 82, 83, 84, 85, 86, 87, 88, 89, 90, 97, 98, 99, 100, 101, 102, 103, 104, 105, 106, 107, 108, 109, 110, 111, 112, 113, 114, 115, 116, 117, 118, 119, 120, 121, 122, 48, 49, 50, 51, 52, 53, 54, 55, 56, 57, 43, 47, 61]⟩

/-- The j-th of them, as a rune. -/
def letter (j : Nat) : Int := wrap32 ((abc.data.toList.getD j 0).toNat : Int)

theorem letter_in : ∀ k : Fin 65, inB (letter k.1) = true := by decide +kernel
theorem letter_all : ∀ n : Fin 128, inB (n.1 : Int) = true → ∃ j : Fin 65, letter j.1 = (n.1 : Int) := by decide +kernel

theorem letter_none (r : Int) (h : ∀ j, j < 65 → letter j ≠ r) : inB r = false := by
  cases e : inB r with
  | false => rfl
  | true =>
    have hr : 0 ≤ r ∧ r < 128 := by
      unfold inB at e
      have e' := of_decide_eq_true e
      omega
    obtain ⟨n, rfl⟩ := Int.eq_ofNat_of_zero_le hr.1
    obtain ⟨j, hj⟩ := letter_all ⟨n, by omega⟩ e
    exact absurd hj (h j.1 j.2)

theorem abc_size : abc.size = 65 := by decide +kernel
theorem letter_get (k : Nat) (h : k < abc.size) : wrap32 ((abc[k].toNat : Nat) : Int) = letter k := by
  have e : abc[k] = abc.data.toList.getD k 0 := by
    have h' : k < abc.data.toList.length := by simpa using h
    have h2 : abc.data.toList.getD k 0 = abc.data.toList[k] := by rw [List.getD_eq_getElem?_getD, List.getElem?_eq_getElem h']; rfl
    rw [h2]
    rfl
  rw [e]; rfl

/-! ### THE WALKS -/

set_option maxHeartbeats 400000 in
theorem notB (r : Int) (w : World) :
    Calls Yba.prog 5 #[.int .i32 r] w fun e w' => e = .returned (.bool (!inB r)) ∧ w' = w := by
  go_enter Yba.func5, Yba.ntmps5
  go_wp2
  all_goals
    go_ret
    refine ⟨congrArg (fun b => Ending.returned (.bool b)) ?_, rfl⟩
    rw [Bool.eq_iff_iff]
    simp [inB]
    try omega

set_option maxHeartbeats 400000 in
theorem isB (r : Int) (w : World) :
    Calls Yba.prog 6 #[.int .i32 r] w fun e w' => e = .returned (.bool (inB r)) ∧ w' = w := by
  go_enter Yba.func6, Yba.ntmps6
  go_wp2
  go_loop [3] (fun i => ∃ k : Nat, k ≤ 65 ∧ i = .int .i64 k ∧ Hid (∀ j, j < k → letter j ≠ r)) (fun i => 65 - (intOf i).toNat)
  case atStart => exact ⟨0, Nat.zero_le _, rfl, fun j hj => absurd hj (Nat.not_lt_zero j)⟩
  case round =>
    obtain ⟨k, hk, rfl, hno⟩ := hrel
    by_cases hlt : k < 65
    · go_wp2
      · have he : (letter k == r) = true := by rw [← letter_get k (by rw [abc_size]; exact hlt)]; assumption
        have hr : inB r = true := by rw [← eq_of_beq he]; exact letter_in ⟨k, hlt⟩
        go_ret
        exact ⟨congrArg (fun b => Ending.returned (.bool b)) hr.symm, rfl⟩
      · have he : (letter k == r) = false := by rw [← letter_get k (by rw [abc_size]; exact hlt)]; assumption
        go_round
        case rel =>
          refine ⟨k + 1, by omega, by go_num, fun j hj => ?_⟩
          by_cases hjk : j < k
          · exact hno.out j hjk
          · have : j = k := by omega
            subst this
            exact ne_of_beq_false he
        case measure => simp [intOf]; omega
    · have hk' : k = 65 := by omega
      have hr : inB r = false := letter_none r (fun j hj => hno.out j (by omega))
      subst hk'
      go_wp2
      go_ret
      exact ⟨rfl, rfl⟩
end Go.Proofs.Ybulkiuu.Walks
