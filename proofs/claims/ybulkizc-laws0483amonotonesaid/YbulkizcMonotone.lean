/-
  THE WALKS of 'LawS0483AMonotone' over the program 'ybulkizc': one for each way through its tests.
-/
import Derived.Test.YbulkizcOrder
namespace Go.Proofs.Ybulkizc.Walks
open Go.ChangeShapes Go.WideShapes Go.ChangeAt Go.RowKit

theorem hid {p : Prop} (h : p) : Hid p := h

/-- The cells of an entry that orderOf reads. -/
def Entry (b : Nat) (id r s : Int) (w : World) : Prop :=
  b < w.heap.size ∧ w.cell? ⟨b, 0, none⟩ = some (.int .i64 id) ∧ w.cell? ⟨b, 2, none⟩ = some (.int .u64 r) ∧ w.cell? ⟨b, 3, none⟩ = some (.int .i64 s) ∧ w.cell? ⟨b, 4, none⟩ = some (.pointer none)

/-- An entry whose Next is the zero Time plus n has the order (S, R), with its own id. -/
def Leads (n S R : Int) : Prop := ∃ r s : Int,
  (∀ w : World, Calls Yba.prog 7 #[.agg #[.int .u64 0, .int .i64 0, .pointer none], .int .i64 n] w fun e w' => e = .returned (.agg #[.int .u64 r, .int .i64 s, .pointer none]) ∧ Below w.heap.size w w') ∧
  (∀ (b : Nat) (id : Int) (w : World), Entry b id r s w → Calls Yba.prog 8 #[.pointer (some ⟨b, 0, none⟩)] w fun e w' => e = .returned (.agg #[.int .i64 S, .int .i32 R, .int .i64 id]) ∧ Below w.heap.size w w')

theorem leads_zero : Leads 0 9223372036854775807 1000000000 :=
  ⟨0, 0, fun w => by simpa using add_zero 0 w (by omega) (by omega), fun b id w h => order_zero b id w h.1 h.2.1 h.2.2.1 h.2.2.2.1 h.2.2.2.2⟩
theorem leads_set (n : Int) (h1 : -9223372036854775808 ≤ n) (h2 : n ≤ 9223372036854775807) (hn : n ≠ 0) : Leads n (n / 1000000000 + -62135596800) (n % 1000000000) :=
  ⟨n % 1000000000, n / 1000000000, fun w => add_zero n w h1 h2, fun b id w h => order_set b id _ _ w h.1 h.2.1 h.2.2.1 h.2.2.2.1 h.2.2.2.2 (by omega) (by omega) (by omega) (by omega) (zero_iff n hn)⟩

set_option maxHeartbeats 1000000 in
theorem mono_both_zero (a b ida idb S R : Int) (w : World) (L1 : Hid (Leads a S R)) (L2 : Hid (Leads b S R))
    (ha : (a == 0) = true) (hb : (b == 0) = true) :
    Calls Yba.prog 4 #[.int .i64 a, .int .i64 b, .int .i64 ida, .int .i64 idb] w fun e w' => e = .returned (.bool true) ∧ Below w.heap.size w w' := by
  go_enter Yba.func4, Yba.ntmps4
  go_wp2_with fail
  obtain ⟨r1, s1, hA, hO⟩ := L1.out
  have HO1 := hid hO
  clear hO
  refine (hA _).mono ?_
  clear hA
  rintro e w1 ⟨rfl, hb⟩
  have HB1 := hid hb
  clear hb
  go_wp2_with fail
  obtain ⟨r2, s2, hA, hO⟩ := L2.out
  have HO2 := hid hO
  clear hO
  refine (hA _).mono ?_
  clear hA
  rintro e w2 ⟨rfl, hb⟩
  have HB2 := hid ((HB1.out.alloc HB1.out.size _).trans (hb.mono (by have := HB1.out.size; simp; omega)))
  have z2 : w1.heap.size < w2.heap.size := by have := hb.size; simp at this; omega
  have k0 : w2.cell? ⟨w1.heap.size, 0, none⟩ = some (.int .i64 ida) := by rw [hb.cell (by simp)]; simp [go_sem]
  have k2 : w2.cell? ⟨w1.heap.size, 2, none⟩ = some (.int .u64 r1) := by rw [hb.cell (by simp)]; simp [go_sem]
  have k3 : w2.cell? ⟨w1.heap.size, 3, none⟩ = some (.int .i64 s1) := by rw [hb.cell (by simp)]; simp [go_sem]
  have k4 : w2.cell? ⟨w1.heap.size, 4, none⟩ = some (.pointer none) := by rw [hb.cell (by simp)]; simp [go_sem]
  clear hb
  go_wp2_with fail
  refine (HO1.out _ ida _ ?_).mono ?_
  · exact ⟨by simp; omega, by rw [World.cell?_alloc_past _ _ _ z2]; exact k0, by rw [World.cell?_alloc_past _ _ _ z2]; exact k2, by rw [World.cell?_alloc_past _ _ _ z2]; exact k3, by rw [World.cell?_alloc_past _ _ _ z2]; exact k4⟩
  clear k0 k2 k3 k4 HO1
  rintro e w3 ⟨rfl, hb⟩
  have HB3 := hid ((HB2.out.alloc HB2.out.size _).trans (hb.mono (by have := HB2.out.size; simp; omega)))
  have z3 : w2.heap.size < w3.heap.size := by have := hb.size; simp at this; omega
  have k0 : w3.cell? ⟨w2.heap.size, 0, none⟩ = some (.int .i64 idb) := by rw [hb.cell (by simp)]; simp [go_sem]
  have k2 : w3.cell? ⟨w2.heap.size, 2, none⟩ = some (.int .u64 r2) := by rw [hb.cell (by simp)]; simp [go_sem]
  have k3 : w3.cell? ⟨w2.heap.size, 3, none⟩ = some (.int .i64 s2) := by rw [hb.cell (by simp)]; simp [go_sem]
  have k4 : w3.cell? ⟨w2.heap.size, 4, none⟩ = some (.pointer none) := by rw [hb.cell (by simp)]; simp [go_sem]
  clear hb
  go_wp2_with fail
  refine (HO2.out _ idb _ ?_).mono ?_
  · exact ⟨by simp; omega, by rw [World.cell?_alloc_past _ _ _ z3]; exact k0, by rw [World.cell?_alloc_past _ _ _ z3]; exact k2, by rw [World.cell?_alloc_past _ _ _ z3]; exact k3, by rw [World.cell?_alloc_past _ _ _ z3]; exact k4⟩
  clear k0 k2 k3 k4 HO2 z2
  rintro e w4 ⟨rfl, hb⟩
  have HB4 := hid ((HB3.out.alloc HB3.out.size _).trans (hb.mono (by have := HB3.out.size; simp; omega)))
  have z4 : w3.heap.size < w4.heap.size := by have := hb.size; simp at this; omega
  have k0 : w4.cell? ⟨w3.heap.size, 0, none⟩ = some (.int .i64 S) := by rw [hb.cell (by simp)]; simp [go_sem]
  have k1 : w4.cell? ⟨w3.heap.size, 1, none⟩ = some (.int .i32 R) := by rw [hb.cell (by simp)]; simp [go_sem]
  clear hb HB1 HB2 HB3 L1 L2
  go_wp2
  go_ret
  exact ⟨rfl, HB4.out.alloc HB4.out.size _⟩

set_option maxHeartbeats 1000000 in
theorem mono_left_zero (a b ida idb S R S2 R2 : Int) (w : World) (L1 : Hid (Leads a S R)) (L2 : Hid (Leads b S2 R2))
    (ha : (a == 0) = true) (hb : (b == 0) = false) (d1 : decide (S < S2) = false) (e1 : (S == S2) = false) :
    Calls Yba.prog 4 #[.int .i64 a, .int .i64 b, .int .i64 ida, .int .i64 idb] w fun e w' => e = .returned (.bool true) ∧ Below w.heap.size w w' := by
  go_enter Yba.func4, Yba.ntmps4
  go_wp2_with fail
  obtain ⟨r1, s1, hA, hO⟩ := L1.out
  have HO1 := hid hO
  clear hO
  refine (hA _).mono ?_
  clear hA
  rintro e w1 ⟨rfl, hb⟩
  have HB1 := hid hb
  clear hb
  go_wp2_with fail
  obtain ⟨r2, s2, hA, hO⟩ := L2.out
  have HO2 := hid hO
  clear hO
  refine (hA _).mono ?_
  clear hA
  rintro e w2 ⟨rfl, hb⟩
  have HB2 := hid ((HB1.out.alloc HB1.out.size _).trans (hb.mono (by have := HB1.out.size; simp; omega)))
  have z2 : w1.heap.size < w2.heap.size := by have := hb.size; simp at this; omega
  have k0 : w2.cell? ⟨w1.heap.size, 0, none⟩ = some (.int .i64 ida) := by rw [hb.cell (by simp)]; simp [go_sem]
  have k2 : w2.cell? ⟨w1.heap.size, 2, none⟩ = some (.int .u64 r1) := by rw [hb.cell (by simp)]; simp [go_sem]
  have k3 : w2.cell? ⟨w1.heap.size, 3, none⟩ = some (.int .i64 s1) := by rw [hb.cell (by simp)]; simp [go_sem]
  have k4 : w2.cell? ⟨w1.heap.size, 4, none⟩ = some (.pointer none) := by rw [hb.cell (by simp)]; simp [go_sem]
  clear hb
  go_wp2_with fail
  refine (HO1.out _ ida _ ?_).mono ?_
  · exact ⟨by simp; omega, by rw [World.cell?_alloc_past _ _ _ z2]; exact k0, by rw [World.cell?_alloc_past _ _ _ z2]; exact k2, by rw [World.cell?_alloc_past _ _ _ z2]; exact k3, by rw [World.cell?_alloc_past _ _ _ z2]; exact k4⟩
  clear k0 k2 k3 k4 HO1
  rintro e w3 ⟨rfl, hb⟩
  have HB3 := hid ((HB2.out.alloc HB2.out.size _).trans (hb.mono (by have := HB2.out.size; simp; omega)))
  have z3 : w2.heap.size < w3.heap.size := by have := hb.size; simp at this; omega
  have k0 : w3.cell? ⟨w2.heap.size, 0, none⟩ = some (.int .i64 idb) := by rw [hb.cell (by simp)]; simp [go_sem]
  have k2 : w3.cell? ⟨w2.heap.size, 2, none⟩ = some (.int .u64 r2) := by rw [hb.cell (by simp)]; simp [go_sem]
  have k3 : w3.cell? ⟨w2.heap.size, 3, none⟩ = some (.int .i64 s2) := by rw [hb.cell (by simp)]; simp [go_sem]
  have k4 : w3.cell? ⟨w2.heap.size, 4, none⟩ = some (.pointer none) := by rw [hb.cell (by simp)]; simp [go_sem]
  clear hb
  go_wp2_with fail
  refine (HO2.out _ idb _ ?_).mono ?_
  · exact ⟨by simp; omega, by rw [World.cell?_alloc_past _ _ _ z3]; exact k0, by rw [World.cell?_alloc_past _ _ _ z3]; exact k2, by rw [World.cell?_alloc_past _ _ _ z3]; exact k3, by rw [World.cell?_alloc_past _ _ _ z3]; exact k4⟩
  clear k0 k2 k3 k4 HO2 z2
  rintro e w4 ⟨rfl, hb⟩
  have HB4 := hid ((HB3.out.alloc HB3.out.size _).trans (hb.mono (by have := HB3.out.size; simp; omega)))
  have z4 : w3.heap.size < w4.heap.size := by have := hb.size; simp at this; omega
  have k0 : w4.cell? ⟨w3.heap.size, 0, none⟩ = some (.int .i64 S) := by rw [hb.cell (by simp)]; simp [go_sem]
  have k1 : w4.cell? ⟨w3.heap.size, 1, none⟩ = some (.int .i32 R) := by rw [hb.cell (by simp)]; simp [go_sem]
  clear hb HB1 HB2 HB3 L1 L2
  go_wp2
  go_ret
  exact ⟨rfl, HB4.out.alloc HB4.out.size _⟩

set_option maxHeartbeats 1000000 in
theorem mono_right_zero (a b ida idb S R S2 R2 : Int) (w : World) (L1 : Hid (Leads a S R)) (L2 : Hid (Leads b S2 R2))
    (ha : (a == 0) = false) (hb : (b == 0) = true) (hS : S < S2) (e1 : (S == S2) = false) :
    Calls Yba.prog 4 #[.int .i64 a, .int .i64 b, .int .i64 ida, .int .i64 idb] w fun e w' => e = .returned (.bool true) ∧ Below w.heap.size w w' := by
  go_enter Yba.func4, Yba.ntmps4
  go_wp2_with fail
  obtain ⟨r1, s1, hA, hO⟩ := L1.out
  have HO1 := hid hO
  clear hO
  refine (hA _).mono ?_
  clear hA
  rintro e w1 ⟨rfl, hb⟩
  have HB1 := hid hb
  clear hb
  go_wp2_with fail
  obtain ⟨r2, s2, hA, hO⟩ := L2.out
  have HO2 := hid hO
  clear hO
  refine (hA _).mono ?_
  clear hA
  rintro e w2 ⟨rfl, hb⟩
  have HB2 := hid ((HB1.out.alloc HB1.out.size _).trans (hb.mono (by have := HB1.out.size; simp; omega)))
  have z2 : w1.heap.size < w2.heap.size := by have := hb.size; simp at this; omega
  have k0 : w2.cell? ⟨w1.heap.size, 0, none⟩ = some (.int .i64 ida) := by rw [hb.cell (by simp)]; simp [go_sem]
  have k2 : w2.cell? ⟨w1.heap.size, 2, none⟩ = some (.int .u64 r1) := by rw [hb.cell (by simp)]; simp [go_sem]
  have k3 : w2.cell? ⟨w1.heap.size, 3, none⟩ = some (.int .i64 s1) := by rw [hb.cell (by simp)]; simp [go_sem]
  have k4 : w2.cell? ⟨w1.heap.size, 4, none⟩ = some (.pointer none) := by rw [hb.cell (by simp)]; simp [go_sem]
  clear hb
  go_wp2_with fail
  refine (HO1.out _ ida _ ?_).mono ?_
  · exact ⟨by simp; omega, by rw [World.cell?_alloc_past _ _ _ z2]; exact k0, by rw [World.cell?_alloc_past _ _ _ z2]; exact k2, by rw [World.cell?_alloc_past _ _ _ z2]; exact k3, by rw [World.cell?_alloc_past _ _ _ z2]; exact k4⟩
  clear k0 k2 k3 k4 HO1
  rintro e w3 ⟨rfl, hb⟩
  have HB3 := hid ((HB2.out.alloc HB2.out.size _).trans (hb.mono (by have := HB2.out.size; simp; omega)))
  have z3 : w2.heap.size < w3.heap.size := by have := hb.size; simp at this; omega
  have k0 : w3.cell? ⟨w2.heap.size, 0, none⟩ = some (.int .i64 idb) := by rw [hb.cell (by simp)]; simp [go_sem]
  have k2 : w3.cell? ⟨w2.heap.size, 2, none⟩ = some (.int .u64 r2) := by rw [hb.cell (by simp)]; simp [go_sem]
  have k3 : w3.cell? ⟨w2.heap.size, 3, none⟩ = some (.int .i64 s2) := by rw [hb.cell (by simp)]; simp [go_sem]
  have k4 : w3.cell? ⟨w2.heap.size, 4, none⟩ = some (.pointer none) := by rw [hb.cell (by simp)]; simp [go_sem]
  clear hb
  go_wp2_with fail
  refine (HO2.out _ idb _ ?_).mono ?_
  · exact ⟨by simp; omega, by rw [World.cell?_alloc_past _ _ _ z3]; exact k0, by rw [World.cell?_alloc_past _ _ _ z3]; exact k2, by rw [World.cell?_alloc_past _ _ _ z3]; exact k3, by rw [World.cell?_alloc_past _ _ _ z3]; exact k4⟩
  clear k0 k2 k3 k4 HO2 z2
  rintro e w4 ⟨rfl, hb⟩
  have HB4 := hid ((HB3.out.alloc HB3.out.size _).trans (hb.mono (by have := HB3.out.size; simp; omega)))
  have z4 : w3.heap.size < w4.heap.size := by have := hb.size; simp at this; omega
  have k0 : w4.cell? ⟨w3.heap.size, 0, none⟩ = some (.int .i64 S) := by rw [hb.cell (by simp)]; simp [go_sem]
  have k1 : w4.cell? ⟨w3.heap.size, 1, none⟩ = some (.int .i32 R) := by rw [hb.cell (by simp)]; simp [go_sem]
  clear hb HB1 HB2 HB3 L1 L2
  go_wp2
  go_ret
  exact ⟨rfl, HB4.out.alloc HB4.out.size _⟩

set_option maxHeartbeats 1000000 in
theorem mono_sec_less (a b ida idb S R S2 R2 : Int) (w : World) (L1 : Hid (Leads a S R)) (L2 : Hid (Leads b S2 R2))
    (ha : (a == 0) = false) (hb : (b == 0) = false) (hS : S < S2) (e1 : (S == S2) = false) (hab : a < b) (eab : (a == b) = false) :
    Calls Yba.prog 4 #[.int .i64 a, .int .i64 b, .int .i64 ida, .int .i64 idb] w fun e w' => e = .returned (.bool true) ∧ Below w.heap.size w w' := by
  go_enter Yba.func4, Yba.ntmps4
  go_wp2_with fail
  obtain ⟨r1, s1, hA, hO⟩ := L1.out
  have HO1 := hid hO
  clear hO
  refine (hA _).mono ?_
  clear hA
  rintro e w1 ⟨rfl, hb⟩
  have HB1 := hid hb
  clear hb
  go_wp2_with fail
  obtain ⟨r2, s2, hA, hO⟩ := L2.out
  have HO2 := hid hO
  clear hO
  refine (hA _).mono ?_
  clear hA
  rintro e w2 ⟨rfl, hb⟩
  have HB2 := hid ((HB1.out.alloc HB1.out.size _).trans (hb.mono (by have := HB1.out.size; simp; omega)))
  have z2 : w1.heap.size < w2.heap.size := by have := hb.size; simp at this; omega
  have k0 : w2.cell? ⟨w1.heap.size, 0, none⟩ = some (.int .i64 ida) := by rw [hb.cell (by simp)]; simp [go_sem]
  have k2 : w2.cell? ⟨w1.heap.size, 2, none⟩ = some (.int .u64 r1) := by rw [hb.cell (by simp)]; simp [go_sem]
  have k3 : w2.cell? ⟨w1.heap.size, 3, none⟩ = some (.int .i64 s1) := by rw [hb.cell (by simp)]; simp [go_sem]
  have k4 : w2.cell? ⟨w1.heap.size, 4, none⟩ = some (.pointer none) := by rw [hb.cell (by simp)]; simp [go_sem]
  clear hb
  go_wp2_with fail
  refine (HO1.out _ ida _ ?_).mono ?_
  · exact ⟨by simp; omega, by rw [World.cell?_alloc_past _ _ _ z2]; exact k0, by rw [World.cell?_alloc_past _ _ _ z2]; exact k2, by rw [World.cell?_alloc_past _ _ _ z2]; exact k3, by rw [World.cell?_alloc_past _ _ _ z2]; exact k4⟩
  clear k0 k2 k3 k4 HO1
  rintro e w3 ⟨rfl, hb⟩
  have HB3 := hid ((HB2.out.alloc HB2.out.size _).trans (hb.mono (by have := HB2.out.size; simp; omega)))
  have z3 : w2.heap.size < w3.heap.size := by have := hb.size; simp at this; omega
  have k0 : w3.cell? ⟨w2.heap.size, 0, none⟩ = some (.int .i64 idb) := by rw [hb.cell (by simp)]; simp [go_sem]
  have k2 : w3.cell? ⟨w2.heap.size, 2, none⟩ = some (.int .u64 r2) := by rw [hb.cell (by simp)]; simp [go_sem]
  have k3 : w3.cell? ⟨w2.heap.size, 3, none⟩ = some (.int .i64 s2) := by rw [hb.cell (by simp)]; simp [go_sem]
  have k4 : w3.cell? ⟨w2.heap.size, 4, none⟩ = some (.pointer none) := by rw [hb.cell (by simp)]; simp [go_sem]
  clear hb
  go_wp2_with fail
  refine (HO2.out _ idb _ ?_).mono ?_
  · exact ⟨by simp; omega, by rw [World.cell?_alloc_past _ _ _ z3]; exact k0, by rw [World.cell?_alloc_past _ _ _ z3]; exact k2, by rw [World.cell?_alloc_past _ _ _ z3]; exact k3, by rw [World.cell?_alloc_past _ _ _ z3]; exact k4⟩
  clear k0 k2 k3 k4 HO2 z2
  rintro e w4 ⟨rfl, hb⟩
  have HB4 := hid ((HB3.out.alloc HB3.out.size _).trans (hb.mono (by have := HB3.out.size; simp; omega)))
  have z4 : w3.heap.size < w4.heap.size := by have := hb.size; simp at this; omega
  have k0 : w4.cell? ⟨w3.heap.size, 0, none⟩ = some (.int .i64 S) := by rw [hb.cell (by simp)]; simp [go_sem]
  have k1 : w4.cell? ⟨w3.heap.size, 1, none⟩ = some (.int .i32 R) := by rw [hb.cell (by simp)]; simp [go_sem]
  clear hb HB1 HB2 HB3 L1 L2
  go_wp2
  go_ret
  exact ⟨rfl, HB4.out.alloc HB4.out.size _⟩

set_option maxHeartbeats 1000000 in
theorem mono_sec_more (a b ida idb S R S2 R2 : Int) (w : World) (L1 : Hid (Leads a S R)) (L2 : Hid (Leads b S2 R2))
    (ha : (a == 0) = false) (hb : (b == 0) = false) (d1 : decide (S < S2) = false) (e1 : (S == S2) = false) (dab : decide (a < b) = false) (eab : (a == b) = false) :
    Calls Yba.prog 4 #[.int .i64 a, .int .i64 b, .int .i64 ida, .int .i64 idb] w fun e w' => e = .returned (.bool true) ∧ Below w.heap.size w w' := by
  go_enter Yba.func4, Yba.ntmps4
  go_wp2_with fail
  obtain ⟨r1, s1, hA, hO⟩ := L1.out
  have HO1 := hid hO
  clear hO
  refine (hA _).mono ?_
  clear hA
  rintro e w1 ⟨rfl, hb⟩
  have HB1 := hid hb
  clear hb
  go_wp2_with fail
  obtain ⟨r2, s2, hA, hO⟩ := L2.out
  have HO2 := hid hO
  clear hO
  refine (hA _).mono ?_
  clear hA
  rintro e w2 ⟨rfl, hb⟩
  have HB2 := hid ((HB1.out.alloc HB1.out.size _).trans (hb.mono (by have := HB1.out.size; simp; omega)))
  have z2 : w1.heap.size < w2.heap.size := by have := hb.size; simp at this; omega
  have k0 : w2.cell? ⟨w1.heap.size, 0, none⟩ = some (.int .i64 ida) := by rw [hb.cell (by simp)]; simp [go_sem]
  have k2 : w2.cell? ⟨w1.heap.size, 2, none⟩ = some (.int .u64 r1) := by rw [hb.cell (by simp)]; simp [go_sem]
  have k3 : w2.cell? ⟨w1.heap.size, 3, none⟩ = some (.int .i64 s1) := by rw [hb.cell (by simp)]; simp [go_sem]
  have k4 : w2.cell? ⟨w1.heap.size, 4, none⟩ = some (.pointer none) := by rw [hb.cell (by simp)]; simp [go_sem]
  clear hb
  go_wp2_with fail
  refine (HO1.out _ ida _ ?_).mono ?_
  · exact ⟨by simp; omega, by rw [World.cell?_alloc_past _ _ _ z2]; exact k0, by rw [World.cell?_alloc_past _ _ _ z2]; exact k2, by rw [World.cell?_alloc_past _ _ _ z2]; exact k3, by rw [World.cell?_alloc_past _ _ _ z2]; exact k4⟩
  clear k0 k2 k3 k4 HO1
  rintro e w3 ⟨rfl, hb⟩
  have HB3 := hid ((HB2.out.alloc HB2.out.size _).trans (hb.mono (by have := HB2.out.size; simp; omega)))
  have z3 : w2.heap.size < w3.heap.size := by have := hb.size; simp at this; omega
  have k0 : w3.cell? ⟨w2.heap.size, 0, none⟩ = some (.int .i64 idb) := by rw [hb.cell (by simp)]; simp [go_sem]
  have k2 : w3.cell? ⟨w2.heap.size, 2, none⟩ = some (.int .u64 r2) := by rw [hb.cell (by simp)]; simp [go_sem]
  have k3 : w3.cell? ⟨w2.heap.size, 3, none⟩ = some (.int .i64 s2) := by rw [hb.cell (by simp)]; simp [go_sem]
  have k4 : w3.cell? ⟨w2.heap.size, 4, none⟩ = some (.pointer none) := by rw [hb.cell (by simp)]; simp [go_sem]
  clear hb
  go_wp2_with fail
  refine (HO2.out _ idb _ ?_).mono ?_
  · exact ⟨by simp; omega, by rw [World.cell?_alloc_past _ _ _ z3]; exact k0, by rw [World.cell?_alloc_past _ _ _ z3]; exact k2, by rw [World.cell?_alloc_past _ _ _ z3]; exact k3, by rw [World.cell?_alloc_past _ _ _ z3]; exact k4⟩
  clear k0 k2 k3 k4 HO2 z2
  rintro e w4 ⟨rfl, hb⟩
  have HB4 := hid ((HB3.out.alloc HB3.out.size _).trans (hb.mono (by have := HB3.out.size; simp; omega)))
  have z4 : w3.heap.size < w4.heap.size := by have := hb.size; simp at this; omega
  have k0 : w4.cell? ⟨w3.heap.size, 0, none⟩ = some (.int .i64 S) := by rw [hb.cell (by simp)]; simp [go_sem]
  have k1 : w4.cell? ⟨w3.heap.size, 1, none⟩ = some (.int .i32 R) := by rw [hb.cell (by simp)]; simp [go_sem]
  clear hb HB1 HB2 HB3 L1 L2
  go_wp2
  go_ret
  exact ⟨rfl, HB4.out.alloc HB4.out.size _⟩

set_option maxHeartbeats 1000000 in
theorem mono_nsec_less (a b ida idb S R R2 : Int) (w : World) (L1 : Hid (Leads a S R)) (L2 : Hid (Leads b S R2))
    (ha : (a == 0) = false) (hb : (b == 0) = false) (hR : R < R2) (e2 : (R == R2) = false) (hab : a < b) (eab : (a == b) = false) :
    Calls Yba.prog 4 #[.int .i64 a, .int .i64 b, .int .i64 ida, .int .i64 idb] w fun e w' => e = .returned (.bool true) ∧ Below w.heap.size w w' := by
  go_enter Yba.func4, Yba.ntmps4
  go_wp2_with fail
  obtain ⟨r1, s1, hA, hO⟩ := L1.out
  have HO1 := hid hO
  clear hO
  refine (hA _).mono ?_
  clear hA
  rintro e w1 ⟨rfl, hb⟩
  have HB1 := hid hb
  clear hb
  go_wp2_with fail
  obtain ⟨r2, s2, hA, hO⟩ := L2.out
  have HO2 := hid hO
  clear hO
  refine (hA _).mono ?_
  clear hA
  rintro e w2 ⟨rfl, hb⟩
  have HB2 := hid ((HB1.out.alloc HB1.out.size _).trans (hb.mono (by have := HB1.out.size; simp; omega)))
  have z2 : w1.heap.size < w2.heap.size := by have := hb.size; simp at this; omega
  have k0 : w2.cell? ⟨w1.heap.size, 0, none⟩ = some (.int .i64 ida) := by rw [hb.cell (by simp)]; simp [go_sem]
  have k2 : w2.cell? ⟨w1.heap.size, 2, none⟩ = some (.int .u64 r1) := by rw [hb.cell (by simp)]; simp [go_sem]
  have k3 : w2.cell? ⟨w1.heap.size, 3, none⟩ = some (.int .i64 s1) := by rw [hb.cell (by simp)]; simp [go_sem]
  have k4 : w2.cell? ⟨w1.heap.size, 4, none⟩ = some (.pointer none) := by rw [hb.cell (by simp)]; simp [go_sem]
  clear hb
  go_wp2_with fail
  refine (HO1.out _ ida _ ?_).mono ?_
  · exact ⟨by simp; omega, by rw [World.cell?_alloc_past _ _ _ z2]; exact k0, by rw [World.cell?_alloc_past _ _ _ z2]; exact k2, by rw [World.cell?_alloc_past _ _ _ z2]; exact k3, by rw [World.cell?_alloc_past _ _ _ z2]; exact k4⟩
  clear k0 k2 k3 k4 HO1
  rintro e w3 ⟨rfl, hb⟩
  have HB3 := hid ((HB2.out.alloc HB2.out.size _).trans (hb.mono (by have := HB2.out.size; simp; omega)))
  have z3 : w2.heap.size < w3.heap.size := by have := hb.size; simp at this; omega
  have k0 : w3.cell? ⟨w2.heap.size, 0, none⟩ = some (.int .i64 idb) := by rw [hb.cell (by simp)]; simp [go_sem]
  have k2 : w3.cell? ⟨w2.heap.size, 2, none⟩ = some (.int .u64 r2) := by rw [hb.cell (by simp)]; simp [go_sem]
  have k3 : w3.cell? ⟨w2.heap.size, 3, none⟩ = some (.int .i64 s2) := by rw [hb.cell (by simp)]; simp [go_sem]
  have k4 : w3.cell? ⟨w2.heap.size, 4, none⟩ = some (.pointer none) := by rw [hb.cell (by simp)]; simp [go_sem]
  clear hb
  go_wp2_with fail
  refine (HO2.out _ idb _ ?_).mono ?_
  · exact ⟨by simp; omega, by rw [World.cell?_alloc_past _ _ _ z3]; exact k0, by rw [World.cell?_alloc_past _ _ _ z3]; exact k2, by rw [World.cell?_alloc_past _ _ _ z3]; exact k3, by rw [World.cell?_alloc_past _ _ _ z3]; exact k4⟩
  clear k0 k2 k3 k4 HO2 z2
  rintro e w4 ⟨rfl, hb⟩
  have HB4 := hid ((HB3.out.alloc HB3.out.size _).trans (hb.mono (by have := HB3.out.size; simp; omega)))
  have z4 : w3.heap.size < w4.heap.size := by have := hb.size; simp at this; omega
  have k0 : w4.cell? ⟨w3.heap.size, 0, none⟩ = some (.int .i64 S) := by rw [hb.cell (by simp)]; simp [go_sem]
  have k1 : w4.cell? ⟨w3.heap.size, 1, none⟩ = some (.int .i32 R) := by rw [hb.cell (by simp)]; simp [go_sem]
  clear hb HB1 HB2 HB3 L1 L2
  go_wp2
  go_ret
  exact ⟨rfl, HB4.out.alloc HB4.out.size _⟩

set_option maxHeartbeats 1000000 in
theorem mono_nsec_more (a b ida idb S R R2 : Int) (w : World) (L1 : Hid (Leads a S R)) (L2 : Hid (Leads b S R2))
    (ha : (a == 0) = false) (hb : (b == 0) = false) (d2 : decide (R < R2) = false) (e2 : (R == R2) = false) (dab : decide (a < b) = false) (eab : (a == b) = false) :
    Calls Yba.prog 4 #[.int .i64 a, .int .i64 b, .int .i64 ida, .int .i64 idb] w fun e w' => e = .returned (.bool true) ∧ Below w.heap.size w w' := by
  go_enter Yba.func4, Yba.ntmps4
  go_wp2_with fail
  obtain ⟨r1, s1, hA, hO⟩ := L1.out
  have HO1 := hid hO
  clear hO
  refine (hA _).mono ?_
  clear hA
  rintro e w1 ⟨rfl, hb⟩
  have HB1 := hid hb
  clear hb
  go_wp2_with fail
  obtain ⟨r2, s2, hA, hO⟩ := L2.out
  have HO2 := hid hO
  clear hO
  refine (hA _).mono ?_
  clear hA
  rintro e w2 ⟨rfl, hb⟩
  have HB2 := hid ((HB1.out.alloc HB1.out.size _).trans (hb.mono (by have := HB1.out.size; simp; omega)))
  have z2 : w1.heap.size < w2.heap.size := by have := hb.size; simp at this; omega
  have k0 : w2.cell? ⟨w1.heap.size, 0, none⟩ = some (.int .i64 ida) := by rw [hb.cell (by simp)]; simp [go_sem]
  have k2 : w2.cell? ⟨w1.heap.size, 2, none⟩ = some (.int .u64 r1) := by rw [hb.cell (by simp)]; simp [go_sem]
  have k3 : w2.cell? ⟨w1.heap.size, 3, none⟩ = some (.int .i64 s1) := by rw [hb.cell (by simp)]; simp [go_sem]
  have k4 : w2.cell? ⟨w1.heap.size, 4, none⟩ = some (.pointer none) := by rw [hb.cell (by simp)]; simp [go_sem]
  clear hb
  go_wp2_with fail
  refine (HO1.out _ ida _ ?_).mono ?_
  · exact ⟨by simp; omega, by rw [World.cell?_alloc_past _ _ _ z2]; exact k0, by rw [World.cell?_alloc_past _ _ _ z2]; exact k2, by rw [World.cell?_alloc_past _ _ _ z2]; exact k3, by rw [World.cell?_alloc_past _ _ _ z2]; exact k4⟩
  clear k0 k2 k3 k4 HO1
  rintro e w3 ⟨rfl, hb⟩
  have HB3 := hid ((HB2.out.alloc HB2.out.size _).trans (hb.mono (by have := HB2.out.size; simp; omega)))
  have z3 : w2.heap.size < w3.heap.size := by have := hb.size; simp at this; omega
  have k0 : w3.cell? ⟨w2.heap.size, 0, none⟩ = some (.int .i64 idb) := by rw [hb.cell (by simp)]; simp [go_sem]
  have k2 : w3.cell? ⟨w2.heap.size, 2, none⟩ = some (.int .u64 r2) := by rw [hb.cell (by simp)]; simp [go_sem]
  have k3 : w3.cell? ⟨w2.heap.size, 3, none⟩ = some (.int .i64 s2) := by rw [hb.cell (by simp)]; simp [go_sem]
  have k4 : w3.cell? ⟨w2.heap.size, 4, none⟩ = some (.pointer none) := by rw [hb.cell (by simp)]; simp [go_sem]
  clear hb
  go_wp2_with fail
  refine (HO2.out _ idb _ ?_).mono ?_
  · exact ⟨by simp; omega, by rw [World.cell?_alloc_past _ _ _ z3]; exact k0, by rw [World.cell?_alloc_past _ _ _ z3]; exact k2, by rw [World.cell?_alloc_past _ _ _ z3]; exact k3, by rw [World.cell?_alloc_past _ _ _ z3]; exact k4⟩
  clear k0 k2 k3 k4 HO2 z2
  rintro e w4 ⟨rfl, hb⟩
  have HB4 := hid ((HB3.out.alloc HB3.out.size _).trans (hb.mono (by have := HB3.out.size; simp; omega)))
  have z4 : w3.heap.size < w4.heap.size := by have := hb.size; simp at this; omega
  have k0 : w4.cell? ⟨w3.heap.size, 0, none⟩ = some (.int .i64 S) := by rw [hb.cell (by simp)]; simp [go_sem]
  have k1 : w4.cell? ⟨w3.heap.size, 1, none⟩ = some (.int .i32 R) := by rw [hb.cell (by simp)]; simp [go_sem]
  clear hb HB1 HB2 HB3 L1 L2
  go_wp2
  go_ret
  exact ⟨rfl, HB4.out.alloc HB4.out.size _⟩

set_option maxHeartbeats 1000000 in
theorem mono_same (a ida idb S R : Int) (w : World) (L1 : Hid (Leads a S R)) (L2 : Hid (Leads a S R))
    (ha : (a == 0) = false) :
    Calls Yba.prog 4 #[.int .i64 a, .int .i64 a, .int .i64 ida, .int .i64 idb] w fun e w' => e = .returned (.bool true) ∧ Below w.heap.size w w' := by
  go_enter Yba.func4, Yba.ntmps4
  go_wp2_with fail
  obtain ⟨r1, s1, hA, hO⟩ := L1.out
  have HO1 := hid hO
  clear hO
  refine (hA _).mono ?_
  clear hA
  rintro e w1 ⟨rfl, hb⟩
  have HB1 := hid hb
  clear hb
  go_wp2_with fail
  obtain ⟨r2, s2, hA, hO⟩ := L2.out
  have HO2 := hid hO
  clear hO
  refine (hA _).mono ?_
  clear hA
  rintro e w2 ⟨rfl, hb⟩
  have HB2 := hid ((HB1.out.alloc HB1.out.size _).trans (hb.mono (by have := HB1.out.size; simp; omega)))
  have z2 : w1.heap.size < w2.heap.size := by have := hb.size; simp at this; omega
  have k0 : w2.cell? ⟨w1.heap.size, 0, none⟩ = some (.int .i64 ida) := by rw [hb.cell (by simp)]; simp [go_sem]
  have k2 : w2.cell? ⟨w1.heap.size, 2, none⟩ = some (.int .u64 r1) := by rw [hb.cell (by simp)]; simp [go_sem]
  have k3 : w2.cell? ⟨w1.heap.size, 3, none⟩ = some (.int .i64 s1) := by rw [hb.cell (by simp)]; simp [go_sem]
  have k4 : w2.cell? ⟨w1.heap.size, 4, none⟩ = some (.pointer none) := by rw [hb.cell (by simp)]; simp [go_sem]
  clear hb
  go_wp2_with fail
  refine (HO1.out _ ida _ ?_).mono ?_
  · exact ⟨by simp; omega, by rw [World.cell?_alloc_past _ _ _ z2]; exact k0, by rw [World.cell?_alloc_past _ _ _ z2]; exact k2, by rw [World.cell?_alloc_past _ _ _ z2]; exact k3, by rw [World.cell?_alloc_past _ _ _ z2]; exact k4⟩
  clear k0 k2 k3 k4 HO1
  rintro e w3 ⟨rfl, hb⟩
  have HB3 := hid ((HB2.out.alloc HB2.out.size _).trans (hb.mono (by have := HB2.out.size; simp; omega)))
  have z3 : w2.heap.size < w3.heap.size := by have := hb.size; simp at this; omega
  have k0 : w3.cell? ⟨w2.heap.size, 0, none⟩ = some (.int .i64 idb) := by rw [hb.cell (by simp)]; simp [go_sem]
  have k2 : w3.cell? ⟨w2.heap.size, 2, none⟩ = some (.int .u64 r2) := by rw [hb.cell (by simp)]; simp [go_sem]
  have k3 : w3.cell? ⟨w2.heap.size, 3, none⟩ = some (.int .i64 s2) := by rw [hb.cell (by simp)]; simp [go_sem]
  have k4 : w3.cell? ⟨w2.heap.size, 4, none⟩ = some (.pointer none) := by rw [hb.cell (by simp)]; simp [go_sem]
  clear hb
  go_wp2_with fail
  refine (HO2.out _ idb _ ?_).mono ?_
  · exact ⟨by simp; omega, by rw [World.cell?_alloc_past _ _ _ z3]; exact k0, by rw [World.cell?_alloc_past _ _ _ z3]; exact k2, by rw [World.cell?_alloc_past _ _ _ z3]; exact k3, by rw [World.cell?_alloc_past _ _ _ z3]; exact k4⟩
  clear k0 k2 k3 k4 HO2 z2
  rintro e w4 ⟨rfl, hb⟩
  have HB4 := hid ((HB3.out.alloc HB3.out.size _).trans (hb.mono (by have := HB3.out.size; simp; omega)))
  have z4 : w3.heap.size < w4.heap.size := by have := hb.size; simp at this; omega
  have k0 : w4.cell? ⟨w3.heap.size, 0, none⟩ = some (.int .i64 S) := by rw [hb.cell (by simp)]; simp [go_sem]
  have k1 : w4.cell? ⟨w3.heap.size, 1, none⟩ = some (.int .i32 R) := by rw [hb.cell (by simp)]; simp [go_sem]
  clear hb HB1 HB2 HB3 L1 L2
  go_wp2
  go_ret
  exact ⟨rfl, HB4.out.alloc HB4.out.size _⟩

end Go.Proofs.Ybulkizc.Walks
