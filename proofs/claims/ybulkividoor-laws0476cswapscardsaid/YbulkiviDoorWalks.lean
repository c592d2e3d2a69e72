/-
  THE WALKS of the functions below 'zzs0476ckey' over the program 'ybulkividoor', and of '(Key).Reverse': each by a contract.
-/
import Derived.Test.YbulkiviDoorRows
import Derived.WalkKit
import Derived.WalkSpells
import Derived.ProofKit
import Derived.Deep.QuietTactic
import Derived.Deep.RegionWith
import Derived.Deep.RegionHeld3
import Derived.BigQuiet
namespace Go.Proofs.YbulkiviDoor.Walks
open Go.ChangeShapes Go.WideShapes Go.ChangeAt Go.RowKit

theorem below_draws {B : Nat} {a w : World} (h : Below B a w) (n : Nat) : Below B a (w.drewN n) := h.trans ⟨rfl, rfl, rfl, Nat.le_refl _, fun _ _ => rfl⟩
/-- What 'BEUint64' computes of the eight bytes from 'o' on (its own formula; nothing here leans on what number that is). -/
def beAt (c : Nat → Int) (o : Nat) : Int :=
  bits .or .u64 (bits .or .u64 (bits .or .u64 (bits .or .u64 (bits .or .u64 (bits .or .u64 (bits .or .u64 (IntKind.u64.wrap (c (o + 7)))
    (IntKind.u64.wrap (IntKind.u64.wrap (c (o + 6)) * 256))) (IntKind.u64.wrap (IntKind.u64.wrap (c (o + 5)) * 65536))) (IntKind.u64.wrap (IntKind.u64.wrap (c (o + 4)) * 16777216)))
    (IntKind.u64.wrap (IntKind.u64.wrap (c (o + 3)) * 4294967296))) (IntKind.u64.wrap (IntKind.u64.wrap (c (o + 2)) * 1099511627776)))
    (IntKind.u64.wrap (IntKind.u64.wrap (c (o + 1)) * 281474976710656))) (IntKind.u64.wrap (IntKind.u64.wrap (c o) * 72057594037927936))

set_option maxHeartbeats 1000000 in
/-- internal/byteorder.BEUint64 over eight bytes that lie in a block. -/
theorem be64 (c : Nat → Int) (b o cap : Nat) (w : World) (h : ∀ j, o ≤ j → j < o + 8 → w.cell? ⟨b, j, none⟩ = some (.int .u8 (c j))) :
    Calls Ybad.prog 10 #[.slice (some ⟨b, o, none⟩) 8 cap] w fun e w' => e = .returned (.int .u64 (beAt c o)) ∧ ∃ n, w' = w.drewN n := by
  have h0 := h o (by omega) (by omega)
  have h1 := h (o + 1) (by omega) (by omega)
  have h2 := h (o + 2) (by omega) (by omega)
  have h3 := h (o + 3) (by omega) (by omega)
  have h4 := h (o + 4) (by omega) (by omega)
  have h5 := h (o + 5) (by omega) (by omega)
  have h6 := h (o + 6) (by omega) (by omega)
  have h7 := h (o + 7) (by omega) (by omega)
  clear h
  go_enter Ybad.func10, Ybad.ntmps10
  go_wp2
  go_quiet (fail)
  go_wp2
  go_ret
  exact ⟨rfl, _, rfl⟩

theorem cells16 (b : Nat → Int) (j : Nat) (h : j < 16) : (#[.int .u8 (b 0), .int .u8 (b 1), .int .u8 (b 2), .int .u8 (b 3), .int .u8 (b 4), .int .u8 (b 5), .int .u8 (b 6), .int .u8 (b 7), .int .u8 (b 8), .int .u8 (b 9), .int .u8 (b 10), .int .u8 (b 11), .int .u8 (b 12), .int .u8 (b 13), .int .u8 (b 14), .int .u8 (b 15)] : Array Value)[j]? = some (.int .u8 (b j)) := by
  have e : j = 0 ∨ j = 1 ∨ j = 2 ∨ j = 3 ∨ j = 4 ∨ j = 5 ∨ j = 6 ∨ j = 7 ∨ j = 8 ∨ j = 9 ∨ j = 10 ∨ j = 11 ∨ j = 12 ∨ j = 13 ∨ j = 14 ∨ j = 15 := by omega
  rcases e with rfl | rfl | rfl | rfl | rfl | rfl | rfl | rfl | rfl | rfl | rfl | rfl | rfl | rfl | rfl | rfl <;> rfl

set_option maxHeartbeats 1000000 in
/-- netip.AddrFrom16. -/
theorem from16 (b : Nat → Int) (p : Option Addr) (w : World) (hp : w.cell? ⟨1, 0, none⟩ = some (.pointer p)) (hs : 1 < w.heap.size) :
    Calls Ybad.prog 9 #[.agg #[.int .u8 (b 0), .int .u8 (b 1), .int .u8 (b 2), .int .u8 (b 3), .int .u8 (b 4), .int .u8 (b 5), .int .u8 (b 6), .int .u8 (b 7), .int .u8 (b 8), .int .u8 (b 9), .int .u8 (b 10), .int .u8 (b 11), .int .u8 (b 12), .int .u8 (b 13), .int .u8 (b 14), .int .u8 (b 15)]] w fun e w' =>
      e = .returned (.agg #[.int .u64 (beAt b 0), .int .u64 (beAt b 8), .pointer p]) ∧ Below w.heap.size w w' := by
  have hA : ∀ (o : Obj) (j : Nat), j < 16 → ((w.alloc (.cells #[.int .u8 (b 0), .int .u8 (b 1), .int .u8 (b 2), .int .u8 (b 3), .int .u8 (b 4), .int .u8 (b 5), .int .u8 (b 6), .int .u8 (b 7), .int .u8 (b 8), .int .u8 (b 9), .int .u8 (b 10), .int .u8 (b 11), .int .u8 (b 12), .int .u8 (b 13), .int .u8 (b 14), .int .u8 (b 15)] 23)).alloc o).cell? ⟨w.heap.size, j, none⟩ = some (.int .u8 (b j)) := fun o j hj => by
    rw [World.cell?_alloc_past (w := w.alloc _) _ _ _ (by simp), World.cell?_alloc_at (w := w) _ _ _ _ rfl, cells16 b j hj]
  have hP : ∀ (o1 o2 : Obj), ((w.alloc o1).alloc o2).cell? ⟨1, 0, none⟩ = some (.pointer p) := fun o1 o2 => by
    rw [World.cell?_alloc_past (w := w.alloc o1) _ _ _ (by simp; omega), World.cell?_alloc_past (w := w) _ _ _ hs, hp]
  go_enter Ybad.func9, Ybad.ntmps9
  go_wp2
  go_region_held3 (fun w' => w'.cell? ⟨1, 0, none⟩ = some (.pointer p) ∧ ∀ j, j < 16 → w'.cell? ⟨w.heap.size, j, none⟩ = some (.int .u8 (b j))) (refine ⟨?_, fun j hj => ?_⟩ <;> simp [*, go_sem])
    (first
      | (go_at_call 10; refine (be64 b _ _ _ _ ?_).mono ?_; intro j _ hj; exact hA _ j (by omega); rintro e w' ⟨rfl, nn, rfl⟩))
  go_wp2
  refine bodyPost_ret (v := .agg #[.int .u64 (beAt b 0), .int .u64 (beAt b 8), .pointer p]) (by simp [results, Ybad.results9, go_sem]) rfl ⟨rfl, ?_⟩
  exact (((below_draws (((Below.refl _ w).alloc (Nat.le_refl _) _).alloc (by simp) _) _).setCell (by simp) _).setCell (by simp) _).setCell (by simp) _

/-- What 'AddrFrom4' computes of the four bytes (its own formula). -/
def v4Of (a : Nat → Int) : Int :=
  bits .or .u64 (bits .or .u64 (bits .or .u64 (bits .or .u64 281470681743360 (IntKind.u64.wrap (IntKind.u64.wrap (a 0) * 16777216)))
    (IntKind.u64.wrap (IntKind.u64.wrap (a 1) * 65536))) (IntKind.u64.wrap (IntKind.u64.wrap (a 2) * 256))) (IntKind.u64.wrap (a 3))

set_option maxHeartbeats 1000000 in
/-- netip.AddrFrom4. -/
theorem from4 (a : Nat → Int) (p : Option Addr) (w : World) (hp : w.cell? ⟨0, 0, none⟩ = some (.pointer p)) (hs : 1 < w.heap.size) :
    Calls Ybad.prog 8 #[.agg #[.int .u8 (a 0), .int .u8 (a 1), .int .u8 (a 2), .int .u8 (a 3)]] w fun e w' =>
      e = .returned (.agg #[.int .u64 0, .int .u64 (v4Of a), .pointer p]) ∧ Below w.heap.size w w' := by
  have hP : ∀ (o1 o2 : Obj), ((w.alloc o1).alloc o2).cell? ⟨0, 0, none⟩ = some (.pointer p) := fun o1 o2 => by
    rw [World.cell?_alloc_past (w := w.alloc o1) _ _ _ (by simp), World.cell?_alloc_past (w := w) _ _ _ (by omega), hp]
  go_enter Ybad.func8, Ybad.ntmps8
  go_wp2
  refine bodyPost_ret (v := .agg #[.int .u64 0, .int .u64 (v4Of a), .pointer p]) (by simp [results, Ybad.results8, go_sem, v4Of]) rfl ⟨rfl, ?_⟩
  exact ((Below.refl _ w).alloc (Nat.le_refl _) _).alloc (by simp) _

/-- The two package-level handles, as the walks ask for them: each variable's one cell holds a pointer; both blocks lie below whatever a call makes. -/
def Handles (p4 p6 : Option Addr) (w : World) : Prop := w.cell? ⟨0, 0, none⟩ = some (.pointer p4) ∧ w.cell? ⟨1, 0, none⟩ = some (.pointer p6) ∧ 1 < w.heap.size
theorem Handles.alloc {p4 p6 : Option Addr} {w : World} (h : Handles p4 p6 w) (o : Obj) : Handles p4 p6 (w.alloc o) := by
  obtain ⟨h1, h2, h3⟩ := h
  exact ⟨by rw [World.cell?_alloc_past (w := w) _ _ _ (by omega), h1], by rw [World.cell?_alloc_past (w := w) _ _ _ h3, h2], by simp; omega⟩
theorem Handles.below {p4 p6 : Option Addr} {w w' : World} (h : Handles p4 p6 w) (hb : Below w.heap.size w w') : Handles p4 p6 w' := by
  obtain ⟨h1, h2, h3⟩ := h
  exact ⟨by rw [hb.cell (p := ⟨0, 0, none⟩) (by show 0 < w.heap.size; omega), h1], by rw [hb.cell (p := ⟨1, 0, none⟩) h3, h2], Nat.lt_of_lt_of_le h3 hb.size⟩

set_option maxHeartbeats 1000000 in
/-- zzs0476caddr: some address; of what was there nothing has turned. -/
theorem addr_any (s : Int) (a b : Nat → Int) (p4 p6 : Option Addr) (w : World) (hh : Hid (Handles p4 p6 w)) (h0 : 0 ≤ s) (h1 : s ≤ 255) :
    Calls Ybad.prog 7 #[.int .u8 s, .agg #[.int .u8 (a 0), .int .u8 (a 1), .int .u8 (a 2), .int .u8 (a 3)], .agg #[.int .u8 (b 0), .int .u8 (b 1), .int .u8 (b 2), .int .u8 (b 3), .int .u8 (b 4), .int .u8 (b 5), .int .u8 (b 6), .int .u8 (b 7), .int .u8 (b 8), .int .u8 (b 9), .int .u8 (b 10), .int .u8 (b 11), .int .u8 (b 12), .int .u8 (b 13), .int .u8 (b 14), .int .u8 (b 15)]] w fun e w' =>
      (∃ (x y : Int) (q : Option Addr), e = .returned (.agg #[.int .u64 x, .int .u64 y, .pointer q])) ∧ Below w.heap.size w w' := by
  by_cases c0 : s % 3 = 0
  · have d0 : (s % 3 == 0) = true := by simp [c0]
    clear c0
    go_enter Ybad.func7, Ybad.ntmps7
    go_wp2
    refine bodyPost_ret (v := .agg #[.int .u64 0, .int .u64 0, .pointer none]) (by simp [results, Ybad.results7, go_sem]) rfl ⟨⟨_, _, _, rfl⟩, ?_⟩
    exact (((Below.refl _ w).alloc (Nat.le_refl _) _).alloc (by simp) _).alloc (by simp; omega) _
  have d0 : (s % 3 == 0) = false := by simp [c0]
  by_cases c1 : s % 3 = 1
  · have d1 : (s % 3 == 1) = true := by simp [c1]
    clear c0 c1
    go_enter Ybad.func7, Ybad.ntmps7
    go_wp2_with fail
    refine (from4 a p4 _ ?_ ?_).mono ?_
    · exact (((hh.out.alloc _).alloc _).alloc _).1
    · exact (((hh.out.alloc _).alloc _).alloc _).2.2
    rintro e w1 ⟨rfl, hb⟩
    have k0 : w1.cell? ⟨w.heap.size + 1 + 1, 0, none⟩ = some (.int .u64 0) := by rw [hb.cell (by simp)]; simp [go_sem]
    have k1 : w1.cell? ⟨w.heap.size + 1 + 1, 1, none⟩ = some (.int .u64 0) := by rw [hb.cell (by simp)]; simp [go_sem]
    have k2 : w1.cell? ⟨w.heap.size + 1 + 1, 2, none⟩ = some (.pointer none) := by rw [hb.cell (by simp)]; simp [go_sem]
    have f0 : w1.frozen? ⟨w.heap.size + 1 + 1, 0, none⟩ = false := by rw [hb.frozen (by simp)]; simp [go_sem]
    have f1 : w1.frozen? ⟨w.heap.size + 1 + 1, 1, none⟩ = false := by rw [hb.frozen (by simp)]; simp [go_sem]
    have f2 : w1.frozen? ⟨w.heap.size + 1 + 1, 2, none⟩ = false := by rw [hb.frozen (by simp)]; simp [go_sem]
    have hz : w.heap.size + 1 + 1 < w1.heap.size := by have := hb.size; simp at this; omega
    have HB : Hid (Below w.heap.size w w1) := ((((Below.refl _ w).alloc (Nat.le_refl _) _).alloc (by simp) _).alloc (by simp; omega) _).trans (hb.mono (by simp; omega))
    clear hb
    go_wp2
    refine bodyPost_ret (v := .agg #[.int .u64 0, .int .u64 (v4Of a), .pointer p4]) (by simp [results, Ybad.results7, go_sem, k0, k1, k2]) rfl ⟨⟨_, _, _, rfl⟩, ?_⟩
    exact ((HB.out.setCell (by simp; omega) _).setCell (by simp; omega) _).setCell (by simp; omega) _
  · have d1 : (s % 3 == 1) = false := by simp [c1]
    clear c0 c1
    go_enter Ybad.func7, Ybad.ntmps7
    go_wp2_with fail
    refine (from16 b p6 _ ?_ ?_).mono ?_
    · exact (((hh.out.alloc _).alloc _).alloc _).2.1
    · exact (((hh.out.alloc _).alloc _).alloc _).2.2
    rintro e w1 ⟨rfl, hb⟩
    have k0 : w1.cell? ⟨w.heap.size + 1 + 1, 0, none⟩ = some (.int .u64 0) := by rw [hb.cell (by simp)]; simp [go_sem]
    have k1 : w1.cell? ⟨w.heap.size + 1 + 1, 1, none⟩ = some (.int .u64 0) := by rw [hb.cell (by simp)]; simp [go_sem]
    have k2 : w1.cell? ⟨w.heap.size + 1 + 1, 2, none⟩ = some (.pointer none) := by rw [hb.cell (by simp)]; simp [go_sem]
    have f0 : w1.frozen? ⟨w.heap.size + 1 + 1, 0, none⟩ = false := by rw [hb.frozen (by simp)]; simp [go_sem]
    have f1 : w1.frozen? ⟨w.heap.size + 1 + 1, 1, none⟩ = false := by rw [hb.frozen (by simp)]; simp [go_sem]
    have f2 : w1.frozen? ⟨w.heap.size + 1 + 1, 2, none⟩ = false := by rw [hb.frozen (by simp)]; simp [go_sem]
    have hz : w.heap.size + 1 + 1 < w1.heap.size := by have := hb.size; simp at this; omega
    have HB : Hid (Below w.heap.size w w1) := ((((Below.refl _ w).alloc (Nat.le_refl _) _).alloc (by simp) _).alloc (by simp; omega) _).trans (hb.mono (by simp; omega))
    clear hb
    go_wp2
    refine bodyPost_ret (v := .agg #[.int .u64 (beAt b 0), .int .u64 (beAt b 8), .pointer p6]) (by simp [results, Ybad.results7, go_sem, k0, k1, k2]) rfl ⟨⟨_, _, _, rfl⟩, ?_⟩
    exact ((HB.out.setCell (by simp; omega) _).setCell (by simp; omega) _).setCell (by simp; omega) _

set_option maxHeartbeats 1000000 in
/-- (flow.Key).Reverse. -/
theorem reverse (pr x1 y1 x2 y2 sp dp : Int) (q1 q2 : Option Addr) (hp : Bool) (w : World) :
    Calls Ybad.prog 6 #[.agg #[.int .u8 pr, .int .u64 x1, .int .u64 y1, .pointer q1, .int .u64 x2, .int .u64 y2, .pointer q2, .int .u16 sp, .int .u16 dp, .bool hp]] w fun e w' =>
      e = .returned (.agg #[.int .u8 pr, .int .u64 x2, .int .u64 y2, .pointer q2, .int .u64 x1, .int .u64 y1, .pointer q1, .int .u16 dp, .int .u16 sp, .bool hp]) ∧ Below w.heap.size w w' := by
  go_enter Ybad.func6, Ybad.ntmps6
  go_wp2
  refine bodyPost_ret (v := .agg #[.int .u8 pr, .int .u64 x2, .int .u64 y2, .pointer q2, .int .u64 x1, .int .u64 y1, .pointer q1, .int .u16 dp, .int .u16 sp, .bool hp]) (by simp [results, Ybad.results6, go_sem]) rfl ⟨rfl, ?_⟩
  exact ((Below.refl _ w).alloc (Nat.le_refl _) _).alloc (by simp) _
end Go.Proofs.YbulkiviDoor.Walks
