/-
  THE WALK of 'zzs0476ckey' over the program 'ybulkividoor'.
-/
import Derived.Test.YbulkiviDoorRows
import Derived.Test.YbulkiviDoorWalks
import Derived.WalkKit
import Derived.WalkSpells
import Derived.ProofKit
import Derived.Deep.QuietTactic
import Derived.Deep.RegionWith
import Derived.Deep.RegionHeld3
import Derived.BigQuiet
namespace Go.Proofs.YbulkiviDoor.Walks
open Go.ChangeShapes Go.WideShapes Go.ChangeAt Go.RowKit

/-- How 'zzs0476ckey' stands ahead of its one statement: the four arrays boxed, the result's variable laid. -/
def KeyStart (a1 a2 b1 b2 : Nat → Int) (p4 p6 : Option Addr) (w W0 : World) : Prop := W0 = (((((w.alloc (.cells #[.int .u8 (a1 0), .int .u8 (a1 1), .int .u8 (a1 2), .int .u8 (a1 3)] 22)).alloc (.cells #[.int .u8 (a2 0), .int .u8 (a2 1), .int .u8 (a2 2), .int .u8 (a2 3)] 22)).alloc (.cells #[.int .u8 (b1 0), .int .u8 (b1 1), .int .u8 (b1 2), .int .u8 (b1 3), .int .u8 (b1 4), .int .u8 (b1 5), .int .u8 (b1 6), .int .u8 (b1 7), .int .u8 (b1 8), .int .u8 (b1 9), .int .u8 (b1 10), .int .u8 (b1 11), .int .u8 (b1 12), .int .u8 (b1 13), .int .u8 (b1 14), .int .u8 (b1 15)] 23)).alloc (.cells #[.int .u8 (b2 0), .int .u8 (b2 1), .int .u8 (b2 2), .int .u8 (b2 3), .int .u8 (b2 4), .int .u8 (b2 5), .int .u8 (b2 6), .int .u8 (b2 7), .int .u8 (b2 8), .int .u8 (b2 9), .int .u8 (b2 10), .int .u8 (b2 11), .int .u8 (b2 12), .int .u8 (b2 13), .int .u8 (b2 14), .int .u8 (b2 15)] 23)).alloc (.cells #[.int .u8 0, .int .u64 0, .int .u64 0, .pointer none, .int .u64 0, .int .u64 0, .pointer none, .int .u16 0, .int .u16 0, .bool false] 35)) ∧ Handles p4 p6 W0
theorem KeyStart.size {a1 a2 b1 b2 : Nat → Int} {p4 p6 : Option Addr} {w W0 : World} (K : KeyStart a1 a2 b1 b2 p4 p6 w W0) : W0.heap.size = w.heap.size + 5 := by rw [K.1]; simp
theorem KeyStart.below {a1 a2 b1 b2 : Nat → Int} {p4 p6 : Option Addr} {w W0 : World} (K : KeyStart a1 a2 b1 b2 p4 p6 w W0) : Below w.heap.size w W0 := by
  rw [K.1]; exact (((((Below.refl _ w).alloc (Nat.le_refl _) _).alloc (by simp) _).alloc (by simp; omega) _).alloc (by simp; omega) _).alloc (by simp; omega) _
theorem KeyStart.handles {a1 a2 b1 b2 : Nat → Int} {p4 p6 : Option Addr} {w W0 w' : World} (K : KeyStart a1 a2 b1 b2 p4 p6 w W0) (hb : Below (w.heap.size + 5) W0 w') : Hid (Handles p4 p6 w') :=
  K.2.below (by rw [K.size]; exact hb)
theorem range16 (b : Nat → Int) (w : World) (k : Nat) (h : ∀ j, j < 16 → w.cell? ⟨k, j, none⟩ = some (.int .u8 (b j))) : w.rangeAt k 0 [.int .u8 (b 0), .int .u8 (b 1), .int .u8 (b 2), .int .u8 (b 3), .int .u8 (b 4), .int .u8 (b 5), .int .u8 (b 6), .int .u8 (b 7), .int .u8 (b 8), .int .u8 (b 9), .int .u8 (b 10), .int .u8 (b 11), .int .u8 (b 12), .int .u8 (b 13), .int .u8 (b 14), .int .u8 (b 15)] := fun j v hv => by
  have hj : j < 16 := by
    have := (List.getElem?_eq_some_iff.1 hv).1
    simpa using this
  have e := cells16 b j hj
  rw [← Array.getElem?_toList] at e
  obtain rfl : v = .int .u8 (b j) := Option.some.inj (hv.symm.trans e)
  rw [Nat.zero_add]
  exact h j hj
theorem cells4 (b : Nat → Int) (j : Nat) (h : j < 4) : (#[.int .u8 (b 0), .int .u8 (b 1), .int .u8 (b 2), .int .u8 (b 3)] : Array Value)[j]? = some (.int .u8 (b j)) := by
  have e : j = 0 ∨ j = 1 ∨ j = 2 ∨ j = 3 := by omega
  rcases e with rfl | rfl | rfl | rfl <;> rfl
theorem range4 (b : Nat → Int) (w : World) (k : Nat) (h : ∀ j, j < 4 → w.cell? ⟨k, j, none⟩ = some (.int .u8 (b j))) : w.rangeAt k 0 [.int .u8 (b 0), .int .u8 (b 1), .int .u8 (b 2), .int .u8 (b 3)] := fun j v hv => by
  have hj : j < 4 := by
    have := (List.getElem?_eq_some_iff.1 hv).1
    simpa using this
  have e := cells4 b j hj
  rw [← Array.getElem?_toList] at e
  obtain rfl : v = .int .u8 (b j) := Option.some.inj (hv.symm.trans e)
  rw [Nat.zero_add]
  exact h j hj
theorem KeyStart.r1 {a1 a2 b1 b2 : Nat → Int} {p4 p6 : Option Addr} {w W0 w' : World} (K : KeyStart a1 a2 b1 b2 p4 p6 w W0) (hb : Below (w.heap.size + 4) W0 w') : w'.rangeAt w.heap.size 0 [.int .u8 (a1 0), .int .u8 (a1 1), .int .u8 (a1 2), .int .u8 (a1 3)] := by
  refine range4 a1 w' _ fun j hj => ?_
  rw [hb.cell (by simp), K.1, World.cell?_alloc_past _ _ _ (by simp; omega), World.cell?_alloc_past _ _ _ (by simp; omega), World.cell?_alloc_past _ _ _ (by simp; omega), World.cell?_alloc_past _ _ _ (by simp), World.cell?_alloc_at _ _ _ _ rfl, cells4 a1 j hj]
theorem KeyStart.r2 {a1 a2 b1 b2 : Nat → Int} {p4 p6 : Option Addr} {w W0 w' : World} (K : KeyStart a1 a2 b1 b2 p4 p6 w W0) (hb : Below (w.heap.size + 4) W0 w') : w'.rangeAt (w.heap.size + 1) 0 [.int .u8 (a2 0), .int .u8 (a2 1), .int .u8 (a2 2), .int .u8 (a2 3)] := by
  refine range4 a2 w' _ fun j hj => ?_
  rw [hb.cell (by simp), K.1, World.cell?_alloc_past _ _ _ (by simp), World.cell?_alloc_past _ _ _ (by simp), World.cell?_alloc_past _ _ _ (by simp), World.cell?_alloc_at _ _ _ _ (by simp), cells4 a2 j hj]
theorem KeyStart.r3 {a1 a2 b1 b2 : Nat → Int} {p4 p6 : Option Addr} {w W0 w' : World} (K : KeyStart a1 a2 b1 b2 p4 p6 w W0) (hb : Below (w.heap.size + 4) W0 w') : w'.rangeAt (w.heap.size + 1 + 1) 0 [.int .u8 (b1 0), .int .u8 (b1 1), .int .u8 (b1 2), .int .u8 (b1 3), .int .u8 (b1 4), .int .u8 (b1 5), .int .u8 (b1 6), .int .u8 (b1 7), .int .u8 (b1 8), .int .u8 (b1 9), .int .u8 (b1 10), .int .u8 (b1 11), .int .u8 (b1 12), .int .u8 (b1 13), .int .u8 (b1 14), .int .u8 (b1 15)] := by
  refine range16 b1 w' _ fun j hj => ?_
  rw [hb.cell (by simp), K.1, World.cell?_alloc_past _ _ _ (by simp), World.cell?_alloc_past _ _ _ (by simp), World.cell?_alloc_at _ _ _ _ (by simp), cells16 b1 j hj]
theorem KeyStart.r4 {a1 a2 b1 b2 : Nat → Int} {p4 p6 : Option Addr} {w W0 w' : World} (K : KeyStart a1 a2 b1 b2 p4 p6 w W0) (hb : Below (w.heap.size + 4) W0 w') : w'.rangeAt (w.heap.size + 1 + 1 + 1) 0 [.int .u8 (b2 0), .int .u8 (b2 1), .int .u8 (b2 2), .int .u8 (b2 3), .int .u8 (b2 4), .int .u8 (b2 5), .int .u8 (b2 6), .int .u8 (b2 7), .int .u8 (b2 8), .int .u8 (b2 9), .int .u8 (b2 10), .int .u8 (b2 11), .int .u8 (b2 12), .int .u8 (b2 13), .int .u8 (b2 14), .int .u8 (b2 15)] := by
  refine range16 b2 w' _ fun j hj => ?_
  rw [hb.cell (by simp), K.1, World.cell?_alloc_past _ _ _ (by simp), World.cell?_alloc_at _ _ _ _ (by simp), cells16 b2 j hj]
set_option maxHeartbeats 1000000 in
theorem KeyStart.room {a1 a2 b1 b2 : Nat → Int} {p4 p6 : Option Addr} {w W0 w' : World} (K : KeyStart a1 a2 b1 b2 p4 p6 w W0) (hb : Below (w.heap.size + 5) W0 w') :
    w'.cell? ⟨w.heap.size + 1 + 1 + 1 + 1, 0, none⟩ = some (.int .u8 0) ∧ w'.cell? ⟨w.heap.size + 1 + 1 + 1 + 1, 1, none⟩ = some (.int .u64 0) ∧ w'.cell? ⟨w.heap.size + 1 + 1 + 1 + 1, 2, none⟩ = some (.int .u64 0) ∧ w'.cell? ⟨w.heap.size + 1 + 1 + 1 + 1, 3, none⟩ = some (.pointer none) ∧ w'.cell? ⟨w.heap.size + 1 + 1 + 1 + 1, 4, none⟩ = some (.int .u64 0) ∧ w'.cell? ⟨w.heap.size + 1 + 1 + 1 + 1, 5, none⟩ = some (.int .u64 0) ∧ w'.cell? ⟨w.heap.size + 1 + 1 + 1 + 1, 6, none⟩ = some (.pointer none) ∧ w'.cell? ⟨w.heap.size + 1 + 1 + 1 + 1, 7, none⟩ = some (.int .u16 0) ∧ w'.cell? ⟨w.heap.size + 1 + 1 + 1 + 1, 8, none⟩ = some (.int .u16 0) ∧ w'.cell? ⟨w.heap.size + 1 + 1 + 1 + 1, 9, none⟩ = some (.bool false) ∧ w'.frozen? ⟨w.heap.size + 1 + 1 + 1 + 1, 0, none⟩ = false ∧ w'.frozen? ⟨w.heap.size + 1 + 1 + 1 + 1, 1, none⟩ = false ∧ w'.frozen? ⟨w.heap.size + 1 + 1 + 1 + 1, 2, none⟩ = false ∧ w'.frozen? ⟨w.heap.size + 1 + 1 + 1 + 1, 3, none⟩ = false ∧ w'.frozen? ⟨w.heap.size + 1 + 1 + 1 + 1, 4, none⟩ = false ∧ w'.frozen? ⟨w.heap.size + 1 + 1 + 1 + 1, 5, none⟩ = false ∧ w'.frozen? ⟨w.heap.size + 1 + 1 + 1 + 1, 6, none⟩ = false ∧ w'.frozen? ⟨w.heap.size + 1 + 1 + 1 + 1, 7, none⟩ = false ∧ w'.frozen? ⟨w.heap.size + 1 + 1 + 1 + 1, 8, none⟩ = false ∧ w'.frozen? ⟨w.heap.size + 1 + 1 + 1 + 1, 9, none⟩ = false := by
  refine ⟨?_, ?_, ?_, ?_, ?_, ?_, ?_, ?_, ?_, ?_, ?_, ?_, ?_, ?_, ?_, ?_, ?_, ?_, ?_, ?_⟩
  all_goals first | rw [hb.cell (by simp), K.1] | rw [hb.frozen (by simp), K.1]
  all_goals simp [go_sem]

set_option linter.unusedSimpArgs false in
set_option maxHeartbeats 2000000 in
/-- zzs0476ckey: the key with the given protocol, ports and flag, and two addresses. -/
theorem key_any (pr s1 s2 sp dp : Int) (a1 a2 b1 b2 : Nat → Int) (hp : Bool) (p4 p6 : Option Addr) (w : World) (hh : Hid (Handles p4 p6 w))
    (h1 : 0 ≤ s1 ∧ s1 ≤ 255) (h2 : 0 ≤ s2 ∧ s2 ≤ 255) :
    Calls Ybad.prog 5 #[.int .u8 pr, .int .u8 s1, .int .u8 s2, .agg #[.int .u8 (a1 0), .int .u8 (a1 1), .int .u8 (a1 2), .int .u8 (a1 3)], .agg #[.int .u8 (a2 0), .int .u8 (a2 1), .int .u8 (a2 2), .int .u8 (a2 3)], .agg #[.int .u8 (b1 0), .int .u8 (b1 1), .int .u8 (b1 2), .int .u8 (b1 3), .int .u8 (b1 4), .int .u8 (b1 5), .int .u8 (b1 6), .int .u8 (b1 7), .int .u8 (b1 8), .int .u8 (b1 9), .int .u8 (b1 10), .int .u8 (b1 11), .int .u8 (b1 12), .int .u8 (b1 13), .int .u8 (b1 14), .int .u8 (b1 15)], .agg #[.int .u8 (b2 0), .int .u8 (b2 1), .int .u8 (b2 2), .int .u8 (b2 3), .int .u8 (b2 4), .int .u8 (b2 5), .int .u8 (b2 6), .int .u8 (b2 7), .int .u8 (b2 8), .int .u8 (b2 9), .int .u8 (b2 10), .int .u8 (b2 11), .int .u8 (b2 12), .int .u8 (b2 13), .int .u8 (b2 14), .int .u8 (b2 15)], .int .u16 sp, .int .u16 dp, .bool hp] w fun e w' =>
      (∃ (x1 y1 x2 y2 : Int) (q1 q2 : Option Addr), e = .returned (.agg #[.int .u8 pr, .int .u64 x1, .int .u64 y1, .pointer q1, .int .u64 x2, .int .u64 y2, .pointer q2, .int .u16 sp, .int .u16 dp, .bool hp])) ∧ Below w.heap.size w w' := by
  have hI4 : (Ybad.prog.info? 22).map (·.size) = some 4 := by kernel_rfl
  have hI16 : (Ybad.prog.info? 23).map (·.size) = some 16 := by kernel_rfl
  go_enter Ybad.func5, Ybad.ntmps5
  go_wp2
  have K : ∃ W0, W0 = (((((w.alloc (.cells #[.int .u8 (a1 0), .int .u8 (a1 1), .int .u8 (a1 2), .int .u8 (a1 3)] 22)).alloc (.cells #[.int .u8 (a2 0), .int .u8 (a2 1), .int .u8 (a2 2), .int .u8 (a2 3)] 22)).alloc (.cells #[.int .u8 (b1 0), .int .u8 (b1 1), .int .u8 (b1 2), .int .u8 (b1 3), .int .u8 (b1 4), .int .u8 (b1 5), .int .u8 (b1 6), .int .u8 (b1 7), .int .u8 (b1 8), .int .u8 (b1 9), .int .u8 (b1 10), .int .u8 (b1 11), .int .u8 (b1 12), .int .u8 (b1 13), .int .u8 (b1 14), .int .u8 (b1 15)] 23)).alloc (.cells #[.int .u8 (b2 0), .int .u8 (b2 1), .int .u8 (b2 2), .int .u8 (b2 3), .int .u8 (b2 4), .int .u8 (b2 5), .int .u8 (b2 6), .int .u8 (b2 7), .int .u8 (b2 8), .int .u8 (b2 9), .int .u8 (b2 10), .int .u8 (b2 11), .int .u8 (b2 12), .int .u8 (b2 13), .int .u8 (b2 14), .int .u8 (b2 15)] 23)).alloc (.cells #[.int .u8 0, .int .u64 0, .int .u64 0, .pointer none, .int .u64 0, .int .u64 0, .pointer none, .int .u16 0, .int .u16 0, .bool false] 35)) ∧ KeyStart a1 a2 b1 b2 p4 p6 w W0 := ⟨_, rfl, rfl, ((((hh.out.alloc _).alloc _).alloc _).alloc _).alloc _⟩
  obtain ⟨W0, hW0, K⟩ := K
  rw [← hW0]
  clear hW0 hh
  refine wp_region_noPanic ?_
  refine wp_region_held_drew (S := fun w' => Below (w.heap.size + 4) W0 w') (by kernel_rfl) (Below.refl _ _).drew (fun hS => ?_)
  refine wpAnyH_take (i := 0) (v := .int .u8 pr) rfl (by kernel_rfl) (by kernel_rfl) (by kernel_rfl) (fun _ _ _ h => h) (Or.inl ⟨by rfl, fun w _ => by go_simp⟩) hS ?_
  simp only [Act.put, List.setIfInBounds_toArray, List.set_cons_zero, List.set_cons_succ]
  refine wpAnyH_take (i := 1) (v := .int .u8 s1) rfl (by kernel_rfl) (by kernel_rfl) (by kernel_rfl) (fun _ _ _ h => h) (Or.inl ⟨by rfl, fun w _ => by go_simp⟩) hS ?_
  simp only [Act.put, List.setIfInBounds_toArray, List.set_cons_zero, List.set_cons_succ]
  refine wpAnyH_take (i := 2) rfl (by kernel_rfl) (by kernel_rfl) (by kernel_rfl) (fun _ _ _ h => h) (yieldsIf_load_mid (by rfl) 22 _ rfl _ _ rfl _ _ (fun w hw => K.r1 hw) Ybad.underlying22 rfl hI4) hS ?_
  simp only [Act.put, List.setIfInBounds_toArray, List.set_cons_zero, List.set_cons_succ]
  refine wpAnyH_take (i := 3) rfl (by kernel_rfl) (by kernel_rfl) (by kernel_rfl) (fun _ _ _ h => h) (yieldsIf_load_mid (by rfl) 23 _ rfl _ _ rfl _ _ (fun w hw => K.r3 hw) Ybad.underlying23 rfl hI16) hS ?_
  simp only [Act.put, List.setIfInBounds_toArray, List.set_cons_zero, List.set_cons_succ]
  refine wpAnyH_take (i := 5) (v := .int .u8 s2) rfl (by kernel_rfl) (by kernel_rfl) (by kernel_rfl) (fun _ _ _ h => h) (Or.inl ⟨by rfl, fun w _ => by go_simp⟩) hS ?_
  simp only [Act.put, List.setIfInBounds_toArray, List.set_cons_zero, List.set_cons_succ]
  refine wpAnyH_take (i := 6) rfl (by kernel_rfl) (by kernel_rfl) (by kernel_rfl) (fun _ _ _ h => h) (yieldsIf_load_mid (by rfl) 22 _ rfl _ _ rfl _ _ (fun w hw => K.r2 hw) Ybad.underlying22 rfl hI4) hS ?_
  simp only [Act.put, List.setIfInBounds_toArray, List.set_cons_zero, List.set_cons_succ]
  refine wpAnyH_take (i := 7) rfl (by kernel_rfl) (by kernel_rfl) (by kernel_rfl) (fun _ _ _ h => h) (yieldsIf_load_mid (by rfl) 23 _ rfl _ _ rfl _ _ (fun w hw => K.r4 hw) Ybad.underlying23 rfl hI16) hS ?_
  simp only [Act.put, List.setIfInBounds_toArray, List.set_cons_zero, List.set_cons_succ]
  refine wpAnyH_take (i := 9) (v := .int .u16 sp) rfl (by kernel_rfl) (by kernel_rfl) (by kernel_rfl) (fun _ _ _ h => h) (Or.inl ⟨by rfl, fun w _ => by go_simp⟩) hS ?_
  simp only [Act.put, List.setIfInBounds_toArray, List.set_cons_zero, List.set_cons_succ]
  refine wpAnyH_take (i := 10) (v := .int .u16 dp) rfl (by kernel_rfl) (by kernel_rfl) (by kernel_rfl) (fun _ _ _ h => h) (Or.inl ⟨by rfl, fun w _ => by go_simp⟩) hS ?_
  simp only [Act.put, List.setIfInBounds_toArray, List.set_cons_zero, List.set_cons_succ]
  refine wpAnyH_take (i := 11) (v := .bool hp) rfl (by kernel_rfl) (by kernel_rfl) (by kernel_rfl) (fun _ _ _ h => h) (Or.inl ⟨by rfl, fun w _ => by go_simp⟩) hS ?_
  simp only [Act.put, List.setIfInBounds_toArray, List.set_cons_zero, List.set_cons_succ]
  refine wpAnyH_ready (rs := [4]) (by kernel_rfl) (by simp) ?_
  refine AllReadyH.cons rfl (fun K' hK => ?_) AllReadyH.nil
  go_simp
  refine (addr_any s1 a1 b1 p4 p6 _ ?_ h1.1 h1.2).mono ?_
  · exact K.handles (Below.refl _ _).drew
  rintro e w1 ⟨⟨x1, y1, q1, rfl⟩, hb⟩
  have hB : Hid (Below (w.heap.size + 5) W0 w1) := (Below.refl _ _).drew.trans (hb.mono (by rw [← K.size]; exact Nat.le_refl _))
  clear hb
  refine hK.out _ _ (hB.out.mono (by omega)) (fun hS1 => ?_)
  clear hK K' hS
  refine wpAnyH_ready (rs := [8]) (by kernel_rfl) (by simp) ?_
  refine AllReadyH.cons rfl (fun K' hK => ?_) AllReadyH.nil
  go_simp
  refine (addr_any s2 a2 b2 p4 p6 _ ?_ h2.1 h2.2).mono ?_
  · exact K.handles hB.out
  rintro e w2 ⟨⟨x2, y2, q2, rfl⟩, hb⟩
  have hB2 : Hid (Below (w.heap.size + 5) W0 w2) := hB.out.trans (hb.mono (by rw [← K.size]; exact hB.out.size))
  clear hb
  refine hK.out _ _ (hB2.out.mono (by omega)) (fun hS => ?_)
  clear hK K' hS1 hB
  refine wpAnyH_take (i := 12) (v := .agg #[.int .u8 pr, .int .u64 x1, .int .u64 y1, .pointer q1, .int .u64 x2, .int .u64 y2, .pointer q2, .int .u16 sp, .int .u16 dp, .bool hp]) rfl (by kernel_rfl) (by kernel_rfl) (by kernel_rfl) (fun _ _ _ h => h) (Or.inl ⟨by rfl, fun w _ => by go_simp⟩) hS ?_
  simp only [Act.put, List.setIfInBounds_toArray, List.set_cons_zero, List.set_cons_succ]
  refine wpAnyH_ready (rs := [13]) (by kernel_rfl) (by simp) ?_
  refine AllReadyH.cons rfl (fun K' hK => ?_) AllReadyH.nil
  obtain ⟨k0, k1, k2, k3, k4, k5, k6, k7, k8, k9, f0, f1, f2, f3, f4, f5, f6, f7, f8, f9⟩ := K.room hB2.out
  go_simp
  have hfin : Hid (Below (w.heap.size + 4) W0 ((((((((((w2.setCell ⟨w.heap.size + 1 + 1 + 1 + 1, 0, none⟩ (.int .u8 pr)).setCell ⟨w.heap.size + 1 + 1 + 1 + 1, 1, none⟩ (.int .u64 x1)).setCell ⟨w.heap.size + 1 + 1 + 1 + 1, 2, none⟩ (.int .u64 y1)).setCell ⟨w.heap.size + 1 + 1 + 1 + 1, 3, none⟩ (.pointer q1)).setCell ⟨w.heap.size + 1 + 1 + 1 + 1, 4, none⟩ (.int .u64 x2)).setCell ⟨w.heap.size + 1 + 1 + 1 + 1, 5, none⟩ (.int .u64 y2)).setCell ⟨w.heap.size + 1 + 1 + 1 + 1, 6, none⟩ (.pointer q2)).setCell ⟨w.heap.size + 1 + 1 + 1 + 1, 7, none⟩ (.int .u16 sp)).setCell ⟨w.heap.size + 1 + 1 + 1 + 1, 8, none⟩ (.int .u16 dp)).setCell ⟨w.heap.size + 1 + 1 + 1 + 1, 9, none⟩ (.bool hp))) := by
    iterate 10 refine Below.setCell ?_ (by simp) _
    exact hB2.out.mono (by omega)
  refine hK.out _ _ hfin.out (fun _ => ?_)
  have hend : Hid (Below w.heap.size w ((((((((((w2.setCell ⟨w.heap.size + 1 + 1 + 1 + 1, 0, none⟩ (.int .u8 pr)).setCell ⟨w.heap.size + 1 + 1 + 1 + 1, 1, none⟩ (.int .u64 x1)).setCell ⟨w.heap.size + 1 + 1 + 1 + 1, 2, none⟩ (.int .u64 y1)).setCell ⟨w.heap.size + 1 + 1 + 1 + 1, 3, none⟩ (.pointer q1)).setCell ⟨w.heap.size + 1 + 1 + 1 + 1, 4, none⟩ (.int .u64 x2)).setCell ⟨w.heap.size + 1 + 1 + 1 + 1, 5, none⟩ (.int .u64 y2)).setCell ⟨w.heap.size + 1 + 1 + 1 + 1, 6, none⟩ (.pointer q2)).setCell ⟨w.heap.size + 1 + 1 + 1 + 1, 7, none⟩ (.int .u16 sp)).setCell ⟨w.heap.size + 1 + 1 + 1 + 1, 8, none⟩ (.int .u16 dp)).setCell ⟨w.heap.size + 1 + 1 + 1 + 1, 9, none⟩ (.bool hp))) := K.below.trans (hfin.out.mono (by omega))
  clear hK K' hfin hB2 hS K
  refine wpAnyH_done (by kernel_rfl) ?_ _
  refine NoPanic.normal ?_
  go_wp2
  exact bodyPost_ret (v := .agg #[.int .u8 pr, .int .u64 x1, .int .u64 y1, .pointer q1, .int .u64 x2, .int .u64 y2, .pointer q2, .int .u16 sp, .int .u16 dp, .bool hp]) (by simp [results, Ybad.results5, go_sem, k0, k1, k2, k3, k4, k5, k6, k7, k8, k9]) rfl ⟨⟨_, _, _, _, _, _, rfl⟩, hend.out⟩
end Go.Proofs.YbulkiviDoor.Walks
