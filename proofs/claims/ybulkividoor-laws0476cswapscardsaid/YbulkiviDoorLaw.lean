/-
  THE WALK of the law over the program 'ybulkividoor'.
-/
import Derived.Test.YbulkiviDoorRows
import Derived.Test.YbulkiviDoorKey
import Derived.WalkKit
import Derived.WalkSpells
import Derived.ProofKit
import Derived.LaidEql
import Derived.Laws.StructEq
import Derived.Deep.QuietTactic
import Derived.Deep.RegionWith
import Derived.Deep.RegionHeld3
import Derived.BigQuiet
namespace Go.Proofs.YbulkiviDoor.Walks
open Go.ChangeShapes Go.WideShapes Go.ChangeAt Go.RowKit

theorem bcell {W w1 : World} (hb : Below W.heap.size W w1) : (∀ b o, b < W.heap.size → w1.cell? ⟨b, o, none⟩ = W.cell? ⟨b, o, none⟩) ∧ (∀ b o, b < W.heap.size → w1.frozen? ⟨b, o, none⟩ = W.frozen? ⟨b, o, none⟩) :=
  ⟨fun b o h => hb.cell (p := ⟨b, o, none⟩) h, fun b o h => hb.frozen (p := ⟨b, o, none⟩) h⟩

theorem eq_ptr (d : Nat) (q : Option Addr) (w : World) : (Op.equalIn (d + 1) 29 (.pointer q) (.pointer q)).run Ybad.prog w = .ok true w := by
  have hz : (Ybad.prog.info? 63).map (·.size) = some 2 := by kernel_rfl
  obtain ⟨te, hte, _⟩ := Option.map_eq_some_iff.1 hz
  cases q with
  | none => simp [Op.equalIn, run_underlying Ybad.underlying29]
  | some a => simp [Op.equalIn, run_underlying Ybad.underlying29, sizeOf, typeInfo, hte, run_sameAddr_same]

theorem eql_addr (x y : Int) (q : Option Addr) (w : World) : (binOp .eql 33 (.agg #[.int .u64 x, .int .u64 y, .pointer q]) (.agg #[.int .u64 x, .int .u64 y, .pointer q])).run Ybad.prog w = .ok (.bool true) w := by
  rw [run_eql_struct]
  simp [go_sem, eq_ptr]

set_option maxHeartbeats 2000000 in
/-- The law. -/
theorem swaps (pr s1 s2 sp dp : Int) (a1 a2 b1 b2 : Nat → Int) (hp : Bool) (p4 p6 : Option Addr) (w : World) (hh : Hid (Handles p4 p6 w))
    (h1 : 0 ≤ s1 ∧ s1 ≤ 255) (h2 : 0 ≤ s2 ∧ s2 ≤ 255) :
    Calls Ybad.prog 3 #[.int .u8 pr, .int .u8 s1, .int .u8 s2, .agg #[.int .u8 (a1 0), .int .u8 (a1 1), .int .u8 (a1 2), .int .u8 (a1 3)], .agg #[.int .u8 (a2 0), .int .u8 (a2 1), .int .u8 (a2 2), .int .u8 (a2 3)], .agg #[.int .u8 (b1 0), .int .u8 (b1 1), .int .u8 (b1 2), .int .u8 (b1 3), .int .u8 (b1 4), .int .u8 (b1 5), .int .u8 (b1 6), .int .u8 (b1 7), .int .u8 (b1 8), .int .u8 (b1 9), .int .u8 (b1 10), .int .u8 (b1 11), .int .u8 (b1 12), .int .u8 (b1 13), .int .u8 (b1 14), .int .u8 (b1 15)], .agg #[.int .u8 (b2 0), .int .u8 (b2 1), .int .u8 (b2 2), .int .u8 (b2 3), .int .u8 (b2 4), .int .u8 (b2 5), .int .u8 (b2 6), .int .u8 (b2 7), .int .u8 (b2 8), .int .u8 (b2 9), .int .u8 (b2 10), .int .u8 (b2 11), .int .u8 (b2 12), .int .u8 (b2 13), .int .u8 (b2 14), .int .u8 (b2 15)], .int .u16 sp, .int .u16 dp, .bool hp] w fun e w' =>
      e = .returned (.bool true) ∧ Below w.heap.size w w' := by
  go_enter Ybad.func3, Ybad.ntmps3
  go_wp2_with fail
  refine (key_any pr s1 s2 sp dp a1 a2 b1 b2 hp p4 p6 _ ?_ h1 h2).mono ?_
  · exact (((hh.out.alloc _).alloc _).alloc _).alloc _
  rintro e w1 ⟨⟨x1, y1, x2, y2, q1, q2, rfl⟩, hb⟩
  have HB : Hid (Below w.heap.size w w1) := (((((Below.refl _ w).alloc (Nat.le_refl _) _).alloc (by simp) _).alloc (by simp; omega) _).alloc (by simp; omega) _).trans (hb.mono (by simp; omega))
  clear hb
  go_wp2_with fail
  refine (reverse pr x1 y1 x2 y2 sp dp q1 q2 hp _).mono ?_
  rintro e w2 ⟨rfl, hb⟩
  have HB2 : Hid (Below w.heap.size w w2) := (((HB.out.alloc HB.out.size _).alloc (by have := HB.out.size; simp; omega) _).alloc (by have := HB.out.size; simp; omega) _).trans (hb.mono (by have := HB.out.size; simp; omega))
  obtain ⟨hc, hf⟩ := bcell hb
  have hz : w1.heap.size + 1 + 1 < w2.heap.size := by have := hb.size; simp at this; omega
  have hz1 : w1.heap.size + 1 < w2.heap.size := by omega
  have hz0 : w1.heap.size < w2.heap.size := by omega
  simp only [World.size_alloc] at hc hf
  clear hb
  have he : ∀ (q : Option Addr) (w : World), (Op.equalIn 9998 29 (.pointer q) (.pointer q)).run Ybad.prog w = .ok true w := fun q w => eq_ptr 9997 q w
  have hg : Ybad.prog.eqGuardType Ybad.prog.depth 33 = false := by kernel_rfl
  go_wp2
  go_ret
  exact ⟨rfl, HB2.out.alloc HB2.out.size _⟩
end Go.Proofs.YbulkiviDoor.Walks
