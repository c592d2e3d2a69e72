/-
  THE PROOF OF 'Rows.LawS0476CSwapsCardSaid': the row ('over'), then the card by the builder's one call over the given tie.
-/
import Derived.Test.YbulkiviDoorRows
import Derived.Test.YbulkiviDoorTie
import Derived.Test.YbulkiviDoorCards
import Derived.Test.YbulkiviDoorLaw
import Derived.ProofKit
import Derived.LaidLaws
import Derived.LaidHandle
import Derived.OpenShut
import Derived.Stop.Joined
import Derived.SevenTiedAt
namespace Go.Proofs.YbulkiviDoor.lawS0476CSwaps
open Go.ChangeShapes Go.WideShapes Go.ChangeAt Go.RowKit

theorem own : ownKnob Ybad.prog.godebug = none := by kernel_rfl
theorem laidOut : laidOutB Ybad.prog = true := by kernel_rfl
theorem gz4 : Ybad.prog.globalNamed (Rows.lawS0476CSwapsRow.named.getD 0 "") = some 0 := by kernel_rfl
theorem gz6 : Ybad.prog.globalNamed (Rows.lawS0476CSwapsRow.named.getD 1 "") = some 1 := by kernel_rfl
theorem tz4 : (Ybad.prog.globals[0]?).map (·.type) = some 31 := by kernel_rfl
theorem tz6 : (Ybad.prog.globals[1]?).map (·.type) = some 31 := by kernel_rfl
theorem cells29 : Ybad.prog.cellsOf 29 = 1 := by kernel_rfl
theorem cells31 : Ybad.prog.cellsOf 31 = 1 := by kernel_rfl
theorem cells5 : Ybad.prog.cellsOf 5 = 1 := by kernel_rfl
theorem cells22 : Ybad.prog.cellsOf 22 = 4 := by kernel_rfl
theorem cells23 : Ybad.prog.cellsOf 23 = 16 := by kernel_rfl

/-- A start that meets the condition: two new blocks, the two details; each variable's cell points to its own. (The door's own heap does not serve as the witness: 'unique.Make' keeps its table in a block that stands at every start.) -/
def laidIn (w0 : World) : World :=
  { w0 with heap := (((w0.heap.push (.cells #[.bool false, .string ⟨#[]⟩] 63)).push (.cells #[.bool true, .string ⟨#[]⟩] 63)).modify 0 fun
      | .cells _ t fz => .cells #[.pointer (some ⟨w0.heap.size, 0, none⟩)] t fz
      | o => o).modify 1 fun
      | .cells _ t fz => .cells #[.pointer (some ⟨w0.heap.size + 1, 0, none⟩)] t fz
      | o => o }
theorem laid_met (os : Os) (args : Array Value) : laidMetH Ybad.prog Rows.lawS0476CSwapsRow.laid ((laidIn (World.holding Ybad.prog os ⟨#[], #[], []⟩)).forCall (fun _ _ => 0) ⟨#[], args, []⟩).memory :=
  laidMetH_of_parts3 (fuel := 8) (laidMet_of_run' 8 (by kernel_rfl) (by kernel_rfl)) (by kernel_rfl) (by kernel_rfl)

/-- A variable of the handle's type holds one cell: a pointer. -/
theorem handle_cell {H : Type} {enc : TypeId × Value → H} {W : World} {base : Nat} {sp : Nat → Bool} {held : Bool} {fuel : Nat} {cs : Array Value} {x : DataW H × List MemPlace}
    (h : DataW.trod enc Ybad.prog W base sp held fuel 31 cs.toList = some x) : ∃ p : Option Addr, cs[0]? = some (.pointer p) := by
  obtain ⟨y0, n, _, hl, hf⟩ := trod_struct1 Ybad.underlying31 h
  rcases DataW.trod_pointer Ybad.underlying29 hf with ⟨e, _⟩ | ⟨a, _, _, _, _, e, _, _, _⟩
  all_goals
    have e2 := congrArg (fun l : List Value => l[0]?) e
    rw [cells29] at e2
    simp at e2
    exact ⟨_, e2⟩

/-- WHAT THE CONDITION GIVES THE WALKS. -/
theorem of_laid {W : World} (h : laidMetH Ybad.prog Rows.lawS0476CSwapsRow.laid W) : ∃ p4 p6, Hid (Walks.Handles p4 p6 W) := by
  rw [MakeChecks.laidMetH_plain _ _ _ (by kernel_rfl)] at h
  obtain ⟨ps, ⟨g0, t0, cs0, f0, p0, q0, hg0, ht0, hv0, hd0, ⟨g1, t1, cs1, f1, p1, q1, hg1, ht1, hv1, hd1, _, _⟩, _⟩, _, _⟩ := h
  obtain rfl := Option.some.inj (gz4.symm.trans hg0)
  obtain rfl := Option.some.inj (gz6.symm.trans hg1)
  obtain rfl := Option.some.inj (tz4.symm.trans ht0)
  obtain rfl := Option.some.inj (tz6.symm.trans ht1)
  obtain ⟨p4, e4⟩ := handle_cell hd0
  obtain ⟨p6, e6⟩ := handle_cell hd1
  have c0 := (World.var?_cell hg0 hv0 0).trans e4
  have c1 := (World.var?_cell hg1 hv1 0).trans e6
  refine ⟨p4, p6, c0, c1, ?_⟩
  rcases Nat.lt_or_ge 1 W.heap.size with h' | h'
  · exact h'
  · simp [World.cell?, Array.getElem?_eq_none h'] at c1

theorem open_row {H : Type} {enc : TypeId × Value → H} {W : World} {r : Reach} {b0 base n : Nat} {sp : Nat → Bool} {held : Bool} {t : TypeId} {v : Value} {d : DataW H} {p : List MemPlace}
    (hu : Ybad.prog.underlying t = some (.array n 5)) (hC : Ybad.prog.cellsOf t = n) (hv : Value.okWide Ybad.prog W r b0 t v) (h : DataW.Trod enc Ybad.prog W base sp held t v d p) :
    ∃ (cs : Array Value) (b : Nat → Int), v = .agg cs ∧ cs.size = n ∧ ∀ i, i < n → cs[i]? = some (.int .u8 (b i)) := by
  simp only [Value.okWide, hu] at hv
  obtain ⟨cs, rfl, hsz, _⟩ := hv
  obtain ⟨fuel, hf⟩ := h
  obtain ⟨xs, m, rfl, hx, hl, hn, hel⟩ := DataW.trod_array hu hf
  refine ⟨cs, fun i => intOf (cs.getD i undef), rfl, hsz.trans hC, fun i hi => ?_⟩
  have hi' := hel i hi
  rw [cells5, List.getElem?_eq_getElem (by omega)] at hi'
  obtain ⟨k, e1, _, _⟩ := DataW.trod_int Ybad.underlying5 hi'
  have e2 := congrArg (fun l : List Value => l[0]?) e1
  simp [Value.cells] at e2
  have e3 : cs.getD i undef = .int .u8 k := by rw [Array.getD_eq_getD_getElem?, e2]; rfl
  show cs[i]? = some (.int .u8 (intOf (cs.getD i undef)))
  rw [e2, e3]
  rfl

theorem open_row4 {H : Type} {enc : TypeId × Value → H} {W : World} {r : Reach} {b0 base : Nat} {sp : Nat → Bool} {held : Bool} {v : Value} {d : DataW H} {p : List MemPlace}
    (hv : Value.okWide Ybad.prog W r b0 22 v) (h : DataW.Trod enc Ybad.prog W base sp held 22 v d p) : ∃ b : Nat → Int, v = .agg #[.int .u8 (b 0), .int .u8 (b 1), .int .u8 (b 2), .int .u8 (b 3)] := by
  obtain ⟨cs, b, rfl, hsz, hc⟩ := open_row Ybad.underlying22 cells22 hv h
  refine ⟨b, congrArg Value.agg (Array.ext_getElem? fun i => ?_)⟩
  by_cases hi : i < 4
  · rw [hc i hi, Walks.cells4 b i hi]
  · rw [Array.getElem?_eq_none (by omega), Array.getElem?_eq_none (by simp; omega)]

theorem open_row16 {H : Type} {enc : TypeId × Value → H} {W : World} {r : Reach} {b0 base : Nat} {sp : Nat → Bool} {held : Bool} {v : Value} {d : DataW H} {p : List MemPlace}
    (hv : Value.okWide Ybad.prog W r b0 23 v) (h : DataW.Trod enc Ybad.prog W base sp held 23 v d p) : ∃ b : Nat → Int, v = .agg #[.int .u8 (b 0), .int .u8 (b 1), .int .u8 (b 2), .int .u8 (b 3), .int .u8 (b 4), .int .u8 (b 5), .int .u8 (b 6), .int .u8 (b 7), .int .u8 (b 8), .int .u8 (b 9), .int .u8 (b 10), .int .u8 (b 11), .int .u8 (b 12), .int .u8 (b 13), .int .u8 (b 14), .int .u8 (b 15)] := by
  obtain ⟨cs, b, rfl, hsz, hc⟩ := open_row Ybad.underlying23 cells23 hv h
  refine ⟨b, congrArg Value.agg (Array.ext_getElem? fun i => ?_)⟩
  by_cases hi : i < 16
  · rw [hc i hi, Walks.cells16 b i hi]
  · rw [Array.getElem?_eq_none (by omega), Array.getElem?_eq_none (by simp; omega)]

set_option maxRecDepth 100000 in
theorem lifted (os : Os) (started : os.Started) (H : Type) (enc : TypeId × Value → H) :
    ReturnsInHanded {} Ybad.checked os 3 .any (fun w args => (Rows.lawS0476CSwapsSpec.pre enc Ybad.prog Ybad.f3 [] false w args ∧ laidMetH Ybad.prog Rows.lawS0476CSwapsRow.laid w) ∧ sizedMet enc Ybad.prog Ybad.f3 (OpenSpec.ofChange Rows.lawS0476CSwapsSpec) false w args)
      (Rows.lawS0476CSwapsSpec.post enc Ybad.prog Ybad.f3 false true false false) := by
  refine returnsInHanded_of_change_and (C := Ybad.checked) (X := fun w _ => laidMetH Ybad.prog Rows.lawS0476CSwapsRow.laid w) (fun _ _ _ hh h => h.of_heap hh) own started (by kernel_rfl) Ybad.func3
    (ChangeSpec.witness_shaped (enc := enc) (C := Ybad.checked) (os := os) (X := fun w _ => laidMetH Ybad.prog Rows.lawS0476CSwapsRow.laid w) false (laidIn (World.holding Ybad.prog os ⟨#[], #[], []⟩)) #[.int .u8 0, .int .u8 0, .int .u8 0, .agg #[.int .u8 0, .int .u8 0, .int .u8 0, .int .u8 0], .agg #[.int .u8 0, .int .u8 0, .int .u8 0, .int .u8 0], .agg #[.int .u8 0, .int .u8 0, .int .u8 0, .int .u8 0, .int .u8 0, .int .u8 0, .int .u8 0, .int .u8 0, .int .u8 0, .int .u8 0, .int .u8 0, .int .u8 0, .int .u8 0, .int .u8 0, .int .u8 0, .int .u8 0], .agg #[.int .u8 0, .int .u8 0, .int .u8 0, .int .u8 0, .int .u8 0, .int .u8 0, .int .u8 0, .int .u8 0, .int .u8 0, .int .u8 0, .int .u8 0, .int .u8 0, .int .u8 0, .int .u8 0, .int .u8 0, .int .u8 0], .int .u16 0, .int .u16 0, .bool false] 8 rfl (World.shaped_of_RefB (by kernel_rfl) (by kernel_rfl)) (by kernel_rfl) (by kernel_rfl) (by kernel_rfl) (laid_met os _)) ?_
  intro W base args ds gs before hval0 hW _ _ hL _
  have hval : ∀ (j : Nat) t v, Ybad.f3.params[j]? = some t → args[j]? = some v → Value.okWide Ybad.prog W .any base t v := hval0
  have hW' := hW
  obtain ⟨p, q, hA0, hV, rfl, hfz, hnd⟩ := hW
  have hA : DataW.TrodAll enc Ybad.prog W 0 (fun _ => true) true Ybad.f3.params.toList args.toList ds p := hA0
  rw [Ybad.params3] at hA hval
  obtain ⟨v0, vs0, d0, ds0, p0, q0, hargs, rfl, rfl, h0, r0⟩ := trodAll_cons hA
  obtain ⟨v1, vs1, d1, ds1, p1, q1, rfl, rfl, rfl, h1, r1⟩ := trodAll_cons r0
  obtain ⟨v2, vs2, d2, ds2, p2, q2, rfl, rfl, rfl, h2, r2⟩ := trodAll_cons r1
  obtain ⟨v3, vs3, d3, ds3, p3, q3, rfl, rfl, rfl, h3, r3⟩ := trodAll_cons r2
  obtain ⟨v4, vs4, d4, ds4, p4, q4, rfl, rfl, rfl, h4, r4⟩ := trodAll_cons r3
  obtain ⟨v5, vs5, d5, ds5, p5, q5, rfl, rfl, rfl, h5, r5⟩ := trodAll_cons r4
  obtain ⟨v6, vs6, d6, ds6, p6, q6, rfl, rfl, rfl, h6, r6⟩ := trodAll_cons r5
  obtain ⟨v7, vs7, d7, ds7, p7, q7, rfl, rfl, rfl, h7, r7⟩ := trodAll_cons r6
  obtain ⟨v8, vs8, d8, ds8, p8, q8, rfl, rfl, rfl, h8, r8⟩ := trodAll_cons r7
  obtain ⟨v9, vs9, d9, ds9, p9, q9, rfl, rfl, rfl, h9, r9⟩ := trodAll_cons r8
  obtain ⟨rfl, rfl, rfl⟩ := trodAll_nil r9
  obtain rfl : args = #[v0, v1, v2, v3, v4, v5, v6, v7, v8, v9] := by cases args; simp_all
  obtain ⟨rfl, rfl⟩ := trodVars_none hV
  obtain ⟨a0, rfl, rfl, rfl, w0⟩ := open_int Ybad.underlying5 (hval 0 5 v0 rfl rfl) h0
  obtain ⟨a1, rfl, rfl, rfl, w1⟩ := open_int Ybad.underlying5 (hval 1 5 v1 rfl rfl) h1
  obtain ⟨a2, rfl, rfl, rfl, w2⟩ := open_int Ybad.underlying5 (hval 2 5 v2 rfl rfl) h2
  have k3 := h3
  have lt3 : ∀ x ∈ p3, x.block < W.heap.size := by obtain ⟨m, hm⟩ := k3; exact DataW.trod_lt m _ _ _ hm
  obtain ⟨a3, rfl⟩ := open_row4 (hval 3 22 v3 rfl rfl) h3
  have k4 := h4
  have lt4 : ∀ x ∈ p4, x.block < W.heap.size := by obtain ⟨m, hm⟩ := k4; exact DataW.trod_lt m _ _ _ hm
  obtain ⟨a4, rfl⟩ := open_row4 (hval 4 22 v4 rfl rfl) h4
  have k5 := h5
  have lt5 : ∀ x ∈ p5, x.block < W.heap.size := by obtain ⟨m, hm⟩ := k5; exact DataW.trod_lt m _ _ _ hm
  obtain ⟨a5, rfl⟩ := open_row16 (hval 5 23 v5 rfl rfl) h5
  have k6 := h6
  have lt6 : ∀ x ∈ p6, x.block < W.heap.size := by obtain ⟨m, hm⟩ := k6; exact DataW.trod_lt m _ _ _ hm
  obtain ⟨a6, rfl⟩ := open_row16 (hval 6 23 v6 rfl rfl) h6
  obtain ⟨a7, rfl, rfl, rfl, w7⟩ := open_int Ybad.underlying24 (hval 7 24 v7 rfl rfl) h7
  obtain ⟨a8, rfl, rfl, rfl, w8⟩ := open_int Ybad.underlying24 (hval 8 24 v8 rfl rfl) h8
  obtain ⟨a9, rfl, rfl, rfl⟩ := open_bool Ybad.underlying4 (hval 9 4 v9 rfl rfl) h9
  obtain ⟨x4, x6, hh⟩ := of_laid hL
  clear hA0 hval0
  refine (Walks.swaps a0 a1 a2 a7 a8 a3 a4 a5 a6 a9 x4 x6 W hh (bounds_u8 w1) (bounds_u8 w2)).mono fun e W' ⟨he, bel⟩ => ?_
  subst he
  exact ⟨_, rfl, _, _, _, [], _, [], hW', trodAll_mk1 (shut_bool Ybad.underlying4 _), (trodAll_cons_mk (shut_int Ybad.underlying5 w0) (trodAll_cons_mk (shut_int Ybad.underlying5 w1) (trodAll_cons_mk (shut_int Ybad.underlying5 w2) (trodAll_cons_mk (Below.trod laidOut (by kernel_rfl) (of_decide_eq_true (by kernel_rfl)) k3 bel lt3) (trodAll_cons_mk (Below.trod laidOut (by kernel_rfl) (of_decide_eq_true (by kernel_rfl)) k4 bel lt4) (trodAll_cons_mk (Below.trod laidOut (by kernel_rfl) (of_decide_eq_true (by kernel_rfl)) k5 bel lt5) (trodAll_cons_mk (Below.trod laidOut (by kernel_rfl) (of_decide_eq_true (by kernel_rfl)) k6 bel lt6) (trodAll_cons_mk (shut_int Ybad.underlying24 w7) (trodAll_cons_mk (shut_int Ybad.underlying24 w8) (trodAll_cons_mk (shut_bool Ybad.underlying4 _) trodAll_mk0)))))))))), rfl, bel.frame _, fun h => by cases h⟩

theorem over : Rows.LawS0476CSwapsSaid :=
  OpenClaim.holds_of_wide 3 Ybad.f3 rfl rfl rfl rfl rfl rfl rfl ⟨rfl, rfl, rfl, rfl, rfl⟩ rfl rfl rfl rfl rfl (by kernel_rfl) Ybad.func3 (by kernel_rfl)
    (of_decide_eq_true (by kernel_rfl)) (by unfold Func.isWrapper; first | (rw [if_pos (by decide +kernel)]; kernel_rfl) | (rw [if_neg (by decide +kernel)]; exact ⟨rfl, rfl⟩))
    (fun os started H enc _ => lifted os started H enc)

/-- ████ THE STATEMENT: THE TIED CARD ████ -/
theorem proved : Rows.LawS0476CSwapsCardSaid :=
  Claim7.holds_tied_plain_at .later [] [.called, .called] true Rows.lawS0476CSwapsCard.stood.harness false
    over (fun _ h => by cases h) (by kernel_rfl) (fun _ h => by cases h) lawS0476CSwaps_row_tie rfl ⟨rfl, rfl⟩ (by kernel_rfl) rfl
    (fun f fn hf hfn => by
      obtain rfl : f = 3 := Option.some.inj ((show Ybad.prog.funcNamed Rows.lawS0476CSwapsRow.func = some 3 by kernel_rfl).symm.trans hf) |>.symm
      obtain rfl : fn = Ybad.f3 := (Option.some.inj (Ybad.func3.symm.trans hfn)).symm
      exact ⟨by kernel_rfl, fun j t ht => by
        rw [Ybad.params3] at ht
        have hm : t ∈ [5, 22, 23, 24, 4] := by
          have := Array.mem_of_getElem? ht
          simp at this
          simp
          omega
        have hall : ([5, 22, 23, 24, 4].all fun u => !Ybad.prog.wantsStandIn u) = true := by kernel_rfl
        exact (show Ybad.prog.wantsStandIn t = false by simpa using List.all_eq_true.1 hall t hm)⟩)
    (by kernel_rfl)
#print axioms proved
end Go.Proofs.YbulkiviDoor.lawS0476CSwaps
