/- Proved: the given statement Rows.FnSquaresJoinedCardSaid: the function FnSquaresJoined of the package laws answers true for every input, and its arguments read afterwards as before. Conditions: those that the given row and card bear (the listed package-level variables read as listed; the card ties them to the pruned copy of the project), and no others. -/
import Derived.Lay
import Derived.LaidOnce
import Derived.SevenTiedAt
import Derived.ProofKit
import Derived.Test.YtoebgbojpkflnaaGreatDoorJClosedThree
import Derived.Test.YtoebgbojpkflnaaGreatDoorJLawThree
import Derived.Test.YtoebgbojpkflnaaGreatDoorJLaidA
namespace Go.Proofs.YtoebgbojpkflnaaGreatDoor
open Go Go.RowKit
open Go.ChangeShapes Go.WideShapes Go.ChangeAt
theorem cells3 : Tryz.prog.cellsOf 3 = 1 := by kernel_rfl
theorem laidOutT : laidOutB Tryz.prog = true := by kernel_rfl
set_option maxRecDepth 100000 in
theorem liftedThree (os : Os) (started : os.Started) (H : Type) (enc : TypeId × Value → H) :
    ReturnsInHanded {} Tryz.checked os 3 .any (fun w args => (Rows.fnSquaresJoinedSpec.pre enc Tryz.prog Tryz.f3 [] false w args ∧ laidMetH Tryz.prog laidA w) ∧ sizedMet enc Tryz.prog Tryz.f3 (OpenSpec.ofChange Rows.fnSquaresJoinedSpec) false w args)
      (Rows.fnSquaresJoinedSpec.post enc Tryz.prog Tryz.f3 false true false false) := by
  refine returnsInHanded_of_change_and (C := Tryz.checked) (X := fun w _ => laidMetH Tryz.prog laidA w) (fun _ _ _ hh h => h.of_heap hh) Tryz.own started (by kernel_rfl) Tryz.func3
    (ChangeSpec.witness_shaped (enc := enc) (C := Tryz.checked) (os := os) (X := fun w _ => laidMetH Tryz.prog laidA w) false (World.laidAll Tryz.prog os laidA) #[.slice none 0 0, .slice none 0 0] 8 (World.laidAll_os _ _ _)
      (World.shaped_of_ZipB (by kernel_rfl) (by kernel_rfl)) (by kernel_rfl) (by kernel_rfl) (by kernel_rfl)
      (by rw [MakeChecks.laidMetH_plain _ _ _ (by kernel_rfl)]; exact laidMet_laidAll _ (fitsA os) (ifacesA os))) ?_
  intro W base args ds gs before hval0 hW _ _ hL _
  have hval : ∀ (j : Nat) t v, Tryz.f3.params[j]? = some t → args[j]? = some v → Value.okWide Tryz.prog W .any base t v := hval0
  have hW' := hW
  obtain ⟨p, q, hA0, hV, rfl, _, _⟩ := hW
  have hA : DataW.TrodAll enc Tryz.prog W 0 (fun _ => true) true Tryz.f3.params.toList args.toList ds p := hA0
  rw [Tryz.params3] at hA hval
  obtain ⟨v0, v1, d0, d1, p0, p1, rfl, rfl, rfl, h0, h1⟩ := trodAll_two hA
  obtain ⟨rfl, rfl⟩ := trodVars_none hV
  obtain ⟨a0, len0, cap0, rfl⟩ := okWide_slice Tryz.underlying22 (hval 0 22 v0 rfl rfl)
  obtain ⟨a1, len1, cap1, rfl⟩ := okWide_slice Tryz.underlying22 (hval 1 22 v1 rfl rfl)
  simp only [List.append_nil] at hW'
  have hlt : ∀ x ∈ p0 ++ p1, x.block < W.heap.size := fun x hx => by simpa using hW'.lt x hx
  have hc0 : ∃ f : Nat → Int, ∀ i, i < len0 → ∃ a, a0 = some a ∧ W.cell? (a.add i) = some (.int .i64 (f i)) := by
    obtain ⟨fuel, hf⟩ := h0
    rcases open_ints Tryz.underlying22 Tryz.underlying3 cells3 hf with ⟨hcs, _⟩ | ⟨a, len', cap', zs, hcs, _, hl, _, hz, _, hcell, _⟩
    · simp [Value.cells] at hcs
      obtain ⟨rfl, rfl, rfl⟩ := hcs
      exact ⟨fun _ => 0, fun i hi => by omega⟩
    · simp [Value.cells] at hcs
      obtain ⟨rfl, rfl, rfl⟩ := hcs
      simp only [if_true] at hz
      exact ⟨fun i => zs.getD i 0, fun i hi => ⟨a, rfl, hcell i (by omega)⟩⟩
  have hc1 : ∃ f : Nat → Int, ∀ i, i < len1 → ∃ a, a1 = some a ∧ W.cell? (a.add i) = some (.int .i64 (f i)) := by
    obtain ⟨fuel, hf⟩ := h1
    rcases open_ints Tryz.underlying22 Tryz.underlying3 cells3 hf with ⟨hcs, _⟩ | ⟨a, len', cap', zs, hcs, _, hl, _, hz, _, hcell, _⟩
    · simp [Value.cells] at hcs
      obtain ⟨rfl, rfl, rfl⟩ := hcs
      exact ⟨fun _ => 0, fun i hi => by omega⟩
    · simp [Value.cells] at hcs
      obtain ⟨rfl, rfl, rfl⟩ := hcs
      simp only [if_true] at hz
      exact ⟨fun i => zs.getD i 0, fun i hi => ⟨a, rfl, hcell i (by omega)⟩⟩
  obtain ⟨f0, hf0⟩ := hc0
  obtain ⟨f1, hf1⟩ := hc1
  refine (law3_all len0 cap0 len1 cap1 a0 a1 f0 f1 W hf0 hf1 ⟨(powA hL).1, (powA hL).2, optA hL⟩).mono fun e W' ⟨he, hb⟩ => ?_
  subst he
  have harg0 : DataW.Trod enc Tryz.prog W' 0 (fun b => decide (b < W.heap.size)) true 22 (.slice a0 len0 cap0) d0 p0 :=
    Below.trod laidOutT (by kernel_rfl) (of_decide_eq_true (by kernel_rfl)) h0 hb (fun x hx => hlt x (List.mem_append_left _ hx))
  have harg1 : DataW.Trod enc Tryz.prog W' 0 (fun b => decide (b < W.heap.size)) true 22 (.slice a1 len1 cap1) d1 p1 :=
    Below.trod laidOutT (by kernel_rfl) (of_decide_eq_true (by kernel_rfl)) h1 hb (fun x hx => hlt x (List.mem_append_right _ hx))
  refine ⟨_, rfl, _, _, _, [], _, [], hW', trodAll_mk1 (shut_bool Tryz.underlying4 _), trodAll_mk2 harg0 harg1, rfl, hb.frame _, fun h => by cases h⟩
set_option maxRecDepth 100000 in
theorem holdsThree : Rows.fnSquaresJoinedRow.holds Tryz.pinned (OpenSpec.ofChange Rows.fnSquaresJoinedSpec) :=
  OpenClaim.holds_of_wide 3 Tryz.f3 rfl rfl rfl rfl rfl rfl rfl ⟨rfl, rfl, rfl, rfl, rfl⟩ rfl rfl rfl rfl rfl named3 Tryz.func3 closed3
    (of_decide_eq_true (by kernel_rfl)) (by unfold Func.isWrapper; first | (rw [if_pos (by decide +kernel)]; kernel_rfl) | (rw [if_neg (by decide +kernel)]; exact ⟨rfl, rfl⟩))
    (fun os started H enc _ => liftedThree os started H enc)
set_option maxRecDepth 100000 in
theorem fnSquaresJoined_holds : Rows.FnSquaresJoinedCardSaid :=
  Claim7.holds_tied_plain_at .later [] [.data, .data, .widerDeep, .widerDeep, .data, .data, .data, .data, .data, .sentinel, .sentinel, .pinned, .pinned] true (true, "c1cd474a6ddb3716e839442b4e9b1559bdf1af6772c833d1b981635445a2ac27") true holdsThree (fun _ h => by cases h) (by kernel_rfl) (fun _ h => by cases h) fnSquaresJoined_row_tie rfl ⟨rfl, rfl⟩ (by kernel_rfl) rfl
    (fun f fn hf hfn => by
      obtain rfl : f = 3 := Option.some.inj ((show Tryz.prog.funcNamed "pub-gridwork/laws.FnSquaresJoined" = some 3 by kernel_rfl).symm.trans hf) |>.symm
      obtain rfl : fn = Tryz.f3 := (Option.some.inj (Tryz.func3.symm.trans hfn)).symm
      exact ⟨by kernel_rfl, fun j t ht => by
        rw [Tryz.params3] at ht
        have hm : t ∈ [22, 22] := by simpa using Array.mem_of_getElem? ht
        have hall : ([22, 22].all fun u => !Tryz.prog.wantsStandIn u) = true := by kernel_rfl
        exact (show Tryz.prog.wantsStandIn t = false by simpa using List.all_eq_true.1 hall t hm)⟩)
    (by kernel_rfl)
#print axioms fnSquaresJoined_holds
end Go.Proofs.YtoebgbojpkflnaaGreatDoor
