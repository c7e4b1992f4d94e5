/- The frame of law 7: row, tie, card. -/
import Derived.Test.YtoebgbojpkflnaaGreatDoorClosedSeven
import Derived.Test.YtoebgbojpkflnaaGreatDoorLawSeven
import Derived.Lay
import Derived.LaidOnce
import Derived.SevenTiedAt
import Derived.ProofKit
namespace Go.Proofs.YtoebgbojpkflnaaGreatDoor
open Go Go.RowKit
open Go.ChangeShapes Go.WideShapes Go.ChangeAt

theorem law7_all (s more : ByteArray) (i n : Int) (w : World) (ws : s.size ≤ maxLen) (wm : more.size ≤ maxLen) (wi : (Lit.int .i64 i).wf = true) (wn : (Lit.int .i64 n).wf = true) :
    Calls Tryz.prog 7 #[.string s, .string more, .int .i64 i, .int .i64 n] w fun e w' => e = .returned (.bool true) ∧ Below w.heap.size w w' := by
  have hi : -9223372036854775808 ≤ i ∧ i ≤ 9223372036854775807 := by simpa [Lit.wf, IntKind.min, IntKind.max, IntKind.signed, IntKind.bits] using wi
  have hn : -9223372036854775808 ≤ n ∧ n ≤ 9223372036854775807 := by simpa [Lit.wf, IntKind.min, IntKind.max, IntKind.signed, IntKind.bits] using wn
  simp only [maxLen] at ws wm
  by_cases a1 : s.size ≤ 2147483647
  case neg => exact law7_big1 s more i n w (by omega) (by omega)
  by_cases a2 : more.size ≤ 2147483647
  case neg => exact law7_big2 s more i n w (by omega) (by omega) (by omega)
  by_cases p1 : Printable s
  case neg => exact law7_no0 s more i n w a1 a2 p1
  by_cases p2 : Printable more
  case neg => exact law7_no1 s more i n w a1 a2 p1 p2
  by_cases q1 : s.size ≤ 500
  case neg => exact law7_no2 s more i n w a1 a2 p1 p2 (by omega)
  by_cases q2 : more.size ≤ 500
  case neg => exact law7_no3 s more i n w a1 a2 p1 p2 q1 (by omega)
  by_cases r1 : 1 ≤ i
  case neg => exact law7_no4 s more i n w a1 a2 p1 p2 q1 q2 (by omega)
  by_cases r2 : 0 ≤ n
  case neg => exact law7_no5 s more i n w a1 a2 p1 p2 q1 q2 r1 (by omega)
  by_cases r3 : i - 1 ≤ s.size
  case neg => exact law7_no6 s more i n w a1 a2 p1 p2 q1 q2 r1 r2 (by omega) hi.2
  by_cases r4 : n ≤ s.size - i + 1
  case neg => exact law7_no7 s more i n w a1 a2 p1 p2 q1 q2 r1 r2 r3 (by omega) hi.2
  exact law7_yes s more i n w p1 p2 q1 q2 r1 r2 r3 r4

set_option maxRecDepth 100000 in
theorem liftedSeven (os : Os) (started : os.Started) (H : Type) (enc : TypeId × Value → H) :
    ReturnsInHanded {} Tryz.checked os 7 .any (fun w args => (Rows.fnBytesReplacedSpec.pre enc Tryz.prog Tryz.f7 [] false w args ∧ laidMetH Tryz.prog laidB w) ∧ sizedMet enc Tryz.prog Tryz.f7 (OpenSpec.ofChange Rows.fnBytesReplacedSpec) false w args)
      (Rows.fnBytesReplacedSpec.post enc Tryz.prog Tryz.f7 false true false false) := by
  refine returnsInHanded_of_change_and (C := Tryz.checked) (X := fun w _ => laidMetH Tryz.prog laidB w) (fun _ _ _ hh h => h.of_heap hh) Tryz.own started (by kernel_rfl) Tryz.func7
    (ChangeSpec.witness_shaped (enc := enc) (C := Tryz.checked) (os := os) (X := fun w _ => laidMetH Tryz.prog laidB w) false (World.laidAll Tryz.prog os laidB) #[.string ⟨#[]⟩, .string ⟨#[]⟩, .int .i64 0, .int .i64 0] 8 (World.laidAll_os _ _ _)
      (World.shaped_of_ZipB (by kernel_rfl) (by kernel_rfl)) (by kernel_rfl) (by kernel_rfl) (by kernel_rfl)
      (by rw [MakeChecks.laidMetH_plain _ _ _ (by kernel_rfl)]; exact laidMet_laidAll _ (fitsB os) (ifacesB os))) ?_
  intro W base args ds gs before hval0 hW _ _ hL _
  have hval : ∀ (j : Nat) t v, Tryz.f7.params[j]? = some t → args[j]? = some v → Value.okWide Tryz.prog W .any base t v := hval0
  have hW' := hW
  obtain ⟨p, q, hA0, hV, rfl, _, _⟩ := hW
  have hA : DataW.TrodAll enc Tryz.prog W 0 (fun _ => true) true Tryz.f7.params.toList args.toList ds p := hA0
  rw [Tryz.params7] at hA hval
  obtain ⟨v0, v1, v2, v3, d0, d1, d2, d3, p0, p1, p2, p3, rfl, rfl, rfl, h0, h1, h2, h3⟩ := trodAll_four hA
  obtain ⟨rfl, rfl⟩ := trodVars_none hV
  obtain ⟨x0, rfl, rfl, rfl, w0⟩ := Go.ChangeMaps.open_string Tryz.underlying9 (hval 0 9 v0 rfl rfl) h0
  obtain ⟨x1, rfl, rfl, rfl, w1⟩ := Go.ChangeMaps.open_string Tryz.underlying9 (hval 1 9 v1 rfl rfl) h1
  obtain ⟨x2, rfl, rfl, rfl, w2⟩ := open_int Tryz.underlying3 (hval 2 3 v2 rfl rfl) h2
  obtain ⟨x3, rfl, rfl, rfl, w3⟩ := open_int Tryz.underlying3 (hval 3 3 v3 rfl rfl) h3
  simp only [List.append_nil] at hW'
  refine (law7_all x0 x1 x2 x3 W w0 w1 w2 w3).mono fun e W' ⟨he, hb⟩ => ?_
  subst he
  exact ⟨_, rfl, _, _, _, [], [], [], hW', trodAll_mk1 (shut_bool Tryz.underlying4 _), trodAll_mk4 (Go.ChangeMaps.shut_string Tryz.underlying9 w0) (Go.ChangeMaps.shut_string Tryz.underlying9 w1) (shut_int Tryz.underlying3 w2) (shut_int Tryz.underlying3 w3), rfl, hb.frame _, fun h => by cases h⟩

set_option maxRecDepth 100000 in
theorem holdsSeven : Rows.fnBytesReplacedRow.holds Tryz.pinned (OpenSpec.ofChange Rows.fnBytesReplacedSpec) :=
  OpenClaim.holds_of_wide 7 Tryz.f7 rfl rfl rfl rfl rfl rfl rfl ⟨rfl, rfl, rfl, rfl, rfl⟩ rfl rfl rfl rfl rfl named7 Tryz.func7 closed7
    (of_decide_eq_true (by kernel_rfl)) (by unfold Func.isWrapper; first | (rw [if_pos (by decide +kernel)]; kernel_rfl) | (rw [if_neg (by decide +kernel)]; exact ⟨rfl, rfl⟩))
    (fun os started H enc _ => liftedSeven os started H enc)
set_option maxRecDepth 100000 in
theorem fnBytesReplaced_holds : Rows.FnBytesReplacedCardSaid :=
  Claim7.holds_tied_plain_at .later [] [.data, .data, .widerDeep, .widerDeep, .data, .data, .data, .data, .data, .data, .sentinel, .sentinel, .pinned, .pinned, .pinned, .pinned] true (true, "c1cd474a6ddb3716e839442b4e9b1559bdf1af6772c833d1b981635445a2ac27") true holdsSeven (fun _ h => by cases h) (by kernel_rfl) (fun _ h => by cases h) fnBytesReplaced_row_tie rfl ⟨rfl, rfl⟩ (by kernel_rfl) rfl
    (fun f fn hf hfn => by
      obtain rfl : f = 7 := Option.some.inj ((show Tryz.prog.funcNamed "pub-gridwork/laws.FnBytesReplaced" = some 7 by kernel_rfl).symm.trans hf) |>.symm
      obtain rfl : fn = Tryz.f7 := (Option.some.inj (Tryz.func7.symm.trans hfn)).symm
      exact ⟨by kernel_rfl, fun j t ht => by
        rw [Tryz.params7] at ht
        have hm : t ∈ [9, 9, 3, 3] := by simpa using Array.mem_of_getElem? ht
        have hall : ([9, 9, 3, 3].all fun u => !Tryz.prog.wantsStandIn u) = true := by kernel_rfl
        exact (show Tryz.prog.wantsStandIn t = false by simpa using List.all_eq_true.1 hall t hm)⟩)
    (by kernel_rfl)
#print axioms fnBytesReplaced_holds
end Go.Proofs.YtoebgbojpkflnaaGreatDoor
