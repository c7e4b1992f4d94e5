/- Proof of FnSquaresJoined, a part: Value of a whole number, and SUMSQ of a table of whole numbers. Conditions: FormatFloat's and ParseFloat's variables as the row lists them. -/
import Derived.Test.YtoebgbojpkflnaaGreatDoorJNumText
import Derived.Test.YtoebgbojpkflnaaGreatDoorJTabFun
namespace Go.Proofs.YtoebgbojpkflnaaGreatDoor
open Go Go.RowKit
/-- What the methods read of strconv's variables. -/
def Vars (w : World) : Prop := PowTab w ∧ PowTwo w ∧ OptAt w
theorem Vars.below {w w' : World} (h : Vars w) (hb : Below w.heap.size w w') : Vars w' := ⟨h.1.below hb, h.2.1.below hb, h.2.2.below hb⟩
/-- Whole numbers that law 3 handles. -/
def SmallInts (ss : List Int) : Prop := ∀ s ∈ ss, -999 ≤ s ∧ s ≤ 999 ∧ s ≠ 0
def iA (n : Int) : Atom := .num (fx n 0)
theorem add_ints {a b c : Int} (ha : a.natAbs ≤ 100000000) (hb : b.natAbs ≤ 100000000) (hc : c = a + b) (w' : World) : (binOp .add 34 (.float .f64 (fx a 0)) (.float .f64 (fx b 0))).run Tryz.prog w' = .ok (.float .f64 (fx c 0)) w' := by
  subst hc
  exact run_float_arith w' .add 34 .f64 _ _ _ (add_reads (p := 0) (reads_fx _ _ (by omega) (by omega) (by omega)) (reads_fx _ _ (by omega) (by omega) (by omega)) (by omega) (by omega) (by omega))
theorem sub_ints {a b c : Int} (ha : a.natAbs ≤ 100000000) (hb : b.natAbs ≤ 100000000) (h0 : b ≠ 0) (hc : c = a - b) (w' : World) : (binOp .sub 34 (.float .f64 (fx a 0)) (.float .f64 (fx b 0))).run Tryz.prog w' = .ok (.float .f64 (fx c 0)) w' := by
  subst hc
  exact run_float_arith w' .sub 34 .f64 _ _ _ (sub_reads (p := 0) (reads_fx _ _ (by omega) (by omega) (by omega)) (reads_fx _ _ (by omega) (by omega) (by omega)) (by omega) (.inl h0) (by omega) (by omega))
theorem mul_lt {a b : Int} (ha : a.natAbs ≤ 10000) (hb : b.natAbs ≤ 10000) : (a * b).natAbs ≤ 100000000 := by
  rw [Int.natAbs_mul]; exact Nat.mul_le_mul ha hb
theorem mul_ints {a b c : Int} (ha : a.natAbs ≤ 10000) (hb : b.natAbs ≤ 10000) (hz : (a ≠ 0 ∧ b ≠ 0) ∨ (0 ≤ a ∧ 0 ≤ b)) (hc : c = a * b) (w' : World) : (binOp .mul 34 (.float .f64 (fx a 0)) (.float .f64 (fx b 0))).run Tryz.prog w' = .ok (.float .f64 (fx c 0)) w' := by
  subst hc
  have h := mul_lt ha hb
  exact run_float_arith w' .mul 34 .f64 _ _ _ (mul_reads (p := 0) (q := 0) (reads_fx _ _ (by omega) (by omega) (by omega)) (reads_fx _ _ (by omega) (by omega) (by omega)) (by omega) hz (by omega) (by omega))
set_option maxRecDepth 20000 in
set_option maxHeartbeats 4000000 in
theorem value_num (b : Nat) (R : List UInt8) (hf : FmtOk b R) (T : ByteArray) (hT : T = ⟨R.toArray⟩) (w : World) (hv : Vars w) :
    Calls Tryz.prog 116 #[.agg #[.string ⟨#[]⟩, .float .f64 b, .string ⟨#[]⟩, .slice none 0 0, .slice none 0 0, .bool false, .string ⟨#[]⟩, .int .u8 1, .pointer none, .pointer none]] w fun e w' => e = .returned (.string T) ∧ Below w.heap.size w w' := by
  subst hT
  have HF := Lib.hid hf
  have HV := Lib.hid hv
  clear hf hv
  go_enter Tryz.func116, Tryz.ntmps116
  go_wp2_with fail
  have hv1 := HV.out.below (w' := w.alloc (.cells #[.string ⟨#[]⟩, .float .f64 b, .string ⟨#[]⟩, .slice none 0 0, .slice none 0 0, .bool false, .string ⟨#[]⟩, .int .u8 1, .pointer none, .pointer none] 84)) ((Below.refl _ _).alloc (Nat.le_refl _) _)
  refine (fmt_any HF.out _ hv1.1 hv1.2.1).mono ?_
  rintro e w1 ⟨rfl, hb⟩
  have HB : Hid (Below w.heap.size w w1) := Below.trans (by go_grown) (hb.mono (by simp))
  clear hb hv1
  go_wp2_with fail
  go_ret
  exact ⟨rfl, HB.out⟩
/-- The sum of the squares. -/
def sqs (ss : List Int) : Int := (ss.map fun n => n * n).sum
theorem sqs_snoc (l : List Int) (x : Int) : sqs (l ++ [x]) = sqs l + x * x := by simp [sqs]
theorem sqs_le : ∀ (l : List Int), SmallInts l → 0 ≤ sqs l ∧ sqs l ≤ 1000000 * l.length
  | [], _ => by simp [sqs]
  | x :: l, h => by
    have ih := sqs_le l fun s hs => h s (List.mem_cons_of_mem _ hs)
    have hx := h x (by simp)
    have e : sqs (x :: l) = x * x + sqs l := by simp [sqs]
    have h1 : (x * x).natAbs ≤ 1000 * 1000 := by rw [Int.natAbs_mul]; exact Nat.mul_le_mul (by omega) (by omega)
    have h2 : 0 ≤ x * x := by rcases Int.le_total 0 x with h | h; exact Int.mul_nonneg h h; exact Int.mul_nonneg_of_nonpos_of_nonpos h h
    rw [e, List.length_cons]
    push_cast
    omega
theorem SmallInts.take {ss : List Int} (h : SmallInts ss) (k : Nat) : SmallInts (ss.take k) := fun s hs => h s (List.mem_of_mem_take hs)
theorem sgT_some (n : Int) (h1 : -999 ≤ n) (h2 : n ≤ 999) (h0 : n ≠ 0) : (⟨(sgT n).toArray⟩ : ByteArray).toList.isEmpty = false := by
  have h := sgT_ne n h1 h2 h0
  rw [ByteArray.toList_eq]
  cases e : sgT n with
  | nil => rw [e] at h; exact absurd rfl h
  | cons a l => rfl
def SqRel (w : World) (b0 : Nat) (S : Nat) (a i : Value) (wr : World) : Prop := (i = .pointer (some ⟨b0, 0, none⟩) ∧ a = .float .f64 0 ∧ wr = w) ∨ (i = .pointer none ∧ a = .float .f64 S ∧ Below w.heap.size w wr)
set_option maxRecDepth 20000 in
set_option maxHeartbeats 8000000 in
theorem sumsq_gives (ss : List Int) (hok : SmallInts ss) (hn : ss.length ≤ 50) (hne : ss ≠ []) : MethodTabs Vars 88 [ss.map iA] (fun r => r = .num (fx (sqs ss) 0)) := by
  intro F B L bs fs w hs hil hl hm
  obtain ⟨b0, rg, rn, rc, p, q, rfl, hil, htab⟩ := one_tab (by simpa using hne) hil hl hm
  obtain ⟨n, hnn⟩ : ∃ n, n = ss.length := ⟨_, rfl⟩
  have HN := Lib.hid hnn
  obtain ⟨S, hS⟩ : ∃ S, S = fx (sqs ss) 0 := ⟨_, rfl⟩
  have HS := Lib.hid hS
  have hsl := sqs_le ss hok
  have HGD : Hid (Good S) := (by show Good S; rw [hS]; exact good_fx (by omega))
  obtain ⟨c, hc, hg⟩ : ∃ c, (Value.slice (some ⟨rg, 0, none⟩) rn rc) = .slice (some ⟨rg, 0, none⟩) n c ∧ rg < w.heap.size := (by
    rcases htab.shape with ⟨h, _⟩ | ⟨g, c, h, hl⟩
    · cases h
    · injection h with h1 h2 h3; injection h1 with h1; injection h1 with h1; subst h1
      exact ⟨c, by rw [h2, h3, List.length_map, List.length_map, hnn], hl⟩)
  rw [hc] at htab hil
  have HIL := Lib.hid hil
  have HT := Lib.hid htab
  have HOK := Lib.hid hok
  have HV := Lib.hid hs
  obtain ⟨c0, l0⟩ := hil.at3 0 rfl rfl
  have m0 := lt_k l0
  rw [← hS]
  rw [← hnn] at hn
  clear hnn hS hsl hc hil htab hok hs hne hm hl
  go_enter Tryz.func88, Tryz.ntmps88
  go_wp2_with (go_at_call 112; refine (front_any _ _ _ _ _ _ _ (HIL.out.keep (by go_grown))).mono ?_; rintro e w2 ⟨rfl, rfl⟩)
  refine abs_wp (fun w' => Blk w' w.heap.size 84 [.string ⟨#[]⟩, .float .f64 0, .string ⟨#[]⟩, .slice none 0 0, .slice none 0 0, .bool false, .string ⟨#[]⟩, .int .u8 0, .pointer none, .pointer none] ∧ Below w.heap.size w w') ⟨Blk.new w 84 _, by go_grown⟩ ?_
  rintro w1 ⟨hr1, hb1⟩
  have HR1 := Lib.hid hr1
  have HB1 := Lib.hid hb1
  have lr1 := hr1.lt
  have c1 : w1.cell? ⟨b0, 3, none⟩ = _ := (hb1.cell (p := ⟨b0, 3, none⟩) l0).trans c0
  have l1 : b0 < w1.heap.size := Nat.lt_of_lt_of_le l0 hb1.size
  have m1 := lt_k l1
  clear hr1 hb1 c0 m0
  go_loopw [6, 8] (fun a i wr => SqRel w1 b0 S a i wr) (fun _ i _ => match i with | .pointer (some _) => 1 | _ => 0)
  case atStart => exact .inl ⟨rfl, rfl, rfl⟩
  case round =>
    rcases hrel with ⟨rfl, rfl, rfl⟩ | ⟨rfl, rfl, hb⟩
    · go_wp2_with fail
      rename World => wo
      refine abs_wp (fun w' => Below wo.heap.size wo w') (by go_grown) ?_
      rintro wa hba
      clear c1
      go_loopw [6, 62] (fun a i wr => ∃ k : Nat, k ≤ n ∧ i = .int .i64 k ∧ a = .float .f64 (fx (sqs (ss.take k)) 0) ∧ Below wo.heap.size wo wr) (fun _ i _ => n - (intOf i).toNat)
      case atStart => exact ⟨0, Nat.zero_le _, rfl, by rw [List.take_zero]; exact congrArg _ (fx_zero 0).symm, hba⟩
      case round =>
        obtain ⟨k, hk, rfl, rfl, hbk⟩ := hrel
        have HBK := Lib.hid hbk
        clear hbk hba
        by_cases hlt : k < n
        · obtain ⟨x, hx⟩ := one_at HN.out.symm hlt
          obtain ⟨r, hr, har⟩ := HT.out.at (i := k) (x := [(iA x).facells]) (by rw [List.getElem?_map, List.getElem?_map, hx]; rfl)
          have hb0 := HB1.out.trans (HBK.out.mono HB1.out.size)
          have er : wr.cell? ⟨rg, k, none⟩ = some r := (hb0.cell (p := ⟨rg, k, none⟩) hg).trans hr
          have har2 := har.keep hb0
          obtain ⟨g1, cc, hr1⟩ : ∃ g1 cc, r = .slice (some ⟨g1, 0, none⟩) 1 cc := (by
            rcases har.shape with ⟨_, h⟩ | ⟨g1, c1, h, _⟩
            · cases h
            · exact ⟨g1, c1, h⟩)
          subst hr1
          have hxr := HOK.out x (List.mem_of_getElem? hx)
          have hsx := sqs_snoc (ss.take k) x
          rw [← take_snoc hx] at hsx
          have hsl := sqs_le (ss.take k) (HOK.out.take k)
          have hlk := List.length_take_le k ss
          have hxx : (x * x).natAbs ≤ 100000000 := mul_lt (by omega) (by omega)
          have hadd := add_ints (a := sqs (ss.take k)) (b := x * x) (c := sqs (ss.take (k + 1))) (by omega) (by omega) hsx
          have hmul := mul_ints (a := x) (b := x) (c := x * x) (by omega) (by omega) (.inl ⟨hxr.2.2, hxr.2.2⟩) rfl
          obtain ⟨bx, hbx⟩ : ∃ bx, bx = fx x 0 := ⟨_, rfl⟩
          obtain ⟨bq, hbq⟩ : ∃ bq, bq = fx (x * x) 0 := ⟨_, rfl⟩
          obtain ⟨b1, hb1⟩ : ∃ b1, b1 = fx (sqs (ss.take k)) 0 := ⟨_, rfl⟩
          obtain ⟨b2, hb2⟩ : ∃ b2, b2 = fx (sqs (ss.take (k + 1))) 0 := ⟨_, rfl⟩
          obtain ⟨T, hT⟩ : ∃ T : ByteArray, T = ⟨(sgT x).toArray⟩ := ⟨_, rfl⟩
          have HF := Lib.hid (sgT_fmt x hxr.1 hxr.2.1 hxr.2.2)
          have HPF : Hid (∀ w, OptAt w → Calls Tryz.prog 115 #[.string T, .int .i64 64] w fun e w' => e = .returned (.tuple #[.float .f64 bx, .nilIface]) ∧ w = w') := Lib.hid (by rw [hT, hbx]; exact sgT_parse x hxr.1 hxr.2.1 hxr.2.2)
          have hTn : T.toList.isEmpty = false := (by rw [hT]; exact sgT_some x hxr.1 hxr.2.1 hxr.2.2)
          have hfc : (iA x).facells = [.string ⟨#[]⟩, .float .f64 bx, .string ⟨#[]⟩, .slice none 0 0, .slice none 0 0, .bool false, .string ⟨#[]⟩, .int .u8 1, .pointer none, .pointer none] := (by rw [hbx]; rfl)
          rw [hfc] at har2
          rw [← hbq, ← hb1, ← hb2] at hadd
          rw [← hbq, ← hbx] at hmul
          rw [← hbx] at HF
          rw [← hb1]
          have d0 := har2.cell0 (i := 0) (u := .string ⟨#[]⟩) rfl rfl
          have d1 := har2.cell (i := 0) (j := 1) (u := .float .f64 bx) rfl rfl
          have d2 := har2.cell (i := 0) (j := 2) (u := .string ⟨#[]⟩) rfl rfl
          have d3 := har2.cell (i := 0) (j := 3) (u := .slice none 0 0) rfl rfl
          have d4 := har2.cell (i := 0) (j := 4) (u := .slice none 0 0) rfl rfl
          have d5 := har2.cell (i := 0) (j := 5) (u := .bool false) rfl rfl
          have d6 := har2.cell (i := 0) (j := 6) (u := .string ⟨#[]⟩) rfl rfl
          have d7 := har2.cell (i := 0) (j := 7) (u := .int .u8 1) rfl rfl
          have d8 := har2.cell (i := 0) (j := 8) (u := .pointer none) rfl rfl
          have d9 := har2.cell (i := 0) (j := 9) (u := .pointer none) rfl rfl
          have HB2 := Lib.hid hb2
          have HTX := Lib.hid hT
          have HVR := Lib.hid (HV.out.below (HB1.out.trans (HBK.out.mono HB1.out.size)))
          clear hx hr har hb0 har2 hxr hsx hsl hlk hxx hbx hbq hb1 hb2 hT hfc
          go_wp2_with fail
          refine wp_loop_rounds 2 ?_
          rw [rounds_succ]
          go_wp2_with fail
          refine (value_num bx _ HF.out T HTX.out _ (HVR.out.below ((Below.refl _ _).alloc (Nat.le_refl _) _))).mono ?_
          rintro e w2 ⟨rfl, hb2⟩
          have hk2 := (Blk.new wr 84 [.string ⟨#[]⟩, .float .f64 bx, .string ⟨#[]⟩, .slice none 0 0, .slice none 0 0, .bool false, .string ⟨#[]⟩, .int .u8 1, .pointer none, .pointer none]).below hb2 (by simp)
          have e0 := hk2.get 0 rfl
          have e1 := hk2.get 1 rfl
          have e2 := hk2.get 2 rfl
          have e3 := hk2.get 3 rfl
          have e4 := hk2.get 4 rfl
          have e5 := hk2.get 5 rfl
          have e6 := hk2.get 6 rfl
          have e7 := hk2.get 7 rfl
          have e8 := hk2.get 8 rfl
          have e9 := hk2.get 9 rfl
          have HBA : Hid (Below wr.heap.size wr w2) := Below.trans (by go_grown) (hb2.mono (by simp))
          have HVA := Lib.hid (HVR.out.below HBA.out)
          clear hb2 hk2 d0 d1 d2 d3 d4 d5 d6 d7 d8 d9
          go_wp2_with fail
          refine (value_num bx _ HF.out T HTX.out _ HVA.out).mono ?_
          rintro e w3 ⟨rfl, hb3⟩
          have HBB : Hid (Below wr.heap.size wr w3) := HBA.out.trans (hb3.mono HBA.out.size)
          have HVB := Lib.hid (HVA.out.below hb3)
          clear hb3 e0 e1 e2 e3 e4 e5 e6 e7 e8 e9
          go_wp2_with fail
          refine (HPF.out _ HVB.out.2.2).mono ?_
          rintro e w4 ⟨rfl, rfl⟩
          go_wp2_with fail
          rw [rounds_succ]
          go_wp2_with fail
          refine ⟨⟨k + 1, by omega, by go_num, by rw [HB2.out], HBK.out.trans (HBB.out.mono HBK.out.size)⟩, by simp [intOf]; omega⟩
        · have hkn : k = n := by omega
          have HB3 := HBK
          have HIL3 := Lib.hid ((HIL.out.keep HB1.out).keep HB3.out)
          go_wp2_with (go_at_call 113; refine (next_last _ _ _ _ _ HIL3.out 0 b0 rfl rfl).mono ?_; rintro e w4 ⟨rfl, rfl⟩)
          exact ⟨.inr ⟨rfl, by rw [HS.out, HN.out, List.take_length], HB3.out⟩, Nat.zero_lt_one⟩
    · have HB := Lib.hid hb
      have HR := Lib.hid (HR1.out.below hb lr1)
      clear hb c1
      go_wp2_with fail
      refine (newNum_any _ _ HGD.out).mono ?_
      rintro e w6 ⟨rfl, hb6⟩
      have HB6 : Hid (Below w.heap.size w w6) := (HB1.out.trans (HB.out.mono HB1.out.size)).trans (hb6.mono (Nat.le_trans HB1.out.size HB.out.size))
      have HR6 := Lib.hid (HR.out.below hb6 HR.out.lt)
      clear hb6
      go_wp2_with (refine store_res rfl (.tmp 4) (.tmp 94) rfl w.heap.size [.string ⟨#[]⟩, .float .f64 0, .string ⟨#[]⟩, .slice none 0 0, .slice none 0 0, .bool false, .string ⟨#[]⟩, .int .u8 0, .pointer none, .pointer none] (.num S) rfl rfl HR6.out rfl w.heap.size (Nat.le_refl _) ?_; intro w7 hr7 hb7)
      exact bodyPost_ret (ret_res rfl _ _ w.heap.size (.num S) rfl hr7) rfl ⟨_, rfl, by rw [HS.out], HB6.out.trans hb7⟩
end Go.Proofs.YtoebgbojpkflnaaGreatDoor
