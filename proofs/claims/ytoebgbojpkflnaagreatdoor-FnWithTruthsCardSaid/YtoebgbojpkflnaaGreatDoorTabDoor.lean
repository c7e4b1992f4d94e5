/- AVERAGEA of one table; the functions of tables through the thin package. -/
import Derived.Test.YtoebgbojpkflnaaGreatDoorTabMet
namespace Go.Proofs.YtoebgbojpkflnaaGreatDoor
open Go Go.RowKit
theorem good_fx4 {c : Int} (h : c.natAbs < 2 ^ 53) : Good (fx c (-4)) := by
  refine ⟨order_self h (by omega) (by omega), fun h0 => ?_⟩
  have h1 : FloatKind.f64.format.order (fx c (-4)) 0 = some (compare c 0) := order_zero h (by omega) (by omega)
  rw [h1] at h0
  have : c = 0 := by
    have h2 : compare c 0 = .eq := by injection h0
    exact Int.compare_eq_eq.1 h2
  rw [this]; exact fx_zero _
def ARel (w : World) (b0 : Nat) (x : List Value) (a i : Value) (wr : World) : Prop := (i = .pointer (some ⟨b0, 0, none⟩) ∧ a = .slice none 0 0 ∧ wr = w) ∨ (i = .pointer none ∧ Arr w.heap.size wr 84 10 a [x] ∧ Below w.heap.size w wr)
set_option maxRecDepth 20000 in
set_option maxHeartbeats 8000000 in
theorem avg_gives (cs : List Cel) (hok : ∀ x ∈ cs, x.Ok) (hn : cs.length ≤ 60) (hnn : nums cs ≠ []) (c : Nat) (hc : (nums cs).sum * 16 = c * (nums cs).length) : MethodTabs (fun _ => True) 93 [cs.map Cel.atom] (fun r => r = .num (fx (c : Int) (-4))) := by
  intro F B L bs fs w _ hil hl hmat
  have hne : cs ≠ [] := (by rintro rfl; exact hnn rfl)
  obtain ⟨b0, rg, rn, rc, p, q, rfl, hil1, htab⟩ := one_tab (fun h => hne (List.map_eq_nil_iff.1 h)) hil hl hmat
  obtain ⟨n, hn1⟩ : ∃ n, n = (nums cs).length := ⟨_, rfl⟩
  obtain ⟨s, hs1⟩ : ∃ s, s = (nums cs).sum := ⟨_, rfl⟩
  have hn0 : 0 < n := (by rw [hn1]; exact List.length_pos_iff.2 hnn)
  have hn6 : n ≤ 60 := (by rw [hn1]; exact Nat.le_trans (nums_len cs) hn)
  have hs6 : s ≤ 6000000 := (by rw [hs1]; exact nums_sum_le hok hn)
  rw [← hn1, ← hs1] at hc
  have hci : 16 * (s : Int) = (c : Int) * (n : Int) := (by have h : ((s * 16 : Nat) : Int) = ((c * n : Nat) : Int) := (by rw [hc]); push_cast at h; omega)
  have hcb : c ≤ 96000000 := (by have := Nat.le_mul_of_pos_right c hn0; omega)
  obtain ⟨bn, hbn⟩ : ∃ bn, bn = fx (n : Int) 0 := ⟨_, rfl⟩
  obtain ⟨bs1, hbs⟩ : ∃ bs1, bs1 = fx (s : Int) 0 := ⟨_, rfl⟩
  obtain ⟨bc, hbc⟩ : ∃ bc, bc = fx (c : Int) (-4) := ⟨_, rfl⟩
  have ho : FloatKind.f64.format.order bn 0 = some .gt := (by
    rw [hbn, show FloatKind.f64.format.order (fx (n : Int) 0) 0 = some (compare (n : Int) 0) from order_zero (by omega) (by omega) (by omega), Int.compare_eq_gt.2 (by omega)])
  have hq : ∀ w', (binOp .quo 34 (.float .f64 bs1) (.float .f64 bn)).run Tryz.prog w' = .ok (.float .f64 bc) w' := fun w' => by
    rw [hbs, hbn, hbc]
    exact run_float_arith w' .quo 34 .f64 _ _ _ (div_reads (a := (s : Int)) (b := (n : Int)) (c := (c : Int)) (reads_fx _ _ (by omega) (by omega) (by omega)) (reads_fx _ _ (by omega) (by omega) (by omega)) (by omega) (by omega) hci)
  have HGD : Hid (Good bc) := (by show Good bc; rw [hbc]; exact good_fx4 (by omega))
  have HCS : Hid (fx ((nums cs).length : Int) 0 = bn ∧ fx ((nums cs).sum : Int) 0 = bs1) := Lib.hid ⟨by rw [hbn, hn1], by rw [hbs, hs1]⟩
  have HIL := Lib.hid hil1
  have HT := Lib.hid htab
  have HOK := Lib.hid hok
  have HNE := Lib.hid hne
  have HN := Lib.hid hn
  have HBC := Lib.hid hbc
  obtain ⟨c0, l0⟩ := hil1.at3 0 rfl rfl
  have m0 := lt_k l0
  clear hil hl hmat hne hil1 htab hok hnn hc hbn hbs hbc hn1 hs1 hn
  rw [← HBC.out]
  go_enter Tryz.func93, Tryz.ntmps93
  go_wp2_with (go_at_call 112; refine (front_any _ _ _ _ _ _ _ (HIL.out.keep (by go_grown))).mono ?_; rintro e w2 ⟨rfl, rfl⟩)
  refine abs_wp (fun w' => Blk w' w.heap.size 84 [.string ⟨#[]⟩, .float .f64 0, .string ⟨#[]⟩, .slice none 0 0, .slice none 0 0, .bool false, .string ⟨#[]⟩, .int .u8 0, .pointer none, .pointer none] ∧ Below w.heap.size w w') ⟨Blk.new w 84 _, by go_grown⟩ ?_
  rintro w1 ⟨hr1, hb1⟩
  have HR1 := Lib.hid hr1
  have HB1 := Lib.hid hb1
  have lr1 := hr1.lt
  have c1 : w1.cell? ⟨b0, 3, none⟩ = _ := (hb1.cell (p := ⟨b0, 3, none⟩) l0).trans c0
  have l1 : b0 < w1.heap.size := Nat.lt_of_lt_of_le l0 hb1.size
  have m1 := lt_k l1
  clear hr1 hb1 c0 m0
  go_loopw [5, 6] (fun a i wr => ARel w1 b0 [.string ⟨#[]⟩, .float .f64 0, .string ⟨#[]⟩, .slice none 0 0, .slice (some ⟨rg, 0, none⟩) rn rc, .bool false, .string ⟨#[]⟩, .int .u8 4, .pointer p, .pointer q] a i wr) (fun _ i _ => match i with | .pointer (some _) => 1 | _ => 0)
  case atStart => exact .inl ⟨rfl, rfl, rfl⟩
  case round =>
    rcases hrel with ⟨rfl, rfl, rfl⟩ | ⟨rfl, ha, hb⟩
    · go_wp2_with (first
        | (at_builtin; refine append_one rfl (.tmp 15) (.tmp 21) 79 rfl wr.heap.size 84 _ 10 136 Tryz.underlying79 info84 rfl (by decide) (by decide) (.slice none 0 0) [] rfl (Arr.nil _ _ _ _) ⟨wr.heap.size, 0, none⟩ 1 [.string ⟨#[]⟩, .float .f64 0, .string ⟨#[]⟩, .slice none 0 0, .slice (some ⟨rg, 0, none⟩) rn rc, .bool false, .string ⟨#[]⟩, .int .u8 4, .pointer p, .pointer q] rfl rfl (news_cells _ _ _ _ rfl) (List.all_eq_true.1 (show ([.string ⟨#[]⟩, .float .f64 0, .string ⟨#[]⟩, .slice none 0 0, .slice (some ⟨rg, 0, none⟩) rn rc, .bool false, .string ⟨#[]⟩, .int .u8 4, .pointer p, .pointer q] : List Value).all (fun u => u.oneCell') = true from rfl)) (by simp) (le_alloc1 (Nat.le_refl _) _) ?_; intro v3 w3 ha3 hb3; have HA3 := Lib.hid ha3; have HB3 : Hid (Below wr.heap.size wr w3) := ((Below.refl _ _).alloc (Nat.le_refl _) _).trans hb3; have HIL3 := Lib.hid ((HIL.out.keep HB1.out).keep HB3.out); clear ha3 hb3 c1)
        | (go_at_call 113; refine (next_last _ _ _ _ _ HIL3.out 0 b0 rfl rfl).mono ?_; rintro e w4 ⟨rfl, rfl⟩))
      exact ⟨.inr ⟨rfl, by simpa using HA3.out, HB3.out⟩, Nat.zero_lt_one⟩
    · have HB := Lib.hid hb
      have HA := Lib.hid ha
      have HR := Lib.hid (HR1.out.below hb lr1)
      obtain ⟨g3, c3, hv3⟩ : ∃ g3 c3, u5 = .slice (some ⟨g3, 0, none⟩) 1 c3 := (by
        rcases ha.shape with ⟨_, h⟩ | ⟨g3, c3, h, _⟩
        · cases h
        · exact ⟨g3, c3, h⟩)
      subst hv3
      clear ha hb c1
      go_wp2_with fail
      refine (countSum_mat cs HOK.out HN.out HNE.out _ rg rn rc p q _ ((HT.out.keep HB1.out).keep HB.out) g3 c3 (HA.out.base (Nat.zero_le _))).mono ?_
      rintro e w5 ⟨rfl, hb5⟩
      rw [HCS.out.1, HCS.out.2]
      have HB5 : Hid (Below w1.heap.size w1 w5) := HB.out.trans (hb5.mono HB.out.size)
      have HR5 := Lib.hid (HR.out.below hb5 HR.out.lt)
      clear hb5
      go_wp2_with fail
      refine (newNum_any _ _ HGD.out).mono ?_
      rintro e w6 ⟨rfl, hb6⟩
      have HB6 : Hid (Below w.heap.size w w6) := (HB1.out.trans (HB5.out.mono HB1.out.size)).trans (hb6.mono (Nat.le_trans HB1.out.size HB5.out.size))
      have HR6 := Lib.hid (HR5.out.below hb6 HR5.out.lt)
      clear hb6
      go_wp2_with (refine store_res rfl (.tmp 4) (.tmp 35) rfl w.heap.size [.string ⟨#[]⟩, .float .f64 0, .string ⟨#[]⟩, .slice none 0 0, .slice none 0 0, .bool false, .string ⟨#[]⟩, .int .u8 0, .pointer none, .pointer none] (.num bc) rfl rfl HR6.out rfl w.heap.size (Nat.le_refl _) ?_; intro w7 hr7 hb7)
      exact bodyPost_ret (ret_res rfl _ _ w.heap.size (.num bc) rfl hr7) rfl ⟨_, rfl, rfl, HB6.out.trans hb7⟩
/-- What tables as arguments must be. -/
structure TsOk (ts : List (List Atom)) : Prop where
  ok : ∀ t ∈ ts, ∀ a ∈ t, a.Ok
  ne : ∀ t ∈ ts, t ≠ []
  len : ∀ t ∈ ts, t.length ≤ 100
  few : ts.length ≤ 100
  any : ts ≠ []

set_option maxRecDepth 20000 in
set_option maxHeartbeats 1000000 in
theorem avg_door (ts : List (List Atom)) (hts : TsOk ts) (P : Res → Prop) (v : Value) (w : World) (hl : TabVals w 66 64 v ts) (S : World → Prop) (hs : S w) (hst : Stable S) (hm : MethodTabs S 93 ts P) :
    Calls Tryz.prog 67 #[v] w (GivesVal P w) := by
  obtain ⟨g, c, rfl, _⟩ := hl.form hts.any
  have HL := Lib.hid hl
  have HM := Lib.hid hm
  have HS := Lib.hid hs
  have HST := Lib.hid hst
  have HTS := Lib.hid hts
  clear hl hm hs hst hts
  go_enter Tryz.func67, Tryz.ntmps67
  go_wp2_with (go_at_call 82; go_in)
  refine (innerList_tabs ts HTS.out.ok HTS.out.ne HTS.out.len HTS.out.few _ g c (HL.out.keep (by go_grown))).mono ?_
  rintro e w1 ⟨L, bs, fs, rfl, hil, hfl, hmat, hb1⟩
  have HR1 : Hid (Blk w1 w.heap.size 64 [.int .i64 0, .float .f64 0, .string ⟨#[]⟩, .slice none 0 0]) := ((Blk.new w 64 [.int .i64 0, .float .f64 0, .string ⟨#[]⟩, .slice none 0 0]).alloc _).below hb1 (by simp; omega)
  have HB1 : Hid (Below w.heap.size w w1) := Below.trans (by go_grown) (hb1.mono (by simp; omega))
  have HIL := Lib.hid hil
  have HMAT := Lib.hid hmat
  have HFL := Lib.hid hfl
  clear hb1 hil hmat hfl
  go_wp2_with fail
  refine (HM.out _ _ _ _ _ _ (HST.out.out w w1 HS.out HB1.out) HIL.out HFL.out HMAT.out).mono ?_
  rintro e w2 ⟨r, rfl, hP, hb2⟩
  have HP : Hid (P r) := hP
  have HR2 : Hid (Blk w2 w.heap.size 64 [.int .i64 0, .float .f64 0, .string ⟨#[]⟩, .slice none 0 0]) := HR1.out.below hb2 HR1.out.lt
  have HB2 : Hid (Below w.heap.size w w2) := HB1.out.trans (hb2.mono HB1.out.size)
  clear hP hb2 HIL HMAT HFL
  go_wp2_with fail
  refine (doorArg_res r _).mono ?_
  rintro e w3 ⟨rfl, hb3⟩
  have HR3 : Hid (Blk w3 w.heap.size 64 [.int .i64 0, .float .f64 0, .string ⟨#[]⟩, .slice none 0 0]) := HR2.out.below hb3 HR2.out.lt
  have HB3 : Hid (Below w.heap.size w w3) := HB2.out.trans (hb3.mono HB2.out.size)
  clear hb3
  go_wp2_with (refine store_row rfl 64 (.tmp 2) (.tmp 7) rfl w.heap.size 64 [.int .i64 0, .float .f64 0, .string ⟨#[]⟩, .slice none 0 0] r.atom.cells rfl (Atom.val_eq _) HR3.out (by rw [Atom.clen]; exact size64) (by rw [Atom.clen]; rfl) (Atom.one _) w.heap.size (Nat.le_refl _) ?_; intro w6 hr6 hb6 _)
  refine bodyPost_ret (ret_row rfl _ _ w.heap.size 64 r.atom.cells _ rfl hr6 Tryz.underlying64 rfl (by rw [Atom.clen]; exact size64)) rfl ⟨r, by rw [Atom.val_eq], HP.out, HB3.out.trans hb6⟩

set_option maxRecDepth 20000 in
set_option maxHeartbeats 1000000 in
theorem avg_impl (ts : List (List Atom)) (hts : TsOk ts) (P : Res → Prop) (v : Value) (w : World) (hl : TabVals w 29 37 v ts) (S : World → Prop) (hs : S w) (hst : Stable S) (hm : MethodTabs S 93 ts P) :
    Calls Tryz.prog 26 #[v] w (GivesVal P w) := by
  obtain ⟨g, c, rfl, _⟩ := hl.form hts.any
  have HL := Lib.hid hl
  have HM := Lib.hid hm
  have HS := Lib.hid hs
  have HST := Lib.hid hst
  have HTS := Lib.hid hts
  clear hl hm hs hst hts
  go_enter Tryz.func26, Tryz.ntmps26
  go_wp2_with fail
  refine (in_tabs ts HTS.out.len HTS.out.few _ g c (HL.out.keep (by go_grown))).mono ?_
  rintro e w1 ⟨v1, rfl, htv, hb1⟩
  have HR1 : Hid (Blk w1 w.heap.size 37 [.int .i64 0, .float .f64 0, .string ⟨#[]⟩, .slice none 0 0]) := (Blk.new w 37 [.int .i64 0, .float .f64 0, .string ⟨#[]⟩, .slice none 0 0]).below hb1 (by simp)
  have HB1 : Hid (Below w.heap.size w w1) := Below.trans (by go_grown) (hb1.mono (by simp))
  have HA := Lib.hid htv
  clear hb1 htv
  go_wp2_with fail
  refine (avg_door ts HTS.out P v1 _ HA.out S (HST.out.out w w1 HS.out HB1.out) HST.out HM.out).mono ?_
  rintro e w2 ⟨r, rfl, hP, hb2⟩
  have HP : Hid (P r) := hP
  have HR2 : Hid (Blk w2 w.heap.size 37 [.int .i64 0, .float .f64 0, .string ⟨#[]⟩, .slice none 0 0]) := HR1.out.below hb2 HR1.out.lt
  have HB2 : Hid (Below w.heap.size w w2) := HB1.out.trans (hb2.mono HB1.out.size)
  clear hP hb2
  go_wp2_with fail
  refine (out_atom r.atom _).mono ?_
  rintro e w3 ⟨rfl, hb3⟩
  have HR3 : Hid (Blk w3 w.heap.size 37 [.int .i64 0, .float .f64 0, .string ⟨#[]⟩, .slice none 0 0]) := HR2.out.below hb3 HR2.out.lt
  have HB3 : Hid (Below w.heap.size w w3) := HB2.out.trans (hb3.mono HB2.out.size)
  clear hb3
  go_wp2_with (refine store_row rfl 37 (.tmp 2) (.tmp 6) rfl w.heap.size 37 [.int .i64 0, .float .f64 0, .string ⟨#[]⟩, .slice none 0 0] r.atom.cells rfl (Atom.val_eq _) HR3.out (by rw [Atom.clen]; exact size37) (by rw [Atom.clen]; rfl) (Atom.one _) w.heap.size (Nat.le_refl _) ?_; intro w6 hr6 hb6 _)
  refine bodyPost_ret (ret_row rfl _ _ w.heap.size 37 r.atom.cells _ rfl hr6 Tryz.underlying37 rfl (by rw [Atom.clen]; exact size37)) rfl ⟨r, by rw [Atom.val_eq], HP.out, HB3.out.trans hb6⟩

set_option maxRecDepth 20000 in
set_option maxHeartbeats 1000000 in
theorem maxa_door (ts : List (List Atom)) (hts : TsOk ts) (P : Res → Prop) (v : Value) (w : World) (hl : TabVals w 66 64 v ts) (S : World → Prop) (hs : S w) (hst : Stable S) (hm : MethodTabs S 92 ts P) :
    Calls Tryz.prog 65 #[v] w (GivesVal P w) := by
  obtain ⟨g, c, rfl, _⟩ := hl.form hts.any
  have HL := Lib.hid hl
  have HM := Lib.hid hm
  have HS := Lib.hid hs
  have HST := Lib.hid hst
  have HTS := Lib.hid hts
  clear hl hm hs hst hts
  go_enter Tryz.func65, Tryz.ntmps65
  go_wp2_with (go_at_call 82; go_in)
  refine (innerList_tabs ts HTS.out.ok HTS.out.ne HTS.out.len HTS.out.few _ g c (HL.out.keep (by go_grown))).mono ?_
  rintro e w1 ⟨L, bs, fs, rfl, hil, hfl, hmat, hb1⟩
  have HR1 : Hid (Blk w1 w.heap.size 64 [.int .i64 0, .float .f64 0, .string ⟨#[]⟩, .slice none 0 0]) := ((Blk.new w 64 [.int .i64 0, .float .f64 0, .string ⟨#[]⟩, .slice none 0 0]).alloc _).below hb1 (by simp; omega)
  have HB1 : Hid (Below w.heap.size w w1) := Below.trans (by go_grown) (hb1.mono (by simp; omega))
  have HIL := Lib.hid hil
  have HMAT := Lib.hid hmat
  have HFL := Lib.hid hfl
  clear hb1 hil hmat hfl
  go_wp2_with fail
  refine (HM.out _ _ _ _ _ _ (HST.out.out w w1 HS.out HB1.out) HIL.out HFL.out HMAT.out).mono ?_
  rintro e w2 ⟨r, rfl, hP, hb2⟩
  have HP : Hid (P r) := hP
  have HR2 : Hid (Blk w2 w.heap.size 64 [.int .i64 0, .float .f64 0, .string ⟨#[]⟩, .slice none 0 0]) := HR1.out.below hb2 HR1.out.lt
  have HB2 : Hid (Below w.heap.size w w2) := HB1.out.trans (hb2.mono HB1.out.size)
  clear hP hb2 HIL HMAT HFL
  go_wp2_with fail
  refine (doorArg_res r _).mono ?_
  rintro e w3 ⟨rfl, hb3⟩
  have HR3 : Hid (Blk w3 w.heap.size 64 [.int .i64 0, .float .f64 0, .string ⟨#[]⟩, .slice none 0 0]) := HR2.out.below hb3 HR2.out.lt
  have HB3 : Hid (Below w.heap.size w w3) := HB2.out.trans (hb3.mono HB2.out.size)
  clear hb3
  go_wp2_with (refine store_row rfl 64 (.tmp 2) (.tmp 7) rfl w.heap.size 64 [.int .i64 0, .float .f64 0, .string ⟨#[]⟩, .slice none 0 0] r.atom.cells rfl (Atom.val_eq _) HR3.out (by rw [Atom.clen]; exact size64) (by rw [Atom.clen]; rfl) (Atom.one _) w.heap.size (Nat.le_refl _) ?_; intro w6 hr6 hb6 _)
  refine bodyPost_ret (ret_row rfl _ _ w.heap.size 64 r.atom.cells _ rfl hr6 Tryz.underlying64 rfl (by rw [Atom.clen]; exact size64)) rfl ⟨r, by rw [Atom.val_eq], HP.out, HB3.out.trans hb6⟩

set_option maxRecDepth 20000 in
set_option maxHeartbeats 1000000 in
theorem maxa_impl (ts : List (List Atom)) (hts : TsOk ts) (P : Res → Prop) (v : Value) (w : World) (hl : TabVals w 29 37 v ts) (S : World → Prop) (hs : S w) (hst : Stable S) (hm : MethodTabs S 92 ts P) :
    Calls Tryz.prog 23 #[v] w (GivesVal P w) := by
  obtain ⟨g, c, rfl, _⟩ := hl.form hts.any
  have HL := Lib.hid hl
  have HM := Lib.hid hm
  have HS := Lib.hid hs
  have HST := Lib.hid hst
  have HTS := Lib.hid hts
  clear hl hm hs hst hts
  go_enter Tryz.func23, Tryz.ntmps23
  go_wp2_with fail
  refine (in_tabs ts HTS.out.len HTS.out.few _ g c (HL.out.keep (by go_grown))).mono ?_
  rintro e w1 ⟨v1, rfl, htv, hb1⟩
  have HR1 : Hid (Blk w1 w.heap.size 37 [.int .i64 0, .float .f64 0, .string ⟨#[]⟩, .slice none 0 0]) := (Blk.new w 37 [.int .i64 0, .float .f64 0, .string ⟨#[]⟩, .slice none 0 0]).below hb1 (by simp)
  have HB1 : Hid (Below w.heap.size w w1) := Below.trans (by go_grown) (hb1.mono (by simp))
  have HA := Lib.hid htv
  clear hb1 htv
  go_wp2_with fail
  refine (maxa_door ts HTS.out P v1 _ HA.out S (HST.out.out w w1 HS.out HB1.out) HST.out HM.out).mono ?_
  rintro e w2 ⟨r, rfl, hP, hb2⟩
  have HP : Hid (P r) := hP
  have HR2 : Hid (Blk w2 w.heap.size 37 [.int .i64 0, .float .f64 0, .string ⟨#[]⟩, .slice none 0 0]) := HR1.out.below hb2 HR1.out.lt
  have HB2 : Hid (Below w.heap.size w w2) := HB1.out.trans (hb2.mono HB1.out.size)
  clear hP hb2
  go_wp2_with fail
  refine (out_atom r.atom _).mono ?_
  rintro e w3 ⟨rfl, hb3⟩
  have HR3 : Hid (Blk w3 w.heap.size 37 [.int .i64 0, .float .f64 0, .string ⟨#[]⟩, .slice none 0 0]) := HR2.out.below hb3 HR2.out.lt
  have HB3 : Hid (Below w.heap.size w w3) := HB2.out.trans (hb3.mono HB2.out.size)
  clear hb3
  go_wp2_with (refine store_row rfl 37 (.tmp 2) (.tmp 6) rfl w.heap.size 37 [.int .i64 0, .float .f64 0, .string ⟨#[]⟩, .slice none 0 0] r.atom.cells rfl (Atom.val_eq _) HR3.out (by rw [Atom.clen]; exact size37) (by rw [Atom.clen]; rfl) (Atom.one _) w.heap.size (Nat.le_refl _) ?_; intro w6 hr6 hb6 _)
  refine bodyPost_ret (ret_row rfl _ _ w.heap.size 37 r.atom.cells _ rfl hr6 Tryz.underlying37 rfl (by rw [Atom.clen]; exact size37)) rfl ⟨r, by rw [Atom.val_eq], HP.out, HB3.out.trans hb6⟩

set_option maxRecDepth 20000 in
set_option maxHeartbeats 1000000 in
theorem mina_door (ts : List (List Atom)) (hts : TsOk ts) (P : Res → Prop) (v : Value) (w : World) (hl : TabVals w 66 64 v ts) (S : World → Prop) (hs : S w) (hst : Stable S) (hm : MethodTabs S 94 ts P) :
    Calls Tryz.prog 68 #[v] w (GivesVal P w) := by
  obtain ⟨g, c, rfl, _⟩ := hl.form hts.any
  have HL := Lib.hid hl
  have HM := Lib.hid hm
  have HS := Lib.hid hs
  have HST := Lib.hid hst
  have HTS := Lib.hid hts
  clear hl hm hs hst hts
  go_enter Tryz.func68, Tryz.ntmps68
  go_wp2_with (go_at_call 82; go_in)
  refine (innerList_tabs ts HTS.out.ok HTS.out.ne HTS.out.len HTS.out.few _ g c (HL.out.keep (by go_grown))).mono ?_
  rintro e w1 ⟨L, bs, fs, rfl, hil, hfl, hmat, hb1⟩
  have HR1 : Hid (Blk w1 w.heap.size 64 [.int .i64 0, .float .f64 0, .string ⟨#[]⟩, .slice none 0 0]) := ((Blk.new w 64 [.int .i64 0, .float .f64 0, .string ⟨#[]⟩, .slice none 0 0]).alloc _).below hb1 (by simp; omega)
  have HB1 : Hid (Below w.heap.size w w1) := Below.trans (by go_grown) (hb1.mono (by simp; omega))
  have HIL := Lib.hid hil
  have HMAT := Lib.hid hmat
  have HFL := Lib.hid hfl
  clear hb1 hil hmat hfl
  go_wp2_with fail
  refine (HM.out _ _ _ _ _ _ (HST.out.out w w1 HS.out HB1.out) HIL.out HFL.out HMAT.out).mono ?_
  rintro e w2 ⟨r, rfl, hP, hb2⟩
  have HP : Hid (P r) := hP
  have HR2 : Hid (Blk w2 w.heap.size 64 [.int .i64 0, .float .f64 0, .string ⟨#[]⟩, .slice none 0 0]) := HR1.out.below hb2 HR1.out.lt
  have HB2 : Hid (Below w.heap.size w w2) := HB1.out.trans (hb2.mono HB1.out.size)
  clear hP hb2 HIL HMAT HFL
  go_wp2_with fail
  refine (doorArg_res r _).mono ?_
  rintro e w3 ⟨rfl, hb3⟩
  have HR3 : Hid (Blk w3 w.heap.size 64 [.int .i64 0, .float .f64 0, .string ⟨#[]⟩, .slice none 0 0]) := HR2.out.below hb3 HR2.out.lt
  have HB3 : Hid (Below w.heap.size w w3) := HB2.out.trans (hb3.mono HB2.out.size)
  clear hb3
  go_wp2_with (refine store_row rfl 64 (.tmp 2) (.tmp 7) rfl w.heap.size 64 [.int .i64 0, .float .f64 0, .string ⟨#[]⟩, .slice none 0 0] r.atom.cells rfl (Atom.val_eq _) HR3.out (by rw [Atom.clen]; exact size64) (by rw [Atom.clen]; rfl) (Atom.one _) w.heap.size (Nat.le_refl _) ?_; intro w6 hr6 hb6 _)
  refine bodyPost_ret (ret_row rfl _ _ w.heap.size 64 r.atom.cells _ rfl hr6 Tryz.underlying64 rfl (by rw [Atom.clen]; exact size64)) rfl ⟨r, by rw [Atom.val_eq], HP.out, HB3.out.trans hb6⟩

set_option maxRecDepth 20000 in
set_option maxHeartbeats 1000000 in
theorem mina_impl (ts : List (List Atom)) (hts : TsOk ts) (P : Res → Prop) (v : Value) (w : World) (hl : TabVals w 29 37 v ts) (S : World → Prop) (hs : S w) (hst : Stable S) (hm : MethodTabs S 94 ts P) :
    Calls Tryz.prog 27 #[v] w (GivesVal P w) := by
  obtain ⟨g, c, rfl, _⟩ := hl.form hts.any
  have HL := Lib.hid hl
  have HM := Lib.hid hm
  have HS := Lib.hid hs
  have HST := Lib.hid hst
  have HTS := Lib.hid hts
  clear hl hm hs hst hts
  go_enter Tryz.func27, Tryz.ntmps27
  go_wp2_with fail
  refine (in_tabs ts HTS.out.len HTS.out.few _ g c (HL.out.keep (by go_grown))).mono ?_
  rintro e w1 ⟨v1, rfl, htv, hb1⟩
  have HR1 : Hid (Blk w1 w.heap.size 37 [.int .i64 0, .float .f64 0, .string ⟨#[]⟩, .slice none 0 0]) := (Blk.new w 37 [.int .i64 0, .float .f64 0, .string ⟨#[]⟩, .slice none 0 0]).below hb1 (by simp)
  have HB1 : Hid (Below w.heap.size w w1) := Below.trans (by go_grown) (hb1.mono (by simp))
  have HA := Lib.hid htv
  clear hb1 htv
  go_wp2_with fail
  refine (mina_door ts HTS.out P v1 _ HA.out S (HST.out.out w w1 HS.out HB1.out) HST.out HM.out).mono ?_
  rintro e w2 ⟨r, rfl, hP, hb2⟩
  have HP : Hid (P r) := hP
  have HR2 : Hid (Blk w2 w.heap.size 37 [.int .i64 0, .float .f64 0, .string ⟨#[]⟩, .slice none 0 0]) := HR1.out.below hb2 HR1.out.lt
  have HB2 : Hid (Below w.heap.size w w2) := HB1.out.trans (hb2.mono HB1.out.size)
  clear hP hb2
  go_wp2_with fail
  refine (out_atom r.atom _).mono ?_
  rintro e w3 ⟨rfl, hb3⟩
  have HR3 : Hid (Blk w3 w.heap.size 37 [.int .i64 0, .float .f64 0, .string ⟨#[]⟩, .slice none 0 0]) := HR2.out.below hb3 HR2.out.lt
  have HB3 : Hid (Below w.heap.size w w3) := HB2.out.trans (hb3.mono HB2.out.size)
  clear hb3
  go_wp2_with (refine store_row rfl 37 (.tmp 2) (.tmp 6) rfl w.heap.size 37 [.int .i64 0, .float .f64 0, .string ⟨#[]⟩, .slice none 0 0] r.atom.cells rfl (Atom.val_eq _) HR3.out (by rw [Atom.clen]; exact size37) (by rw [Atom.clen]; rfl) (Atom.one _) w.heap.size (Nat.le_refl _) ?_; intro w6 hr6 hb6 _)
  refine bodyPost_ret (ret_row rfl _ _ w.heap.size 37 r.atom.cells _ rfl hr6 Tryz.underlying37 rfl (by rw [Atom.clen]; exact size37)) rfl ⟨r, by rw [Atom.val_eq], HP.out, HB3.out.trans hb6⟩
end Go.Proofs.YtoebgbojpkflnaaGreatDoor
