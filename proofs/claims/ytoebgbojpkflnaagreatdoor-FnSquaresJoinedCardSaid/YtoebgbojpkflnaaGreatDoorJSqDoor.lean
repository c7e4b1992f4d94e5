/- Proof of FnSquaresJoined, a part: The five functions of law 3 through the thin package. -/
import Derived.Outline
import Derived.Test.YtoebgbojpkflnaaGreatDoorJTabFun
namespace Go.Proofs.YtoebgbojpkflnaaGreatDoor
open Go Go.RowKit
set_option maxRecDepth 20000 in
set_option maxHeartbeats 1000000 in
theorem xmy_door (ts : List (List Atom)) (hts : TsOk ts) (P : Res → Prop) (v : Value) (w : World) (hl : TabVals w 66 64 v ts) (S : World → Prop) (hs : S w) (hst : Stable S) (hm : MethodTabs S 83 ts P) :
    Calls Tryz.prog 53 #[v] w (GivesVal P w) := by
  obtain ⟨g, c, rfl, _⟩ := hl.form hts.any
  have HL := Lib.hid hl
  have HM := Lib.hid hm
  have HS := Lib.hid hs
  have HST := Lib.hid hst
  have HTS := Lib.hid hts
  clear hl hm hs hst hts
  go_enter Tryz.func53, Tryz.ntmps53
  go_wp2_with (go_at_call 82; go_in)
  refine (innerList_tabs ts HTS.out.ok HTS.out.ne HTS.out.len HTS.out.few _ g c (HL.out.keep (by go_grown))).mono ?_
  rintro e w1 ⟨L, bs, fs, rfl, hil, hfl, hmat, hb1⟩
  have HR1 : Hid (Blk w1 w.heap.size 64 [.int .i64 0, .float .f64 0, .string ⟨#[]⟩, .slice none 0 0]) := ((Blk.new w 64 [.int .i64 0, .float .f64 0, .string ⟨#[]⟩, .slice none 0 0]).alloc _).below hb1 (by simp; omega)
  have HB1 : Hid (Below w.heap.size w w1) := Below.trans (by go_grown) (hb1.mono (by simp; omega))
  have HIL := Lib.hid hil
  have HMAT := Lib.hid hmat
  have HFL := Lib.hid hfl
  clear hb1 hil hmat hfl
  go_wp2_with fail
  refine (HM.out _ _ _ _ _ _ (HST.out.out w w1 HS.out HB1.out) HIL.out HFL.out HMAT.out).mono ?_
  rintro e w2 ⟨r, rfl, hP, hb2⟩
  have HP : Hid (P r) := hP
  have HR2 : Hid (Blk w2 w.heap.size 64 [.int .i64 0, .float .f64 0, .string ⟨#[]⟩, .slice none 0 0]) := HR1.out.below hb2 HR1.out.lt
  have HB2 : Hid (Below w.heap.size w w2) := HB1.out.trans (hb2.mono HB1.out.size)
  clear hP hb2 HIL HMAT HFL
  go_wp2_with fail
  refine (doorArg_res r _).mono ?_
  rintro e w3 ⟨rfl, hb3⟩
  have HR3 : Hid (Blk w3 w.heap.size 64 [.int .i64 0, .float .f64 0, .string ⟨#[]⟩, .slice none 0 0]) := HR2.out.below hb3 HR2.out.lt
  have HB3 : Hid (Below w.heap.size w w3) := HB2.out.trans (hb3.mono HB2.out.size)
  clear hb3
  go_wp2_with (refine store_row rfl 64 (.tmp 2) (.tmp 7) rfl w.heap.size 64 [.int .i64 0, .float .f64 0, .string ⟨#[]⟩, .slice none 0 0] r.atom.cells rfl (Atom.val_eq _) HR3.out (by rw [Atom.clen]; exact size64) (by rw [Atom.clen]; rfl) (Atom.one _) w.heap.size (Nat.le_refl _) ?_; intro w6 hr6 hb6 _)
  refine bodyPost_ret (ret_row rfl _ _ w.heap.size 64 r.atom.cells _ rfl hr6 Tryz.underlying64 rfl (by rw [Atom.clen]; exact size64)) rfl ⟨r, by rw [Atom.val_eq], HP.out, HB3.out.trans hb6⟩
set_option maxRecDepth 20000 in
set_option maxHeartbeats 1000000 in
theorem xmy_impl (ts : List (List Atom)) (hts : TsOk ts) (P : Res → Prop) (v : Value) (w : World) (hl : TabVals w 29 37 v ts) (S : World → Prop) (hs : S w) (hst : Stable S) (hm : MethodTabs S 83 ts P) :
    Calls Tryz.prog 15 #[v] w (GivesVal P w) := by
  obtain ⟨g, c, rfl, _⟩ := hl.form hts.any
  have HL := Lib.hid hl
  have HM := Lib.hid hm
  have HS := Lib.hid hs
  have HST := Lib.hid hst
  have HTS := Lib.hid hts
  clear hl hm hs hst hts
  go_enter Tryz.func15, Tryz.ntmps15
  go_wp2_with fail
  refine (in_tabs ts HTS.out.len HTS.out.few _ g c (HL.out.keep (by go_grown))).mono ?_
  rintro e w1 ⟨v1, rfl, htv, hb1⟩
  have HR1 : Hid (Blk w1 w.heap.size 37 [.int .i64 0, .float .f64 0, .string ⟨#[]⟩, .slice none 0 0]) := (Blk.new w 37 [.int .i64 0, .float .f64 0, .string ⟨#[]⟩, .slice none 0 0]).below hb1 (by simp)
  have HB1 : Hid (Below w.heap.size w w1) := Below.trans (by go_grown) (hb1.mono (by simp))
  have HA := Lib.hid htv
  clear hb1 htv
  go_wp2_with fail
  refine (xmy_door ts HTS.out P v1 _ HA.out S (HST.out.out w w1 HS.out HB1.out) HST.out HM.out).mono ?_
  rintro e w2 ⟨r, rfl, hP, hb2⟩
  have HP : Hid (P r) := hP
  have HR2 : Hid (Blk w2 w.heap.size 37 [.int .i64 0, .float .f64 0, .string ⟨#[]⟩, .slice none 0 0]) := HR1.out.below hb2 HR1.out.lt
  have HB2 : Hid (Below w.heap.size w w2) := HB1.out.trans (hb2.mono HB1.out.size)
  clear hP hb2
  go_wp2_with fail
  refine (out_atom r.atom _).mono ?_
  rintro e w3 ⟨rfl, hb3⟩
  have HR3 : Hid (Blk w3 w.heap.size 37 [.int .i64 0, .float .f64 0, .string ⟨#[]⟩, .slice none 0 0]) := HR2.out.below hb3 HR2.out.lt
  have HB3 : Hid (Below w.heap.size w w3) := HB2.out.trans (hb3.mono HB2.out.size)
  clear hb3
  go_wp2_with (refine store_row rfl 37 (.tmp 2) (.tmp 6) rfl w.heap.size 37 [.int .i64 0, .float .f64 0, .string ⟨#[]⟩, .slice none 0 0] r.atom.cells rfl (Atom.val_eq _) HR3.out (by rw [Atom.clen]; exact size37) (by rw [Atom.clen]; rfl) (Atom.one _) w.heap.size (Nat.le_refl _) ?_; intro w6 hr6 hb6 _)
  refine bodyPost_ret (ret_row rfl _ _ w.heap.size 37 r.atom.cells _ rfl hr6 Tryz.underlying37 rfl (by rw [Atom.clen]; exact size37)) rfl ⟨r, by rw [Atom.val_eq], HP.out, HB3.out.trans hb6⟩
set_option maxRecDepth 20000 in
set_option maxHeartbeats 1000000 in
theorem xpy_door (ts : List (List Atom)) (hts : TsOk ts) (P : Res → Prop) (v : Value) (w : World) (hl : TabVals w 66 64 v ts) (S : World → Prop) (hs : S w) (hst : Stable S) (hm : MethodTabs S 85 ts P) :
    Calls Tryz.prog 55 #[v] w (GivesVal P w) := by
  obtain ⟨g, c, rfl, _⟩ := hl.form hts.any
  have HL := Lib.hid hl
  have HM := Lib.hid hm
  have HS := Lib.hid hs
  have HST := Lib.hid hst
  have HTS := Lib.hid hts
  clear hl hm hs hst hts
  go_enter Tryz.func55, Tryz.ntmps55
  go_wp2_with (go_at_call 82; go_in)
  refine (innerList_tabs ts HTS.out.ok HTS.out.ne HTS.out.len HTS.out.few _ g c (HL.out.keep (by go_grown))).mono ?_
  rintro e w1 ⟨L, bs, fs, rfl, hil, hfl, hmat, hb1⟩
  have HR1 : Hid (Blk w1 w.heap.size 64 [.int .i64 0, .float .f64 0, .string ⟨#[]⟩, .slice none 0 0]) := ((Blk.new w 64 [.int .i64 0, .float .f64 0, .string ⟨#[]⟩, .slice none 0 0]).alloc _).below hb1 (by simp; omega)
  have HB1 : Hid (Below w.heap.size w w1) := Below.trans (by go_grown) (hb1.mono (by simp; omega))
  have HIL := Lib.hid hil
  have HMAT := Lib.hid hmat
  have HFL := Lib.hid hfl
  clear hb1 hil hmat hfl
  go_wp2_with fail
  refine (HM.out _ _ _ _ _ _ (HST.out.out w w1 HS.out HB1.out) HIL.out HFL.out HMAT.out).mono ?_
  rintro e w2 ⟨r, rfl, hP, hb2⟩
  have HP : Hid (P r) := hP
  have HR2 : Hid (Blk w2 w.heap.size 64 [.int .i64 0, .float .f64 0, .string ⟨#[]⟩, .slice none 0 0]) := HR1.out.below hb2 HR1.out.lt
  have HB2 : Hid (Below w.heap.size w w2) := HB1.out.trans (hb2.mono HB1.out.size)
  clear hP hb2 HIL HMAT HFL
  go_wp2_with fail
  refine (doorArg_res r _).mono ?_
  rintro e w3 ⟨rfl, hb3⟩
  have HR3 : Hid (Blk w3 w.heap.size 64 [.int .i64 0, .float .f64 0, .string ⟨#[]⟩, .slice none 0 0]) := HR2.out.below hb3 HR2.out.lt
  have HB3 : Hid (Below w.heap.size w w3) := HB2.out.trans (hb3.mono HB2.out.size)
  clear hb3
  go_wp2_with (refine store_row rfl 64 (.tmp 2) (.tmp 7) rfl w.heap.size 64 [.int .i64 0, .float .f64 0, .string ⟨#[]⟩, .slice none 0 0] r.atom.cells rfl (Atom.val_eq _) HR3.out (by rw [Atom.clen]; exact size64) (by rw [Atom.clen]; rfl) (Atom.one _) w.heap.size (Nat.le_refl _) ?_; intro w6 hr6 hb6 _)
  refine bodyPost_ret (ret_row rfl _ _ w.heap.size 64 r.atom.cells _ rfl hr6 Tryz.underlying64 rfl (by rw [Atom.clen]; exact size64)) rfl ⟨r, by rw [Atom.val_eq], HP.out, HB3.out.trans hb6⟩
set_option maxRecDepth 20000 in
set_option maxHeartbeats 1000000 in
theorem xpy_impl (ts : List (List Atom)) (hts : TsOk ts) (P : Res → Prop) (v : Value) (w : World) (hl : TabVals w 29 37 v ts) (S : World → Prop) (hs : S w) (hst : Stable S) (hm : MethodTabs S 85 ts P) :
    Calls Tryz.prog 16 #[v] w (GivesVal P w) := by
  obtain ⟨g, c, rfl, _⟩ := hl.form hts.any
  have HL := Lib.hid hl
  have HM := Lib.hid hm
  have HS := Lib.hid hs
  have HST := Lib.hid hst
  have HTS := Lib.hid hts
  clear hl hm hs hst hts
  go_enter Tryz.func16, Tryz.ntmps16
  go_wp2_with fail
  refine (in_tabs ts HTS.out.len HTS.out.few _ g c (HL.out.keep (by go_grown))).mono ?_
  rintro e w1 ⟨v1, rfl, htv, hb1⟩
  have HR1 : Hid (Blk w1 w.heap.size 37 [.int .i64 0, .float .f64 0, .string ⟨#[]⟩, .slice none 0 0]) := (Blk.new w 37 [.int .i64 0, .float .f64 0, .string ⟨#[]⟩, .slice none 0 0]).below hb1 (by simp)
  have HB1 : Hid (Below w.heap.size w w1) := Below.trans (by go_grown) (hb1.mono (by simp))
  have HA := Lib.hid htv
  clear hb1 htv
  go_wp2_with fail
  refine (xpy_door ts HTS.out P v1 _ HA.out S (HST.out.out w w1 HS.out HB1.out) HST.out HM.out).mono ?_
  rintro e w2 ⟨r, rfl, hP, hb2⟩
  have HP : Hid (P r) := hP
  have HR2 : Hid (Blk w2 w.heap.size 37 [.int .i64 0, .float .f64 0, .string ⟨#[]⟩, .slice none 0 0]) := HR1.out.below hb2 HR1.out.lt
  have HB2 : Hid (Below w.heap.size w w2) := HB1.out.trans (hb2.mono HB1.out.size)
  clear hP hb2
  go_wp2_with fail
  refine (out_atom r.atom _).mono ?_
  rintro e w3 ⟨rfl, hb3⟩
  have HR3 : Hid (Blk w3 w.heap.size 37 [.int .i64 0, .float .f64 0, .string ⟨#[]⟩, .slice none 0 0]) := HR2.out.below hb3 HR2.out.lt
  have HB3 : Hid (Below w.heap.size w w3) := HB2.out.trans (hb3.mono HB2.out.size)
  clear hb3
  go_wp2_with (refine store_row rfl 37 (.tmp 2) (.tmp 6) rfl w.heap.size 37 [.int .i64 0, .float .f64 0, .string ⟨#[]⟩, .slice none 0 0] r.atom.cells rfl (Atom.val_eq _) HR3.out (by rw [Atom.clen]; exact size37) (by rw [Atom.clen]; rfl) (Atom.one _) w.heap.size (Nat.le_refl _) ?_; intro w6 hr6 hb6 _)
  refine bodyPost_ret (ret_row rfl _ _ w.heap.size 37 r.atom.cells _ rfl hr6 Tryz.underlying37 rfl (by rw [Atom.clen]; exact size37)) rfl ⟨r, by rw [Atom.val_eq], HP.out, HB3.out.trans hb6⟩
set_option maxRecDepth 20000 in
set_option maxHeartbeats 1000000 in
theorem prod_door (ts : List (List Atom)) (hts : TsOk ts) (P : Res → Prop) (v : Value) (w : World) (hl : TabVals w 66 64 v ts) (S : World → Prop) (hs : S w) (hst : Stable S) (hm : MethodTabs S 86 ts P) :
    Calls Tryz.prog 56 #[v] w (GivesVal P w) := by
  obtain ⟨g, c, rfl, _⟩ := hl.form hts.any
  have HL := Lib.hid hl
  have HM := Lib.hid hm
  have HS := Lib.hid hs
  have HST := Lib.hid hst
  have HTS := Lib.hid hts
  clear hl hm hs hst hts
  go_enter Tryz.func56, Tryz.ntmps56
  go_wp2_with (go_at_call 82; go_in)
  refine (innerList_tabs ts HTS.out.ok HTS.out.ne HTS.out.len HTS.out.few _ g c (HL.out.keep (by go_grown))).mono ?_
  rintro e w1 ⟨L, bs, fs, rfl, hil, hfl, hmat, hb1⟩
  have HR1 : Hid (Blk w1 w.heap.size 64 [.int .i64 0, .float .f64 0, .string ⟨#[]⟩, .slice none 0 0]) := ((Blk.new w 64 [.int .i64 0, .float .f64 0, .string ⟨#[]⟩, .slice none 0 0]).alloc _).below hb1 (by simp; omega)
  have HB1 : Hid (Below w.heap.size w w1) := Below.trans (by go_grown) (hb1.mono (by simp; omega))
  have HIL := Lib.hid hil
  have HMAT := Lib.hid hmat
  have HFL := Lib.hid hfl
  clear hb1 hil hmat hfl
  go_wp2_with fail
  refine (HM.out _ _ _ _ _ _ (HST.out.out w w1 HS.out HB1.out) HIL.out HFL.out HMAT.out).mono ?_
  rintro e w2 ⟨r, rfl, hP, hb2⟩
  have HP : Hid (P r) := hP
  have HR2 : Hid (Blk w2 w.heap.size 64 [.int .i64 0, .float .f64 0, .string ⟨#[]⟩, .slice none 0 0]) := HR1.out.below hb2 HR1.out.lt
  have HB2 : Hid (Below w.heap.size w w2) := HB1.out.trans (hb2.mono HB1.out.size)
  clear hP hb2 HIL HMAT HFL
  go_wp2_with fail
  refine (doorArg_res r _).mono ?_
  rintro e w3 ⟨rfl, hb3⟩
  have HR3 : Hid (Blk w3 w.heap.size 64 [.int .i64 0, .float .f64 0, .string ⟨#[]⟩, .slice none 0 0]) := HR2.out.below hb3 HR2.out.lt
  have HB3 : Hid (Below w.heap.size w w3) := HB2.out.trans (hb3.mono HB2.out.size)
  clear hb3
  go_wp2_with (refine store_row rfl 64 (.tmp 2) (.tmp 7) rfl w.heap.size 64 [.int .i64 0, .float .f64 0, .string ⟨#[]⟩, .slice none 0 0] r.atom.cells rfl (Atom.val_eq _) HR3.out (by rw [Atom.clen]; exact size64) (by rw [Atom.clen]; rfl) (Atom.one _) w.heap.size (Nat.le_refl _) ?_; intro w6 hr6 hb6 _)
  refine bodyPost_ret (ret_row rfl _ _ w.heap.size 64 r.atom.cells _ rfl hr6 Tryz.underlying64 rfl (by rw [Atom.clen]; exact size64)) rfl ⟨r, by rw [Atom.val_eq], HP.out, HB3.out.trans hb6⟩
set_option maxRecDepth 20000 in
set_option maxHeartbeats 1000000 in
theorem prod_impl (ts : List (List Atom)) (hts : TsOk ts) (P : Res → Prop) (v : Value) (w : World) (hl : TabVals w 29 37 v ts) (S : World → Prop) (hs : S w) (hst : Stable S) (hm : MethodTabs S 86 ts P) :
    Calls Tryz.prog 17 #[v] w (GivesVal P w) := by
  obtain ⟨g, c, rfl, _⟩ := hl.form hts.any
  have HL := Lib.hid hl
  have HM := Lib.hid hm
  have HS := Lib.hid hs
  have HST := Lib.hid hst
  have HTS := Lib.hid hts
  clear hl hm hs hst hts
  go_enter Tryz.func17, Tryz.ntmps17
  go_wp2_with fail
  refine (in_tabs ts HTS.out.len HTS.out.few _ g c (HL.out.keep (by go_grown))).mono ?_
  rintro e w1 ⟨v1, rfl, htv, hb1⟩
  have HR1 : Hid (Blk w1 w.heap.size 37 [.int .i64 0, .float .f64 0, .string ⟨#[]⟩, .slice none 0 0]) := (Blk.new w 37 [.int .i64 0, .float .f64 0, .string ⟨#[]⟩, .slice none 0 0]).below hb1 (by simp)
  have HB1 : Hid (Below w.heap.size w w1) := Below.trans (by go_grown) (hb1.mono (by simp))
  have HA := Lib.hid htv
  clear hb1 htv
  go_wp2_with fail
  refine (prod_door ts HTS.out P v1 _ HA.out S (HST.out.out w w1 HS.out HB1.out) HST.out HM.out).mono ?_
  rintro e w2 ⟨r, rfl, hP, hb2⟩
  have HP : Hid (P r) := hP
  have HR2 : Hid (Blk w2 w.heap.size 37 [.int .i64 0, .float .f64 0, .string ⟨#[]⟩, .slice none 0 0]) := HR1.out.below hb2 HR1.out.lt
  have HB2 : Hid (Below w.heap.size w w2) := HB1.out.trans (hb2.mono HB1.out.size)
  clear hP hb2
  go_wp2_with fail
  refine (out_atom r.atom _).mono ?_
  rintro e w3 ⟨rfl, hb3⟩
  have HR3 : Hid (Blk w3 w.heap.size 37 [.int .i64 0, .float .f64 0, .string ⟨#[]⟩, .slice none 0 0]) := HR2.out.below hb3 HR2.out.lt
  have HB3 : Hid (Below w.heap.size w w3) := HB2.out.trans (hb3.mono HB2.out.size)
  clear hb3
  go_wp2_with (refine store_row rfl 37 (.tmp 2) (.tmp 6) rfl w.heap.size 37 [.int .i64 0, .float .f64 0, .string ⟨#[]⟩, .slice none 0 0] r.atom.cells rfl (Atom.val_eq _) HR3.out (by rw [Atom.clen]; exact size37) (by rw [Atom.clen]; rfl) (Atom.one _) w.heap.size (Nat.le_refl _) ?_; intro w6 hr6 hb6 _)
  refine bodyPost_ret (ret_row rfl _ _ w.heap.size 37 r.atom.cells _ rfl hr6 Tryz.underlying37 rfl (by rw [Atom.clen]; exact size37)) rfl ⟨r, by rw [Atom.val_eq], HP.out, HB3.out.trans hb6⟩
set_option maxRecDepth 20000 in
set_option maxHeartbeats 1000000 in
theorem xsy_door (ts : List (List Atom)) (hts : TsOk ts) (P : Res → Prop) (v : Value) (w : World) (hl : TabVals w 66 64 v ts) (S : World → Prop) (hs : S w) (hst : Stable S) (hm : MethodTabs S 87 ts P) :
    Calls Tryz.prog 57 #[v] w (GivesVal P w) := by
  obtain ⟨g, c, rfl, _⟩ := hl.form hts.any
  have HL := Lib.hid hl
  have HM := Lib.hid hm
  have HS := Lib.hid hs
  have HST := Lib.hid hst
  have HTS := Lib.hid hts
  clear hl hm hs hst hts
  go_enter Tryz.func57, Tryz.ntmps57
  go_wp2_with (go_at_call 82; go_in)
  refine (innerList_tabs ts HTS.out.ok HTS.out.ne HTS.out.len HTS.out.few _ g c (HL.out.keep (by go_grown))).mono ?_
  rintro e w1 ⟨L, bs, fs, rfl, hil, hfl, hmat, hb1⟩
  have HR1 : Hid (Blk w1 w.heap.size 64 [.int .i64 0, .float .f64 0, .string ⟨#[]⟩, .slice none 0 0]) := ((Blk.new w 64 [.int .i64 0, .float .f64 0, .string ⟨#[]⟩, .slice none 0 0]).alloc _).below hb1 (by simp; omega)
  have HB1 : Hid (Below w.heap.size w w1) := Below.trans (by go_grown) (hb1.mono (by simp; omega))
  have HIL := Lib.hid hil
  have HMAT := Lib.hid hmat
  have HFL := Lib.hid hfl
  clear hb1 hil hmat hfl
  go_wp2_with fail
  refine (HM.out _ _ _ _ _ _ (HST.out.out w w1 HS.out HB1.out) HIL.out HFL.out HMAT.out).mono ?_
  rintro e w2 ⟨r, rfl, hP, hb2⟩
  have HP : Hid (P r) := hP
  have HR2 : Hid (Blk w2 w.heap.size 64 [.int .i64 0, .float .f64 0, .string ⟨#[]⟩, .slice none 0 0]) := HR1.out.below hb2 HR1.out.lt
  have HB2 : Hid (Below w.heap.size w w2) := HB1.out.trans (hb2.mono HB1.out.size)
  clear hP hb2 HIL HMAT HFL
  go_wp2_with fail
  refine (doorArg_res r _).mono ?_
  rintro e w3 ⟨rfl, hb3⟩
  have HR3 : Hid (Blk w3 w.heap.size 64 [.int .i64 0, .float .f64 0, .string ⟨#[]⟩, .slice none 0 0]) := HR2.out.below hb3 HR2.out.lt
  have HB3 : Hid (Below w.heap.size w w3) := HB2.out.trans (hb3.mono HB2.out.size)
  clear hb3
  go_wp2_with (refine store_row rfl 64 (.tmp 2) (.tmp 7) rfl w.heap.size 64 [.int .i64 0, .float .f64 0, .string ⟨#[]⟩, .slice none 0 0] r.atom.cells rfl (Atom.val_eq _) HR3.out (by rw [Atom.clen]; exact size64) (by rw [Atom.clen]; rfl) (Atom.one _) w.heap.size (Nat.le_refl _) ?_; intro w6 hr6 hb6 _)
  refine bodyPost_ret (ret_row rfl _ _ w.heap.size 64 r.atom.cells _ rfl hr6 Tryz.underlying64 rfl (by rw [Atom.clen]; exact size64)) rfl ⟨r, by rw [Atom.val_eq], HP.out, HB3.out.trans hb6⟩
set_option maxRecDepth 20000 in
set_option maxHeartbeats 1000000 in
theorem xsy_impl (ts : List (List Atom)) (hts : TsOk ts) (P : Res → Prop) (v : Value) (w : World) (hl : TabVals w 29 37 v ts) (S : World → Prop) (hs : S w) (hst : Stable S) (hm : MethodTabs S 87 ts P) :
    Calls Tryz.prog 18 #[v] w (GivesVal P w) := by
  obtain ⟨g, c, rfl, _⟩ := hl.form hts.any
  have HL := Lib.hid hl
  have HM := Lib.hid hm
  have HS := Lib.hid hs
  have HST := Lib.hid hst
  have HTS := Lib.hid hts
  clear hl hm hs hst hts
  go_enter Tryz.func18, Tryz.ntmps18
  go_wp2_with fail
  refine (in_tabs ts HTS.out.len HTS.out.few _ g c (HL.out.keep (by go_grown))).mono ?_
  rintro e w1 ⟨v1, rfl, htv, hb1⟩
  have HR1 : Hid (Blk w1 w.heap.size 37 [.int .i64 0, .float .f64 0, .string ⟨#[]⟩, .slice none 0 0]) := (Blk.new w 37 [.int .i64 0, .float .f64 0, .string ⟨#[]⟩, .slice none 0 0]).below hb1 (by simp)
  have HB1 : Hid (Below w.heap.size w w1) := Below.trans (by go_grown) (hb1.mono (by simp))
  have HA := Lib.hid htv
  clear hb1 htv
  go_wp2_with fail
  refine (xsy_door ts HTS.out P v1 _ HA.out S (HST.out.out w w1 HS.out HB1.out) HST.out HM.out).mono ?_
  rintro e w2 ⟨r, rfl, hP, hb2⟩
  have HP : Hid (P r) := hP
  have HR2 : Hid (Blk w2 w.heap.size 37 [.int .i64 0, .float .f64 0, .string ⟨#[]⟩, .slice none 0 0]) := HR1.out.below hb2 HR1.out.lt
  have HB2 : Hid (Below w.heap.size w w2) := HB1.out.trans (hb2.mono HB1.out.size)
  clear hP hb2
  go_wp2_with fail
  refine (out_atom r.atom _).mono ?_
  rintro e w3 ⟨rfl, hb3⟩
  have HR3 : Hid (Blk w3 w.heap.size 37 [.int .i64 0, .float .f64 0, .string ⟨#[]⟩, .slice none 0 0]) := HR2.out.below hb3 HR2.out.lt
  have HB3 : Hid (Below w.heap.size w w3) := HB2.out.trans (hb3.mono HB2.out.size)
  clear hb3
  go_wp2_with (refine store_row rfl 37 (.tmp 2) (.tmp 6) rfl w.heap.size 37 [.int .i64 0, .float .f64 0, .string ⟨#[]⟩, .slice none 0 0] r.atom.cells rfl (Atom.val_eq _) HR3.out (by rw [Atom.clen]; exact size37) (by rw [Atom.clen]; rfl) (Atom.one _) w.heap.size (Nat.le_refl _) ?_; intro w6 hr6 hb6 _)
  refine bodyPost_ret (ret_row rfl _ _ w.heap.size 37 r.atom.cells _ rfl hr6 Tryz.underlying37 rfl (by rw [Atom.clen]; exact size37)) rfl ⟨r, by rw [Atom.val_eq], HP.out, HB3.out.trans hb6⟩
set_option maxRecDepth 20000 in
set_option maxHeartbeats 1000000 in
theorem ssq_door (ts : List (List Atom)) (hts : TsOk ts) (P : Res → Prop) (v : Value) (w : World) (hl : TabVals w 66 64 v ts) (S : World → Prop) (hs : S w) (hst : Stable S) (hm : MethodTabs S 88 ts P) :
    Calls Tryz.prog 58 #[v] w (GivesVal P w) := by
  obtain ⟨g, c, rfl, _⟩ := hl.form hts.any
  have HL := Lib.hid hl
  have HM := Lib.hid hm
  have HS := Lib.hid hs
  have HST := Lib.hid hst
  have HTS := Lib.hid hts
  clear hl hm hs hst hts
  go_enter Tryz.func58, Tryz.ntmps58
  go_wp2_with (go_at_call 82; go_in)
  refine (innerList_tabs ts HTS.out.ok HTS.out.ne HTS.out.len HTS.out.few _ g c (HL.out.keep (by go_grown))).mono ?_
  rintro e w1 ⟨L, bs, fs, rfl, hil, hfl, hmat, hb1⟩
  have HR1 : Hid (Blk w1 w.heap.size 64 [.int .i64 0, .float .f64 0, .string ⟨#[]⟩, .slice none 0 0]) := ((Blk.new w 64 [.int .i64 0, .float .f64 0, .string ⟨#[]⟩, .slice none 0 0]).alloc _).below hb1 (by simp; omega)
  have HB1 : Hid (Below w.heap.size w w1) := Below.trans (by go_grown) (hb1.mono (by simp; omega))
  have HIL := Lib.hid hil
  have HMAT := Lib.hid hmat
  have HFL := Lib.hid hfl
  clear hb1 hil hmat hfl
  go_wp2_with fail
  refine (HM.out _ _ _ _ _ _ (HST.out.out w w1 HS.out HB1.out) HIL.out HFL.out HMAT.out).mono ?_
  rintro e w2 ⟨r, rfl, hP, hb2⟩
  have HP : Hid (P r) := hP
  have HR2 : Hid (Blk w2 w.heap.size 64 [.int .i64 0, .float .f64 0, .string ⟨#[]⟩, .slice none 0 0]) := HR1.out.below hb2 HR1.out.lt
  have HB2 : Hid (Below w.heap.size w w2) := HB1.out.trans (hb2.mono HB1.out.size)
  clear hP hb2 HIL HMAT HFL
  go_wp2_with fail
  refine (doorArg_res r _).mono ?_
  rintro e w3 ⟨rfl, hb3⟩
  have HR3 : Hid (Blk w3 w.heap.size 64 [.int .i64 0, .float .f64 0, .string ⟨#[]⟩, .slice none 0 0]) := HR2.out.below hb3 HR2.out.lt
  have HB3 : Hid (Below w.heap.size w w3) := HB2.out.trans (hb3.mono HB2.out.size)
  clear hb3
  go_wp2_with (refine store_row rfl 64 (.tmp 2) (.tmp 7) rfl w.heap.size 64 [.int .i64 0, .float .f64 0, .string ⟨#[]⟩, .slice none 0 0] r.atom.cells rfl (Atom.val_eq _) HR3.out (by rw [Atom.clen]; exact size64) (by rw [Atom.clen]; rfl) (Atom.one _) w.heap.size (Nat.le_refl _) ?_; intro w6 hr6 hb6 _)
  refine bodyPost_ret (ret_row rfl _ _ w.heap.size 64 r.atom.cells _ rfl hr6 Tryz.underlying64 rfl (by rw [Atom.clen]; exact size64)) rfl ⟨r, by rw [Atom.val_eq], HP.out, HB3.out.trans hb6⟩
set_option maxRecDepth 20000 in
set_option maxHeartbeats 1000000 in
theorem ssq_impl (ts : List (List Atom)) (hts : TsOk ts) (P : Res → Prop) (v : Value) (w : World) (hl : TabVals w 29 37 v ts) (S : World → Prop) (hs : S w) (hst : Stable S) (hm : MethodTabs S 88 ts P) :
    Calls Tryz.prog 19 #[v] w (GivesVal P w) := by
  obtain ⟨g, c, rfl, _⟩ := hl.form hts.any
  have HL := Lib.hid hl
  have HM := Lib.hid hm
  have HS := Lib.hid hs
  have HST := Lib.hid hst
  have HTS := Lib.hid hts
  clear hl hm hs hst hts
  go_enter Tryz.func19, Tryz.ntmps19
  go_wp2_with fail
  refine (in_tabs ts HTS.out.len HTS.out.few _ g c (HL.out.keep (by go_grown))).mono ?_
  rintro e w1 ⟨v1, rfl, htv, hb1⟩
  have HR1 : Hid (Blk w1 w.heap.size 37 [.int .i64 0, .float .f64 0, .string ⟨#[]⟩, .slice none 0 0]) := (Blk.new w 37 [.int .i64 0, .float .f64 0, .string ⟨#[]⟩, .slice none 0 0]).below hb1 (by simp)
  have HB1 : Hid (Below w.heap.size w w1) := Below.trans (by go_grown) (hb1.mono (by simp))
  have HA := Lib.hid htv
  clear hb1 htv
  go_wp2_with fail
  refine (ssq_door ts HTS.out P v1 _ HA.out S (HST.out.out w w1 HS.out HB1.out) HST.out HM.out).mono ?_
  rintro e w2 ⟨r, rfl, hP, hb2⟩
  have HP : Hid (P r) := hP
  have HR2 : Hid (Blk w2 w.heap.size 37 [.int .i64 0, .float .f64 0, .string ⟨#[]⟩, .slice none 0 0]) := HR1.out.below hb2 HR1.out.lt
  have HB2 : Hid (Below w.heap.size w w2) := HB1.out.trans (hb2.mono HB1.out.size)
  clear hP hb2
  go_wp2_with fail
  refine (out_atom r.atom _).mono ?_
  rintro e w3 ⟨rfl, hb3⟩
  have HR3 : Hid (Blk w3 w.heap.size 37 [.int .i64 0, .float .f64 0, .string ⟨#[]⟩, .slice none 0 0]) := HR2.out.below hb3 HR2.out.lt
  have HB3 : Hid (Below w.heap.size w w3) := HB2.out.trans (hb3.mono HB2.out.size)
  clear hb3
  go_wp2_with (refine store_row rfl 37 (.tmp 2) (.tmp 6) rfl w.heap.size 37 [.int .i64 0, .float .f64 0, .string ⟨#[]⟩, .slice none 0 0] r.atom.cells rfl (Atom.val_eq _) HR3.out (by rw [Atom.clen]; exact size37) (by rw [Atom.clen]; rfl) (Atom.one _) w.heap.size (Nat.le_refl _) ?_; intro w6 hr6 hb6 _)
  refine bodyPost_ret (ret_row rfl _ _ w.heap.size 37 r.atom.cells _ rfl hr6 Tryz.underlying37 rfl (by rw [Atom.clen]; exact size37)) rfl ⟨r, by rw [Atom.val_eq], HP.out, HB3.out.trans hb6⟩
end Go.Proofs.YtoebgbojpkflnaaGreatDoor
