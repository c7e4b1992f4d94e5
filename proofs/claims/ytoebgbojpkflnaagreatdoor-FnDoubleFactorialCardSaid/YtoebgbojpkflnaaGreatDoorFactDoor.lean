/- FACTDOUBLE and FACT through the thin package: numbers from 0 to 14. Condition for FACTDOUBLE: FormatFloat's tables as the row lists them. -/
import Derived.Test.YtoebgbojpkflnaaGreatDoorFactM
import Derived.Test.YtoebgbojpkflnaaGreatDoorFactN
namespace Go.Proofs.YtoebgbojpkflnaaGreatDoor
open Go Go.RowKit
theorem dbl_gives (n : Nat) (hn : n ≤ 14) : MethodGivesS PowS 97 [.num (fx n 0)] (fun r => r = .text ⟨(decOf (dbl n)).toArray⟩) := by
  intro F B L bs w ht hil
  have hl := hil.len
  match bs, hl, hil with
  | [b0], _, hil => exact dbl_1 n hn F B L b0 w ht hil
theorem fct_gives (n : Nat) (hn : n ≤ 14) : MethodGives 98 [.num (fx n 0)] (fun r => r = .num (fx (fct n : Int) 0)) := by
  intro F B L bs w hil
  have hl := hil.len
  match bs, hl, hil with
  | [b0], _, hil => exact fct_1 n hn F B L b0 w hil

set_option maxRecDepth 20000 in
set_option maxHeartbeats 1000000 in
theorem dbl_door (l : List Atom) (P : Res → Prop) (v : Value) (w : World) (hl : ArgsAt w 64 v l) (S : World → Prop) (hs : S w) (hst : Stable S) (hm : MethodGivesS S 97 l P) :
    Calls Tryz.prog 71 #[v] w (GivesVal P w) := by
  obtain ⟨g, c, hv⟩ := hl.form
  have HL : Hid (ArgsAt w 64 v l) := hl
  have HM : Hid (MethodGivesS S 97 l P) := hm
  have HS : Hid (S w) := hs
  have HST : Hid (Stable S) := hst
  have HV : Hid (v = .slice (some ⟨g, 0, none⟩) l.length c) := hv
  clear hl hm hv hs hst
  go_enter Tryz.func71, Tryz.ntmps71
  go_wp2_with (go_at_call 82; go_in)
  refine (innerList_plain l v _ g c HV.out (HL.out.1.keep (by go_grown)) HL.out.2.2.2 HL.out.2.2.1).mono ?_
  rintro e w1 ⟨L, bs, rfl, hil, hb1⟩
  have HR1 : Hid (Blk w1 w.heap.size 64 [.int .i64 0, .float .f64 0, .string ⟨#[]⟩, .slice none 0 0]) := ((Blk.new w 64 [.int .i64 0, .float .f64 0, .string ⟨#[]⟩, .slice none 0 0]).alloc _).below hb1 (by simp; omega)
  have HB1 : Hid (Below w.heap.size w w1) := Below.trans (by go_grown) (hb1.mono (by simp; omega))
  clear hb1
  have HIL : Hid (IsList _ w1 L bs (l.map fun a => .iface 84 a.fa)) := hil
  clear hil
  go_wp2_with fail
  refine (HM.out _ _ _ _ _ (HST.out.out w w1 HS.out HB1.out) HIL.out).mono ?_
  rintro e w2 ⟨r, rfl, hP, hb2⟩
  have HP : Hid (P r) := hP
  have HR2 : Hid (Blk w2 w.heap.size 64 [.int .i64 0, .float .f64 0, .string ⟨#[]⟩, .slice none 0 0]) := HR1.out.below hb2 HR1.out.lt
  have HB2 : Hid (Below w.heap.size w w2) := HB1.out.trans (hb2.mono HB1.out.size)
  clear hP hb2 HIL
  go_wp2_with fail
  refine (doorArg_res r _).mono ?_
  rintro e w3 ⟨rfl, hb3⟩
  have HR3 : Hid (Blk w3 w.heap.size 64 [.int .i64 0, .float .f64 0, .string ⟨#[]⟩, .slice none 0 0]) := HR2.out.below hb3 HR2.out.lt
  have HB3 : Hid (Below w.heap.size w w3) := HB2.out.trans (hb3.mono HB2.out.size)
  clear hb3
  go_wp2_with (refine store_row rfl 64 (.tmp 2) (.tmp 7) rfl w.heap.size 64 [.int .i64 0, .float .f64 0, .string ⟨#[]⟩, .slice none 0 0] r.atom.cells rfl (Atom.val_eq _) HR3.out (by rw [Atom.clen]; exact size64) (by rw [Atom.clen]; rfl) (Atom.one _) w.heap.size (Nat.le_refl _) ?_; intro w6 hr6 hb6 _)
  refine bodyPost_ret (ret_row rfl _ _ w.heap.size 64 r.atom.cells _ rfl hr6 Tryz.underlying64 rfl (by rw [Atom.clen]; exact size64)) rfl ⟨r, by rw [Atom.val_eq], HP.out, HB3.out.trans hb6⟩

set_option maxRecDepth 20000 in
set_option maxHeartbeats 1000000 in
theorem dbl_impl (l : List Atom) (P : Res → Prop) (v : Value) (w : World) (hl : ArgsAt w 37 v l) (S : World → Prop) (hs : S w) (hst : Stable S) (hm : MethodGivesS S 97 l P) :
    Calls Tryz.prog 30 #[v] w (GivesVal P w) := by
  obtain ⟨g, c, hv⟩ := hl.form
  have HL : Hid (ArgsAt w 37 v l) := hl
  have HM : Hid (MethodGivesS S 97 l P) := hm
  have HS : Hid (S w) := hs
  have HST : Hid (Stable S) := hst
  have HV : Hid (v = .slice (some ⟨g, 0, none⟩) l.length c) := hv
  clear hl hm hv hs hst
  go_enter Tryz.func30, Tryz.ntmps30
  go_wp2_with fail
  refine (in_plain (l.map Atom.cells) v _ g c (by rw [List.length_map]; exact HV.out) (HL.out.1.keep (by go_grown)) (by intro x hx; obtain ⟨a, _, rfl⟩ := List.mem_map.1 hx; exact a.trio) (by rw [List.length_map]; exact HL.out.2.2.1)).mono ?_
  rintro e w1 ⟨v1, rfl, harr, hb1⟩
  have HR1 : Hid (Blk w1 w.heap.size 37 [.int .i64 0, .float .f64 0, .string ⟨#[]⟩, .slice none 0 0]) := (Blk.new w 37 [.int .i64 0, .float .f64 0, .string ⟨#[]⟩, .slice none 0 0]).below hb1 (by simp)
  have HB1 : Hid (Below w.heap.size w w1) := Below.trans (by go_grown) (hb1.mono (by simp))
  have HA : Hid (ArgsAt w1 64 v1 l) := ⟨harr.base (Nat.zero_le _), HL.out.2⟩
  clear hb1 harr
  go_wp2_with fail
  refine (dbl_door l P v1 _ HA.out S (HST.out.out w w1 HS.out HB1.out) HST.out HM.out).mono ?_
  rintro e w2 ⟨r, rfl, hP, hb2⟩
  have HP : Hid (P r) := hP
  have HR2 : Hid (Blk w2 w.heap.size 37 [.int .i64 0, .float .f64 0, .string ⟨#[]⟩, .slice none 0 0]) := HR1.out.below hb2 HR1.out.lt
  have HB2 : Hid (Below w.heap.size w w2) := HB1.out.trans (hb2.mono HB1.out.size)
  clear hP hb2
  go_wp2_with fail
  refine (out_atom r.atom _).mono ?_
  rintro e w3 ⟨rfl, hb3⟩
  have HR3 : Hid (Blk w3 w.heap.size 37 [.int .i64 0, .float .f64 0, .string ⟨#[]⟩, .slice none 0 0]) := HR2.out.below hb3 HR2.out.lt
  have HB3 : Hid (Below w.heap.size w w3) := HB2.out.trans (hb3.mono HB2.out.size)
  clear hb3
  go_wp2_with (refine store_row rfl 37 (.tmp 2) (.tmp 6) rfl w.heap.size 37 [.int .i64 0, .float .f64 0, .string ⟨#[]⟩, .slice none 0 0] r.atom.cells rfl (Atom.val_eq _) HR3.out (by rw [Atom.clen]; exact size37) (by rw [Atom.clen]; rfl) (Atom.one _) w.heap.size (Nat.le_refl _) ?_; intro w6 hr6 hb6 _)
  refine bodyPost_ret (ret_row rfl _ _ w.heap.size 37 r.atom.cells _ rfl hr6 Tryz.underlying37 rfl (by rw [Atom.clen]; exact size37)) rfl ⟨r, by rw [Atom.val_eq], HP.out, HB3.out.trans hb6⟩

set_option maxRecDepth 20000 in
set_option maxHeartbeats 1000000 in
theorem fct_door (l : List Atom) (P : Res → Prop) (v : Value) (w : World) (hl : ArgsAt w 64 v l) (hm : MethodGives 98 l P) :
    Calls Tryz.prog 72 #[v] w (GivesVal P w) := by
  obtain ⟨g, c, hv⟩ := hl.form
  have HL : Hid (ArgsAt w 64 v l) := hl
  have HM : Hid (MethodGives 98 l P) := hm
  have HV : Hid (v = .slice (some ⟨g, 0, none⟩) l.length c) := hv
  clear hl hm hv
  go_enter Tryz.func72, Tryz.ntmps72
  go_wp2_with (go_at_call 82; go_in)
  refine (innerList_plain l v _ g c HV.out (HL.out.1.keep (by go_grown)) HL.out.2.2.2 HL.out.2.2.1).mono ?_
  rintro e w1 ⟨L, bs, rfl, hil, hb1⟩
  have HR1 : Hid (Blk w1 w.heap.size 64 [.int .i64 0, .float .f64 0, .string ⟨#[]⟩, .slice none 0 0]) := ((Blk.new w 64 [.int .i64 0, .float .f64 0, .string ⟨#[]⟩, .slice none 0 0]).alloc _).below hb1 (by simp; omega)
  have HB1 : Hid (Below w.heap.size w w1) := Below.trans (by go_grown) (hb1.mono (by simp; omega))
  clear hb1
  have HIL : Hid (IsList _ w1 L bs (l.map fun a => .iface 84 a.fa)) := hil
  clear hil
  go_wp2_with fail
  refine (HM.out _ _ _ _ _ HIL.out).mono ?_
  rintro e w2 ⟨r, rfl, hP, hb2⟩
  have HP : Hid (P r) := hP
  have HR2 : Hid (Blk w2 w.heap.size 64 [.int .i64 0, .float .f64 0, .string ⟨#[]⟩, .slice none 0 0]) := HR1.out.below hb2 HR1.out.lt
  have HB2 : Hid (Below w.heap.size w w2) := HB1.out.trans (hb2.mono HB1.out.size)
  clear hP hb2 HIL
  go_wp2_with fail
  refine (doorArg_res r _).mono ?_
  rintro e w3 ⟨rfl, hb3⟩
  have HR3 : Hid (Blk w3 w.heap.size 64 [.int .i64 0, .float .f64 0, .string ⟨#[]⟩, .slice none 0 0]) := HR2.out.below hb3 HR2.out.lt
  have HB3 : Hid (Below w.heap.size w w3) := HB2.out.trans (hb3.mono HB2.out.size)
  clear hb3
  go_wp2_with (refine store_row rfl 64 (.tmp 2) (.tmp 7) rfl w.heap.size 64 [.int .i64 0, .float .f64 0, .string ⟨#[]⟩, .slice none 0 0] r.atom.cells rfl (Atom.val_eq _) HR3.out (by rw [Atom.clen]; exact size64) (by rw [Atom.clen]; rfl) (Atom.one _) w.heap.size (Nat.le_refl _) ?_; intro w6 hr6 hb6 _)
  refine bodyPost_ret (ret_row rfl _ _ w.heap.size 64 r.atom.cells _ rfl hr6 Tryz.underlying64 rfl (by rw [Atom.clen]; exact size64)) rfl ⟨r, by rw [Atom.val_eq], HP.out, HB3.out.trans hb6⟩

set_option maxRecDepth 20000 in
set_option maxHeartbeats 1000000 in
theorem fct_impl (l : List Atom) (P : Res → Prop) (v : Value) (w : World) (hl : ArgsAt w 37 v l) (hm : MethodGives 98 l P) :
    Calls Tryz.prog 32 #[v] w (GivesVal P w) := by
  obtain ⟨g, c, hv⟩ := hl.form
  have HL : Hid (ArgsAt w 37 v l) := hl
  have HM : Hid (MethodGives 98 l P) := hm
  have HV : Hid (v = .slice (some ⟨g, 0, none⟩) l.length c) := hv
  clear hl hm hv
  go_enter Tryz.func32, Tryz.ntmps32
  go_wp2_with fail
  refine (in_plain (l.map Atom.cells) v _ g c (by rw [List.length_map]; exact HV.out) (HL.out.1.keep (by go_grown)) (by intro x hx; obtain ⟨a, _, rfl⟩ := List.mem_map.1 hx; exact a.trio) (by rw [List.length_map]; exact HL.out.2.2.1)).mono ?_
  rintro e w1 ⟨v1, rfl, harr, hb1⟩
  have HR1 : Hid (Blk w1 w.heap.size 37 [.int .i64 0, .float .f64 0, .string ⟨#[]⟩, .slice none 0 0]) := (Blk.new w 37 [.int .i64 0, .float .f64 0, .string ⟨#[]⟩, .slice none 0 0]).below hb1 (by simp)
  have HB1 : Hid (Below w.heap.size w w1) := Below.trans (by go_grown) (hb1.mono (by simp))
  have HA : Hid (ArgsAt w1 64 v1 l) := ⟨harr.base (Nat.zero_le _), HL.out.2⟩
  clear hb1 harr
  go_wp2_with fail
  refine (fct_door l P v1 _ HA.out HM.out).mono ?_
  rintro e w2 ⟨r, rfl, hP, hb2⟩
  have HP : Hid (P r) := hP
  have HR2 : Hid (Blk w2 w.heap.size 37 [.int .i64 0, .float .f64 0, .string ⟨#[]⟩, .slice none 0 0]) := HR1.out.below hb2 HR1.out.lt
  have HB2 : Hid (Below w.heap.size w w2) := HB1.out.trans (hb2.mono HB1.out.size)
  clear hP hb2
  go_wp2_with fail
  refine (out_atom r.atom _).mono ?_
  rintro e w3 ⟨rfl, hb3⟩
  have HR3 : Hid (Blk w3 w.heap.size 37 [.int .i64 0, .float .f64 0, .string ⟨#[]⟩, .slice none 0 0]) := HR2.out.below hb3 HR2.out.lt
  have HB3 : Hid (Below w.heap.size w w3) := HB2.out.trans (hb3.mono HB2.out.size)
  clear hb3
  go_wp2_with (refine store_row rfl 37 (.tmp 2) (.tmp 6) rfl w.heap.size 37 [.int .i64 0, .float .f64 0, .string ⟨#[]⟩, .slice none 0 0] r.atom.cells rfl (Atom.val_eq _) HR3.out (by rw [Atom.clen]; exact size37) (by rw [Atom.clen]; rfl) (Atom.one _) w.heap.size (Nat.le_refl _) ?_; intro w6 hr6 hb6 _)
  refine bodyPost_ret (ret_row rfl _ _ w.heap.size 37 r.atom.cells _ rfl hr6 Tryz.underlying37 rfl (by rw [Atom.clen]; exact size37)) rfl ⟨r, by rw [Atom.val_eq], HP.out, HB3.out.trans hb6⟩

theorem dbl_call (n : Nat) (hn : n ≤ 14) (S : ByteArray) (hS : S = ⟨(decOf (dbl n)).toArray⟩) (v : Value) (w : World) (ht : PowS w) (hv : ArgsAt w 37 v [.num (fx n 0)]) :
    Calls Tryz.prog 30 #[v] w fun e w' => e = .returned (.agg #[.int .i64 2, .float .f64 0, .string S, .slice none 0 0]) ∧ Below w.heap.size w w' :=
  (dbl_impl _ _ v w hv PowS ht powS_stable (dbl_gives n hn)).mono fun _ _ ⟨_, he, hr, hbl⟩ => ⟨by rw [he, hr, hS]; rfl, hbl⟩
theorem fct_call (n : Nat) (hn : n ≤ 14) (b : Nat) (hb : b = fx (fct n : Int) 0) (v : Value) (w : World) (hv : ArgsAt w 37 v [.num (fx n 0)]) :
    Calls Tryz.prog 32 #[v] w fun e w' => e = .returned (Atom.num b).val ∧ Below w.heap.size w w' :=
  (fct_impl _ _ v w hv (fct_gives n hn)).mono fun _ _ ⟨_, he, hr, hbl⟩ => ⟨by rw [he, hr, hb]; rfl, hbl⟩
end Go.Proofs.YtoebgbojpkflnaaGreatDoor
