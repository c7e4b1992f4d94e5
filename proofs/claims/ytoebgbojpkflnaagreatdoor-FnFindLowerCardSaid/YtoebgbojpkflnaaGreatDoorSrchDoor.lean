/- SEARCH of two or three arguments; through the thin package. -/
import Derived.Test.YtoebgbojpkflnaaGreatDoorSrch
import Derived.Test.YtoebgbojpkflnaaGreatDoorDoor
namespace Go.Proofs.YtoebgbojpkflnaaGreatDoor
open Go Go.RowKit

set_option maxRecDepth 20000 in
set_option maxHeartbeats 1000000 in
theorem search_2 (s sub : ByteArray)  (hs : s.size ≤ 1000) (hb : sub.size ≤ 1000) (ha : AsciiS s) (hab : AsciiS sub) (hw : NoWild sub)  (hne : sub.toList.isEmpty = false) (F : Value) (B L b0 b1 : Nat) (w : World)
    (hil : IsList B w L [b0, b1] [.iface 84 (Atom.text sub).fa, .iface 84 (Atom.text s).fa]) :
    Calls Tryz.prog 131 #[F, .string ⟨#[83, 69, 65, 82, 67, 72]⟩, .pointer (some ⟨L, 0, none⟩)] w (FoundS s sub 0 w.heap.size w) := by
  have HIL : Hid (IsList B w L [b0, b1] [.iface 84 (Atom.text sub).fa, .iface 84 (Atom.text s).fa]) := hil
  have ci : ∀ w', (convert 34 3 (.float .f64 (fx 1 0))).run Tryz.prog w' = .ok (.int .i64 1) w' := fun w' => run_convert_float_int w' 34 3 .f64 .i64 (fx 1 0) 1 (by rw [Tryz.underlying34]; rfl) Tryz.underlying3 (toIntVal_fx (by omega))
  clear hil
  go_enter Tryz.func131, Tryz.ntmps131
  go_wp2_with fail
  refine (prep_two _ _ _ _ _ _ _ _ _ (HIL.out.keep (by go_grown))).mono ?_
  rintro e w1 ⟨g, rfl, hg, hgs, hb1⟩
  have hil := HIL.out.keep (((Below.refl _ _).alloc (Nat.le_refl _) _).trans (hb1.mono (by simp)))
  clear HIL
  have hr := (Blk.new w 84 [.string ⟨#[]⟩, .float .f64 0, .string ⟨#[]⟩, .slice none 0 0, .slice none 0 0, .bool false, .string ⟨#[]⟩, .int .u8 0, .pointer none, .pointer none]).below hb1 (by simp)
  have HR1 : Hid (Blk w1 w.heap.size 84 [.string ⟨#[]⟩, .float .f64 0, .string ⟨#[]⟩, .slice none 0 0, .slice none 0 0, .bool false, .string ⟨#[]⟩, .int .u8 0, .pointer none, .pointer none]) := hr
  have HB1 : Hid (Below w.heap.size w w1) := ((Below.refl _ _).alloc (Nat.le_refl _) _).trans (hb1.mono (by simp))
  clear hr hb1 hgs
  obtain ⟨c0, l0⟩ := hil.at3 0 rfl rfl
  obtain ⟨c1, l1⟩ := hil.at3 1 rfl rfl
  unfold Atom.fa at c0 c1
  have m0 := lt_k l0
  have m1 := lt_k l1
  have d1 := hg.get 1 rfl
  have lg := hg.lt
  have mg := lt_k lg
  clear hg
  generalize hbb : fx 1 0 = b at *
  have HIL : Hid (IsList B w1 L [b0, b1] _) := hil
  clear hil hbb
  obtain ⟨r, hrr⟩ : ∃ r, r = w.heap.size := ⟨_, rfl⟩
  rw [← hrr] at HR1 ⊢
  have HRR : Hid (r = w.heap.size) := hrr
  clear hrr
  go_wp2_with (first | (go_at_call 112; refine (front_any _ _ _ _ _ _ _ (HIL.out.keep (by go_grown))).mono ?_; rintro e w2 ⟨rfl, rfl⟩) | (go_at_call 116; go_in))
  refine (next_at _ L _ _ _ (HIL.out.keep (by go_grown)) 0 b0 b1 rfl rfl).mono ?_
  rintro e w2 ⟨rfl, rfl⟩
  go_wp2_with (first | (go_at_call 116; go_in))
  refine (find1_search s sub 0 hs hb ha hab hw (by omega) hne _ _ _ _ w1.heap.size _ (blk_at (by simp) ((((Blk.new _ 3 [.int .i64 1]).alloc _).alloc _).alloc _)) (blk_at (by simp) ((Blk.new _ 4 [.bool true]).alloc _)) (blk_at (by simp) (((((Blk.new _ 9 [.string s]).alloc _).alloc _).alloc _).alloc _)) (blk_at (by simp) (((Blk.new _ 4 [.bool false]).alloc _).alloc _)) (by first | omega | (simp; omega)) (by first | omega | (simp; done) | (simp; omega)) (by first | omega | (simp; done) | (simp; omega))).mono ?_
  rintro e w2 ⟨k, rfl, hf, hb2⟩
  have HF : Hid (First (upS s) (upS sub) 0 k) := hf
  have HR2 : Hid (Blk w2 r 84 [.string ⟨#[]⟩, .float .f64 0, .string ⟨#[]⟩, .slice none 0 0, .slice none 0 0, .bool false, .string ⟨#[]⟩, .int .u8 0, .pointer none, .pointer none]) := (((((((((HR1.out.alloc _).alloc _).alloc _).alloc _).alloc _).alloc _).alloc _).alloc _)).below hb2 HR1.out.lt
  have HB2 : Hid (Below w.heap.size w w2) := (HB1.out.trans (Below.mono (by go_grown) HB1.out.size)).trans (hb2.mono HB1.out.size)
  clear hf hb2 c0 c1 d1
  go_wp2_with (refine store_res rfl (.tmp 6) (.tmp 95) rfl r [.string ⟨#[]⟩, .float .f64 0, .string ⟨#[]⟩, .slice none 0 0, .slice none 0 0, .bool false, .string ⟨#[]⟩, .int .u8 0, .pointer none, .pointer none] (foundRes s k) rfl rfl HR2.out rfl w.heap.size (by rw [HRR.out]; exact Nat.le_refl _) ?_; intro w6 hr6 hb6)
  exact bodyPost_ret (ret_res rfl _ _ r (foundRes s k) rfl hr6) rfl ⟨k, rfl, HF.out, HB2.out.trans hb6⟩

set_option maxRecDepth 20000 in
set_option maxHeartbeats 1000000 in
theorem search_3 (s sub : ByteArray) (a : Nat) (hs : s.size ≤ 1000) (hb : sub.size ≤ 1000) (ha : AsciiS s) (hab : AsciiS sub) (hw : NoWild sub) (hal : a ≤ 100000) (hne : sub.toList.isEmpty = false) (F : Value) (B L b0 b1 b2 : Nat) (w : World)
    (hil : IsList B w L [b0, b1, b2] [.iface 84 (Atom.text sub).fa, .iface 84 (Atom.text s).fa, .iface 84 (Atom.num (fx (a + 1) 0)).fa]) :
    Calls Tryz.prog 131 #[F, .string ⟨#[83, 69, 65, 82, 67, 72]⟩, .pointer (some ⟨L, 0, none⟩)] w (FoundS s sub a w.heap.size w) := by
  have HIL : Hid (IsList B w L [b0, b1, b2] [.iface 84 (Atom.text sub).fa, .iface 84 (Atom.text s).fa, .iface 84 (Atom.num (fx (a + 1) 0)).fa]) := hil
  have ci : ∀ w', (convert 34 3 (.float .f64 (fx (a + 1) 0))).run Tryz.prog w' = .ok (.int .i64 (a + 1)) w' := fun w' => run_convert_float_int w' 34 3 .f64 .i64 (fx (a + 1) 0) (a + 1) (by rw [Tryz.underlying34]; rfl) Tryz.underlying3 (toIntVal_fx (by omega))
  clear hil
  go_enter Tryz.func131, Tryz.ntmps131
  go_wp2_with fail
  refine (prep_three _ (by omega) (by omega) _ _ _ _ _ _ _ _ _ _ (HIL.out.keep (by go_grown))).mono ?_
  rintro e w1 ⟨g, rfl, hg, hgs, hb1⟩
  have hil := HIL.out.keep (((Below.refl _ _).alloc (Nat.le_refl _) _).trans (hb1.mono (by simp)))
  clear HIL
  have hr := (Blk.new w 84 [.string ⟨#[]⟩, .float .f64 0, .string ⟨#[]⟩, .slice none 0 0, .slice none 0 0, .bool false, .string ⟨#[]⟩, .int .u8 0, .pointer none, .pointer none]).below hb1 (by simp)
  have HR1 : Hid (Blk w1 w.heap.size 84 [.string ⟨#[]⟩, .float .f64 0, .string ⟨#[]⟩, .slice none 0 0, .slice none 0 0, .bool false, .string ⟨#[]⟩, .int .u8 0, .pointer none, .pointer none]) := hr
  have HB1 : Hid (Below w.heap.size w w1) := ((Below.refl _ _).alloc (Nat.le_refl _) _).trans (hb1.mono (by simp))
  clear hr hb1 hgs
  obtain ⟨c0, l0⟩ := hil.at3 0 rfl rfl
  obtain ⟨c1, l1⟩ := hil.at3 1 rfl rfl
  unfold Atom.fa at c0 c1
  have m0 := lt_k l0
  have m1 := lt_k l1
  have d1 := hg.get 1 rfl
  have lg := hg.lt
  have mg := lt_k lg
  clear hg
  generalize hbb : fx (a + 1) 0 = b at *
  have HIL : Hid (IsList B w1 L [b0, b1, b2] _) := hil
  clear hil hbb
  obtain ⟨r, hrr⟩ : ∃ r, r = w.heap.size := ⟨_, rfl⟩
  rw [← hrr] at HR1 ⊢
  have HRR : Hid (r = w.heap.size) := hrr
  clear hrr
  go_wp2_with (first | (go_at_call 112; refine (front_any _ _ _ _ _ _ _ (HIL.out.keep (by go_grown))).mono ?_; rintro e w2 ⟨rfl, rfl⟩) | (go_at_call 116; go_in))
  refine (next_at _ L _ _ _ (HIL.out.keep (by go_grown)) 0 b0 b1 rfl rfl).mono ?_
  rintro e w2 ⟨rfl, rfl⟩
  go_wp2_with (first | (go_at_call 116; go_in))
  refine (find1_search s sub a hs hb ha hab hw (by omega) hne _ _ _ _ w1.heap.size _ (blk_at (by simp) ((((Blk.new _ 3 [.int .i64 (a + 1)]).alloc _).alloc _).alloc _)) (blk_at (by simp) ((Blk.new _ 4 [.bool true]).alloc _)) (blk_at (by simp) (((((Blk.new _ 9 [.string s]).alloc _).alloc _).alloc _).alloc _)) (blk_at (by simp) (((Blk.new _ 4 [.bool false]).alloc _).alloc _)) (by first | omega | (simp; omega)) (by first | omega | (simp; done) | (simp; omega)) (by first | omega | (simp; done) | (simp; omega))).mono ?_
  rintro e w2 ⟨k, rfl, hf, hb2⟩
  have HF : Hid (First (upS s) (upS sub) a k) := hf
  have HR2 : Hid (Blk w2 r 84 [.string ⟨#[]⟩, .float .f64 0, .string ⟨#[]⟩, .slice none 0 0, .slice none 0 0, .bool false, .string ⟨#[]⟩, .int .u8 0, .pointer none, .pointer none]) := (((((((((HR1.out.alloc _).alloc _).alloc _).alloc _).alloc _).alloc _).alloc _).alloc _)).below hb2 HR1.out.lt
  have HB2 : Hid (Below w.heap.size w w2) := (HB1.out.trans (Below.mono (by go_grown) HB1.out.size)).trans (hb2.mono HB1.out.size)
  clear hf hb2 c0 c1 d1
  go_wp2_with (refine store_res rfl (.tmp 6) (.tmp 95) rfl r [.string ⟨#[]⟩, .float .f64 0, .string ⟨#[]⟩, .slice none 0 0, .slice none 0 0, .bool false, .string ⟨#[]⟩, .int .u8 0, .pointer none, .pointer none] (foundRes s k) rfl rfl HR2.out rfl w.heap.size (by rw [HRR.out]; exact Nat.le_refl _) ?_; intro w6 hr6 hb6)
  exact bodyPost_ret (ret_res rfl _ _ r (foundRes s k) rfl hr6) rfl ⟨k, rfl, HF.out, HB2.out.trans hb6⟩

def FoundSP (s sub : ByteArray) (a : Nat) (r : Res) : Prop := ∃ k, r = foundRes s k ∧ First (upS s) (upS sub) a k
theorem foundS_gives {s sub : ByteArray} {a : Nat} {w : World} {e : Ending} {w' : World} (h : FoundS s sub a w.heap.size w e w') : Gives (FoundSP s sub a) w e w' :=
  let ⟨k, he, hf, hb⟩ := h; ⟨_, he, ⟨k, rfl, hf⟩, hb⟩

set_option maxRecDepth 20000 in
set_option maxHeartbeats 1000000 in
theorem search_method (P : Res → Prop) (F : Value) (L : Nat) (w : World) (h : ∀ w1, Below w.heap.size w w1 → Calls Tryz.prog 131 #[F, .string ⟨#[83, 69, 65, 82, 67, 72]⟩, .pointer (some ⟨L, 0, none⟩)] w1 (Gives P w1)) :
    Calls Tryz.prog 100 #[F, .pointer (some ⟨L, 0, none⟩)] w (Gives P w) := by
  have H : Hid (∀ w1, Below w.heap.size w w1 → Calls Tryz.prog 131 #[F, .string ⟨#[83, 69, 65, 82, 67, 72]⟩, .pointer (some ⟨L, 0, none⟩)] w1 (Gives P w1)) := h
  clear h
  go_enter Tryz.func100, Tryz.ntmps100
  go_wp2_with fail
  refine (H.out _ (by go_grown)).mono ?_
  rintro e w1 ⟨r, rfl, hP, hb⟩
  have HP : Hid (P r) := hP
  have HR : Hid (Blk w1 w.heap.size 84 [.string ⟨#[]⟩, .float .f64 0, .string ⟨#[]⟩, .slice none 0 0, .slice none 0 0, .bool false, .string ⟨#[]⟩, .int .u8 0, .pointer none, .pointer none]) := (Blk.new w 84 [.string ⟨#[]⟩, .float .f64 0, .string ⟨#[]⟩, .slice none 0 0, .slice none 0 0, .bool false, .string ⟨#[]⟩, .int .u8 0, .pointer none, .pointer none]).below hb (by simp)
  have HB : Hid (Below w.heap.size w w1) := ((Below.refl _ _).alloc (Nat.le_refl _) _).trans (hb.mono (by simp))
  clear hP hb
  go_wp2_with (refine store_res rfl (.tmp 4) (.tmp 7) rfl w.heap.size [.string ⟨#[]⟩, .float .f64 0, .string ⟨#[]⟩, .slice none 0 0, .slice none 0 0, .bool false, .string ⟨#[]⟩, .int .u8 0, .pointer none, .pointer none] r rfl rfl HR.out rfl w.heap.size (Nat.le_refl _) ?_; intro w6 hr6 hb6)
  exact bodyPost_ret (ret_res rfl _ _ w.heap.size r rfl hr6) rfl ⟨r, rfl, HP.out, HB.out.trans hb6⟩

set_option maxRecDepth 20000 in
set_option maxHeartbeats 1000000 in
theorem search_door (l : List Atom) (P : Res → Prop) (v : Value) (w : World) (hl : ArgsAt w 64 v l) (hm : MethodGives 100 l P) :
    Calls Tryz.prog 76 #[v] w (GivesVal P w) := by
  obtain ⟨g, c, hv⟩ := hl.form
  have HL : Hid (ArgsAt w 64 v l) := hl
  have HM : Hid (MethodGives 100 l P) := hm
  have HV : Hid (v = .slice (some ⟨g, 0, none⟩) l.length c) := hv
  clear hl hm hv
  go_enter Tryz.func76, Tryz.ntmps76
  go_wp2_with (go_at_call 82; go_in)
  refine (innerList_plain l v _ g c HV.out (HL.out.1.keep (by go_grown)) HL.out.2.2.2 HL.out.2.2.1).mono ?_
  rintro e w1 ⟨L, bs, rfl, hil, hb1⟩
  have HR1 : Hid (Blk w1 w.heap.size 64 [.int .i64 0, .float .f64 0, .string ⟨#[]⟩, .slice none 0 0]) := ((Blk.new w 64 [.int .i64 0, .float .f64 0, .string ⟨#[]⟩, .slice none 0 0]).alloc _).below hb1 (by simp; omega)
  have HB1 : Hid (Below w.heap.size w w1) := Below.trans (by go_grown) (hb1.mono (by simp; omega))
  clear hb1
  have HIL : Hid (IsList _ w1 L bs (l.map fun a => .iface 84 a.fa)) := hil
  clear hil
  go_wp2_with fail
  refine (HM.out _ _ _ _ _ HIL.out).mono ?_
  rintro e w2 ⟨r, rfl, hP, hb2⟩
  have HP : Hid (P r) := hP
  have HR2 : Hid (Blk w2 w.heap.size 64 [.int .i64 0, .float .f64 0, .string ⟨#[]⟩, .slice none 0 0]) := HR1.out.below hb2 HR1.out.lt
  have HB2 : Hid (Below w.heap.size w w2) := HB1.out.trans (hb2.mono HB1.out.size)
  clear hP hb2 HIL
  go_wp2_with fail
  refine (doorArg_res r _).mono ?_
  rintro e w3 ⟨rfl, hb3⟩
  have HR3 : Hid (Blk w3 w.heap.size 64 [.int .i64 0, .float .f64 0, .string ⟨#[]⟩, .slice none 0 0]) := HR2.out.below hb3 HR2.out.lt
  have HB3 : Hid (Below w.heap.size w w3) := HB2.out.trans (hb3.mono HB2.out.size)
  clear hb3
  go_wp2_with (refine store_row rfl 64 (.tmp 2) (.tmp 7) rfl w.heap.size 64 [.int .i64 0, .float .f64 0, .string ⟨#[]⟩, .slice none 0 0] r.atom.cells rfl (Atom.val_eq _) HR3.out (by rw [Atom.clen]; exact size64) (by rw [Atom.clen]; rfl) (Atom.one _) w.heap.size (Nat.le_refl _) ?_; intro w6 hr6 hb6 _)
  refine bodyPost_ret (ret_row rfl _ _ w.heap.size 64 r.atom.cells _ rfl hr6 Tryz.underlying64 rfl (by rw [Atom.clen]; exact size64)) rfl ⟨r, by rw [Atom.val_eq], HP.out, HB3.out.trans hb6⟩

set_option maxRecDepth 20000 in
set_option maxHeartbeats 1000000 in
theorem search_impl (l : List Atom) (P : Res → Prop) (v : Value) (w : World) (hl : ArgsAt w 37 v l) (hm : MethodGives 100 l P) :
    Calls Tryz.prog 41 #[v] w (GivesVal P w) := by
  obtain ⟨g, c, hv⟩ := hl.form
  have HL : Hid (ArgsAt w 37 v l) := hl
  have HM : Hid (MethodGives 100 l P) := hm
  have HV : Hid (v = .slice (some ⟨g, 0, none⟩) l.length c) := hv
  clear hl hm hv
  go_enter Tryz.func41, Tryz.ntmps41
  go_wp2_with fail
  refine (in_plain (l.map Atom.cells) v _ g c (by rw [List.length_map]; exact HV.out) (HL.out.1.keep (by go_grown)) (by intro x hx; obtain ⟨a, _, rfl⟩ := List.mem_map.1 hx; exact a.trio) (by rw [List.length_map]; exact HL.out.2.2.1)).mono ?_
  rintro e w1 ⟨v1, rfl, harr, hb1⟩
  have HR1 : Hid (Blk w1 w.heap.size 37 [.int .i64 0, .float .f64 0, .string ⟨#[]⟩, .slice none 0 0]) := (Blk.new w 37 [.int .i64 0, .float .f64 0, .string ⟨#[]⟩, .slice none 0 0]).below hb1 (by simp)
  have HB1 : Hid (Below w.heap.size w w1) := Below.trans (by go_grown) (hb1.mono (by simp))
  have HA : Hid (ArgsAt w1 64 v1 l) := ⟨harr.base (Nat.zero_le _), HL.out.2⟩
  clear hb1 harr
  go_wp2_with fail
  refine (search_door l P v1 _ HA.out HM.out).mono ?_
  rintro e w2 ⟨r, rfl, hP, hb2⟩
  have HP : Hid (P r) := hP
  have HR2 : Hid (Blk w2 w.heap.size 37 [.int .i64 0, .float .f64 0, .string ⟨#[]⟩, .slice none 0 0]) := HR1.out.below hb2 HR1.out.lt
  have HB2 : Hid (Below w.heap.size w w2) := HB1.out.trans (hb2.mono HB1.out.size)
  clear hP hb2
  go_wp2_with fail
  refine (out_atom r.atom _).mono ?_
  rintro e w3 ⟨rfl, hb3⟩
  have HR3 : Hid (Blk w3 w.heap.size 37 [.int .i64 0, .float .f64 0, .string ⟨#[]⟩, .slice none 0 0]) := HR2.out.below hb3 HR2.out.lt
  have HB3 : Hid (Below w.heap.size w w3) := HB2.out.trans (hb3.mono HB2.out.size)
  clear hb3
  go_wp2_with (refine store_row rfl 37 (.tmp 2) (.tmp 6) rfl w.heap.size 37 [.int .i64 0, .float .f64 0, .string ⟨#[]⟩, .slice none 0 0] r.atom.cells rfl (Atom.val_eq _) HR3.out (by rw [Atom.clen]; exact size37) (by rw [Atom.clen]; rfl) (Atom.one _) w.heap.size (Nat.le_refl _) ?_; intro w6 hr6 hb6 _)
  refine bodyPost_ret (ret_row rfl _ _ w.heap.size 37 r.atom.cells _ rfl hr6 Tryz.underlying37 rfl (by rw [Atom.clen]; exact size37)) rfl ⟨r, by rw [Atom.val_eq], HP.out, HB3.out.trans hb6⟩

theorem search_gives2 (s sub : ByteArray) (hs : s.size ≤ 1000) (hb : sub.size ≤ 1000) (ha : AsciiS s) (hab : AsciiS sub) (hw : NoWild sub) (hne : sub.toList.isEmpty = false) : MethodGives 100 [.text sub, .text s] (FoundSP s sub 0) := by
  intro F B L bs w hil
  have hl := hil.len
  match bs, hl, hil with
  | [b0, b1], _, hil =>
    exact search_method _ F L w fun w1 hb1 => (search_2 s sub hs hb ha hab hw hne F B L b0 b1 w1 (hil.keep hb1)).mono fun e w2 h => foundS_gives h
theorem search_gives3 (s sub : ByteArray) (a : Nat) (hs : s.size ≤ 1000) (hb : sub.size ≤ 1000) (ha : AsciiS s) (hab : AsciiS sub) (hw : NoWild sub) (hal : a ≤ 100000) (hne : sub.toList.isEmpty = false) : MethodGives 100 [.text sub, .text s, .num (fx (a + 1) 0)] (FoundSP s sub a) := by
  intro F B L bs w hil
  have hl := hil.len
  match bs, hl, hil with
  | [b0, b1, b2], _, hil =>
    exact search_method _ F L w fun w1 hb1 => (search_3 s sub a hs hb ha hab hw hal hne F B L b0 b1 b2 w1 (hil.keep hb1)).mono fun e w2 h => foundS_gives h
end Go.Proofs.YtoebgbojpkflnaaGreatDoor
