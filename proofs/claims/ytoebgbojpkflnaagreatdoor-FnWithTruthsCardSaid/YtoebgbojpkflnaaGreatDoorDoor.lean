/- FIND and REPLACEB through the thin package: arguments in, the answer out. Conditions: what the function behind them is given answers as its contract says. -/
import Derived.Test.YtoebgbojpkflnaaGreatDoorFind
namespace Go.Proofs.YtoebgbojpkflnaaGreatDoor
open Go Go.RowKit

theorem size64 : (Tryz.prog.info? 64).map (fun i => i.size) = some 4 := by kernel_rfl
theorem size37 : (Tryz.prog.info? 37).map (fun i => i.size) = some 4 := by kernel_rfl
theorem Atom.clen (a : Atom) : a.cells.length = 4 := by cases a <;> rfl
theorem Atom.one (a : Atom) : a.cells.all (fun u => u.oneCell') = true := by cases a <;> rfl

/-- A function of the package answers with one of the results that P names; nothing that was there is touched. -/
def Gives (P : Res → Prop) (w : World) (e : Ending) (w' : World) : Prop := ∃ r, e = .returned r.fa ∧ P r ∧ Below w.heap.size w w'
def GivesVal (P : Res → Prop) (w : World) (e : Ending) (w' : World) : Prop := ∃ r : Res, e = .returned r.atom.val ∧ P r ∧ Below w.heap.size w w'
/-- The method m, called with these arguments, answers so. -/
def MethodGives (m : Nat) (l : List Atom) (P : Res → Prop) : Prop := ∀ (F : Value) (B L : Nat) (bs : List Nat) (w : World), IsList B w L bs (l.map fun a => .iface 84 a.fa) → Calls Tryz.prog m #[F, .pointer (some ⟨L, 0, none⟩)] w (Gives P w)
/-- The arguments lie as a slice. -/
def ArgsAt (w : World) (e : Nat) (v : Value) (l : List Atom) : Prop := Arr 0 w e 4 v (l.map Atom.cells) ∧ l ≠ [] ∧ l.length ≤ 1000 ∧ ∀ a ∈ l, a.Ok
theorem ArgsAt.form {w : World} {e : Nat} {v : Value} {l : List Atom} (h : ArgsAt w e v l) : ∃ g c, v = .slice (some ⟨g, 0, none⟩) l.length c := by
  rcases h.1.shape with ⟨_, h0⟩ | ⟨g, c, hv, _⟩
  · exact absurd (List.map_eq_nil_iff.1 h0) h.2.1
  · exact ⟨g, c, by simpa using hv⟩

set_option maxRecDepth 20000 in
set_option maxHeartbeats 1000000 in
theorem find_method (P : Res → Prop) (F : Value) (L : Nat) (w : World) (h : ∀ w1, Below w.heap.size w w1 → Calls Tryz.prog 131 #[F, .string ⟨#[70, 73, 78, 68]⟩, .pointer (some ⟨L, 0, none⟩)] w1 (Gives P w1)) :
    Calls Tryz.prog 99 #[F, .pointer (some ⟨L, 0, none⟩)] w (Gives P w) := by
  have H : Hid (∀ w1, Below w.heap.size w w1 → Calls Tryz.prog 131 #[F, .string ⟨#[70, 73, 78, 68]⟩, .pointer (some ⟨L, 0, none⟩)] w1 (Gives P w1)) := h
  clear h
  go_enter Tryz.func99, Tryz.ntmps99
  go_wp2_with fail
  refine (H.out _ (by go_grown)).mono ?_
  rintro e w1 ⟨r, rfl, hP, hb⟩
  have HP : Hid (P r) := hP
  have HR : Hid (Blk w1 w.heap.size 84 [.string ⟨#[]⟩, .float .f64 0, .string ⟨#[]⟩, .slice none 0 0, .slice none 0 0, .bool false, .string ⟨#[]⟩, .int .u8 0, .pointer none, .pointer none]) := (Blk.new w 84 [.string ⟨#[]⟩, .float .f64 0, .string ⟨#[]⟩, .slice none 0 0, .slice none 0 0, .bool false, .string ⟨#[]⟩, .int .u8 0, .pointer none, .pointer none]).below hb (by simp)
  have HB : Hid (Below w.heap.size w w1) := ((Below.refl _ _).alloc (Nat.le_refl _) _).trans (hb.mono (by simp))
  clear hP hb
  go_wp2_with (refine store_res rfl (.tmp 4) (.tmp 7) rfl w.heap.size [.string ⟨#[]⟩, .float .f64 0, .string ⟨#[]⟩, .slice none 0 0, .slice none 0 0, .bool false, .string ⟨#[]⟩, .int .u8 0, .pointer none, .pointer none] r rfl rfl HR.out rfl w.heap.size (Nat.le_refl _) ?_; intro w6 hr6 hb6)
  exact bodyPost_ret (ret_res rfl _ _ w.heap.size r rfl hr6) rfl ⟨r, rfl, HP.out, HB.out.trans hb6⟩

set_option maxRecDepth 20000 in
set_option maxHeartbeats 1000000 in
theorem find_door (l : List Atom) (P : Res → Prop) (v : Value) (w : World) (hl : ArgsAt w 64 v l) (hm : MethodGives 99 l P) :
    Calls Tryz.prog 75 #[v] w (GivesVal P w) := by
  obtain ⟨g, c, hv⟩ := hl.form
  have HL : Hid (ArgsAt w 64 v l) := hl
  have HM : Hid (MethodGives 99 l P) := hm
  have HV : Hid (v = .slice (some ⟨g, 0, none⟩) l.length c) := hv
  clear hl hm hv
  go_enter Tryz.func75, Tryz.ntmps75
  go_wp2_with (go_at_call 82; go_in)
  refine (innerList_plain l v _ g c HV.out (HL.out.1.keep (by go_grown)) HL.out.2.2.2 HL.out.2.2.1).mono ?_
  rintro e w1 ⟨L, bs, rfl, hil, hb1⟩
  have HR1 : Hid (Blk w1 w.heap.size 64 [.int .i64 0, .float .f64 0, .string ⟨#[]⟩, .slice none 0 0]) := ((Blk.new w 64 [.int .i64 0, .float .f64 0, .string ⟨#[]⟩, .slice none 0 0]).alloc _).below hb1 (by simp; omega)
  have HB1 : Hid (Below w.heap.size w w1) := Below.trans (by go_grown) (hb1.mono (by simp; omega))
  clear hb1
  have HIL : Hid (IsList _ w1 L bs (l.map fun a => .iface 84 a.fa)) := hil
  clear hil
  go_wp2_with fail
  refine (HM.out _ _ _ _ _ HIL.out).mono ?_
  rintro e w2 ⟨r, rfl, hP, hb2⟩
  have HP : Hid (P r) := hP
  have HR2 : Hid (Blk w2 w.heap.size 64 [.int .i64 0, .float .f64 0, .string ⟨#[]⟩, .slice none 0 0]) := HR1.out.below hb2 HR1.out.lt
  have HB2 : Hid (Below w.heap.size w w2) := HB1.out.trans (hb2.mono HB1.out.size)
  clear hP hb2 HIL
  go_wp2_with fail
  refine (doorArg_res r _).mono ?_
  rintro e w3 ⟨rfl, hb3⟩
  have HR3 : Hid (Blk w3 w.heap.size 64 [.int .i64 0, .float .f64 0, .string ⟨#[]⟩, .slice none 0 0]) := HR2.out.below hb3 HR2.out.lt
  have HB3 : Hid (Below w.heap.size w w3) := HB2.out.trans (hb3.mono HB2.out.size)
  clear hb3
  go_wp2_with (refine store_row rfl 64 (.tmp 2) (.tmp 7) rfl w.heap.size 64 [.int .i64 0, .float .f64 0, .string ⟨#[]⟩, .slice none 0 0] r.atom.cells rfl (Atom.val_eq _) HR3.out (by rw [Atom.clen]; exact size64) (by rw [Atom.clen]; rfl) (Atom.one _) w.heap.size (Nat.le_refl _) ?_; intro w6 hr6 hb6 _)
  refine bodyPost_ret (ret_row rfl _ _ w.heap.size 64 r.atom.cells _ rfl hr6 Tryz.underlying64 rfl (by rw [Atom.clen]; exact size64)) rfl ⟨r, by rw [Atom.val_eq], HP.out, HB3.out.trans hb6⟩

set_option maxRecDepth 20000 in
set_option maxHeartbeats 1000000 in
theorem find_impl (l : List Atom) (P : Res → Prop) (v : Value) (w : World) (hl : ArgsAt w 37 v l) (hm : MethodGives 99 l P) :
    Calls Tryz.prog 39 #[v] w (GivesVal P w) := by
  obtain ⟨g, c, hv⟩ := hl.form
  have HL : Hid (ArgsAt w 37 v l) := hl
  have HM : Hid (MethodGives 99 l P) := hm
  have HV : Hid (v = .slice (some ⟨g, 0, none⟩) l.length c) := hv
  clear hl hm hv
  go_enter Tryz.func39, Tryz.ntmps39
  go_wp2_with fail
  refine (in_plain (l.map Atom.cells) v _ g c (by rw [List.length_map]; exact HV.out) (HL.out.1.keep (by go_grown)) (by intro x hx; obtain ⟨a, _, rfl⟩ := List.mem_map.1 hx; exact a.trio) (by rw [List.length_map]; exact HL.out.2.2.1)).mono ?_
  rintro e w1 ⟨v1, rfl, harr, hb1⟩
  have HR1 : Hid (Blk w1 w.heap.size 37 [.int .i64 0, .float .f64 0, .string ⟨#[]⟩, .slice none 0 0]) := (Blk.new w 37 [.int .i64 0, .float .f64 0, .string ⟨#[]⟩, .slice none 0 0]).below hb1 (by simp)
  have HB1 : Hid (Below w.heap.size w w1) := Below.trans (by go_grown) (hb1.mono (by simp))
  have HA : Hid (ArgsAt w1 64 v1 l) := ⟨harr.base (Nat.zero_le _), HL.out.2⟩
  clear hb1 harr
  go_wp2_with fail
  refine (find_door l P v1 _ HA.out HM.out).mono ?_
  rintro e w2 ⟨r, rfl, hP, hb2⟩
  have HP : Hid (P r) := hP
  have HR2 : Hid (Blk w2 w.heap.size 37 [.int .i64 0, .float .f64 0, .string ⟨#[]⟩, .slice none 0 0]) := HR1.out.below hb2 HR1.out.lt
  have HB2 : Hid (Below w.heap.size w w2) := HB1.out.trans (hb2.mono HB1.out.size)
  clear hP hb2
  go_wp2_with fail
  refine (out_atom r.atom _).mono ?_
  rintro e w3 ⟨rfl, hb3⟩
  have HR3 : Hid (Blk w3 w.heap.size 37 [.int .i64 0, .float .f64 0, .string ⟨#[]⟩, .slice none 0 0]) := HR2.out.below hb3 HR2.out.lt
  have HB3 : Hid (Below w.heap.size w w3) := HB2.out.trans (hb3.mono HB2.out.size)
  clear hb3
  go_wp2_with (refine store_row rfl 37 (.tmp 2) (.tmp 6) rfl w.heap.size 37 [.int .i64 0, .float .f64 0, .string ⟨#[]⟩, .slice none 0 0] r.atom.cells rfl (Atom.val_eq _) HR3.out (by rw [Atom.clen]; exact size37) (by rw [Atom.clen]; rfl) (Atom.one _) w.heap.size (Nat.le_refl _) ?_; intro w6 hr6 hb6 _)
  refine bodyPost_ret (ret_row rfl _ _ w.heap.size 37 r.atom.cells _ rfl hr6 Tryz.underlying37 rfl (by rw [Atom.clen]; exact size37)) rfl ⟨r, by rw [Atom.val_eq], HP.out, HB3.out.trans hb6⟩

set_option maxRecDepth 20000 in
set_option maxHeartbeats 1000000 in
theorem repl_method (P : Res → Prop) (F : Value) (L : Nat) (w : World) (h : ∀ w1, Below w.heap.size w w1 → Calls Tryz.prog 132 #[F, .string ⟨#[82, 69, 80, 76, 65, 67, 69, 66]⟩, .pointer (some ⟨L, 0, none⟩)] w1 (Gives P w1)) :
    Calls Tryz.prog 101 #[F, .pointer (some ⟨L, 0, none⟩)] w (Gives P w) := by
  have H : Hid (∀ w1, Below w.heap.size w w1 → Calls Tryz.prog 132 #[F, .string ⟨#[82, 69, 80, 76, 65, 67, 69, 66]⟩, .pointer (some ⟨L, 0, none⟩)] w1 (Gives P w1)) := h
  clear h
  go_enter Tryz.func101, Tryz.ntmps101
  go_wp2_with fail
  refine (H.out _ (by go_grown)).mono ?_
  rintro e w1 ⟨r, rfl, hP, hb⟩
  have HP : Hid (P r) := hP
  have HR : Hid (Blk w1 w.heap.size 84 [.string ⟨#[]⟩, .float .f64 0, .string ⟨#[]⟩, .slice none 0 0, .slice none 0 0, .bool false, .string ⟨#[]⟩, .int .u8 0, .pointer none, .pointer none]) := (Blk.new w 84 [.string ⟨#[]⟩, .float .f64 0, .string ⟨#[]⟩, .slice none 0 0, .slice none 0 0, .bool false, .string ⟨#[]⟩, .int .u8 0, .pointer none, .pointer none]).below hb (by simp)
  have HB : Hid (Below w.heap.size w w1) := ((Below.refl _ _).alloc (Nat.le_refl _) _).trans (hb.mono (by simp))
  clear hP hb
  go_wp2_with (refine store_res rfl (.tmp 4) (.tmp 7) rfl w.heap.size [.string ⟨#[]⟩, .float .f64 0, .string ⟨#[]⟩, .slice none 0 0, .slice none 0 0, .bool false, .string ⟨#[]⟩, .int .u8 0, .pointer none, .pointer none] r rfl rfl HR.out rfl w.heap.size (Nat.le_refl _) ?_; intro w6 hr6 hb6)
  exact bodyPost_ret (ret_res rfl _ _ w.heap.size r rfl hr6) rfl ⟨r, rfl, HP.out, HB.out.trans hb6⟩

set_option maxRecDepth 20000 in
set_option maxHeartbeats 1000000 in
theorem repl_door (l : List Atom) (P : Res → Prop) (v : Value) (w : World) (hl : ArgsAt w 64 v l) (hm : MethodGives 101 l P) :
    Calls Tryz.prog 77 #[v] w (GivesVal P w) := by
  obtain ⟨g, c, hv⟩ := hl.form
  have HL : Hid (ArgsAt w 64 v l) := hl
  have HM : Hid (MethodGives 101 l P) := hm
  have HV : Hid (v = .slice (some ⟨g, 0, none⟩) l.length c) := hv
  clear hl hm hv
  go_enter Tryz.func77, Tryz.ntmps77
  go_wp2_with (go_at_call 82; go_in)
  refine (innerList_plain l v _ g c HV.out (HL.out.1.keep (by go_grown)) HL.out.2.2.2 HL.out.2.2.1).mono ?_
  rintro e w1 ⟨L, bs, rfl, hil, hb1⟩
  have HR1 : Hid (Blk w1 w.heap.size 64 [.int .i64 0, .float .f64 0, .string ⟨#[]⟩, .slice none 0 0]) := ((Blk.new w 64 [.int .i64 0, .float .f64 0, .string ⟨#[]⟩, .slice none 0 0]).alloc _).below hb1 (by simp; omega)
  have HB1 : Hid (Below w.heap.size w w1) := Below.trans (by go_grown) (hb1.mono (by simp; omega))
  clear hb1
  have HIL : Hid (IsList _ w1 L bs (l.map fun a => .iface 84 a.fa)) := hil
  clear hil
  go_wp2_with fail
  refine (HM.out _ _ _ _ _ HIL.out).mono ?_
  rintro e w2 ⟨r, rfl, hP, hb2⟩
  have HP : Hid (P r) := hP
  have HR2 : Hid (Blk w2 w.heap.size 64 [.int .i64 0, .float .f64 0, .string ⟨#[]⟩, .slice none 0 0]) := HR1.out.below hb2 HR1.out.lt
  have HB2 : Hid (Below w.heap.size w w2) := HB1.out.trans (hb2.mono HB1.out.size)
  clear hP hb2 HIL
  go_wp2_with fail
  refine (doorArg_res r _).mono ?_
  rintro e w3 ⟨rfl, hb3⟩
  have HR3 : Hid (Blk w3 w.heap.size 64 [.int .i64 0, .float .f64 0, .string ⟨#[]⟩, .slice none 0 0]) := HR2.out.below hb3 HR2.out.lt
  have HB3 : Hid (Below w.heap.size w w3) := HB2.out.trans (hb3.mono HB2.out.size)
  clear hb3
  go_wp2_with (refine store_row rfl 64 (.tmp 2) (.tmp 7) rfl w.heap.size 64 [.int .i64 0, .float .f64 0, .string ⟨#[]⟩, .slice none 0 0] r.atom.cells rfl (Atom.val_eq _) HR3.out (by rw [Atom.clen]; exact size64) (by rw [Atom.clen]; rfl) (Atom.one _) w.heap.size (Nat.le_refl _) ?_; intro w6 hr6 hb6 _)
  refine bodyPost_ret (ret_row rfl _ _ w.heap.size 64 r.atom.cells _ rfl hr6 Tryz.underlying64 rfl (by rw [Atom.clen]; exact size64)) rfl ⟨r, by rw [Atom.val_eq], HP.out, HB3.out.trans hb6⟩

set_option maxRecDepth 20000 in
set_option maxHeartbeats 1000000 in
theorem repl_impl (l : List Atom) (P : Res → Prop) (v : Value) (w : World) (hl : ArgsAt w 37 v l) (hm : MethodGives 101 l P) :
    Calls Tryz.prog 44 #[v] w (GivesVal P w) := by
  obtain ⟨g, c, hv⟩ := hl.form
  have HL : Hid (ArgsAt w 37 v l) := hl
  have HM : Hid (MethodGives 101 l P) := hm
  have HV : Hid (v = .slice (some ⟨g, 0, none⟩) l.length c) := hv
  clear hl hm hv
  go_enter Tryz.func44, Tryz.ntmps44
  go_wp2_with fail
  refine (in_plain (l.map Atom.cells) v _ g c (by rw [List.length_map]; exact HV.out) (HL.out.1.keep (by go_grown)) (by intro x hx; obtain ⟨a, _, rfl⟩ := List.mem_map.1 hx; exact a.trio) (by rw [List.length_map]; exact HL.out.2.2.1)).mono ?_
  rintro e w1 ⟨v1, rfl, harr, hb1⟩
  have HR1 : Hid (Blk w1 w.heap.size 37 [.int .i64 0, .float .f64 0, .string ⟨#[]⟩, .slice none 0 0]) := (Blk.new w 37 [.int .i64 0, .float .f64 0, .string ⟨#[]⟩, .slice none 0 0]).below hb1 (by simp)
  have HB1 : Hid (Below w.heap.size w w1) := Below.trans (by go_grown) (hb1.mono (by simp))
  have HA : Hid (ArgsAt w1 64 v1 l) := ⟨harr.base (Nat.zero_le _), HL.out.2⟩
  clear hb1 harr
  go_wp2_with fail
  refine (repl_door l P v1 _ HA.out HM.out).mono ?_
  rintro e w2 ⟨r, rfl, hP, hb2⟩
  have HP : Hid (P r) := hP
  have HR2 : Hid (Blk w2 w.heap.size 37 [.int .i64 0, .float .f64 0, .string ⟨#[]⟩, .slice none 0 0]) := HR1.out.below hb2 HR1.out.lt
  have HB2 : Hid (Below w.heap.size w w2) := HB1.out.trans (hb2.mono HB1.out.size)
  clear hP hb2
  go_wp2_with fail
  refine (out_atom r.atom _).mono ?_
  rintro e w3 ⟨rfl, hb3⟩
  have HR3 : Hid (Blk w3 w.heap.size 37 [.int .i64 0, .float .f64 0, .string ⟨#[]⟩, .slice none 0 0]) := HR2.out.below hb3 HR2.out.lt
  have HB3 : Hid (Below w.heap.size w w3) := HB2.out.trans (hb3.mono HB2.out.size)
  clear hb3
  go_wp2_with (refine store_row rfl 37 (.tmp 2) (.tmp 6) rfl w.heap.size 37 [.int .i64 0, .float .f64 0, .string ⟨#[]⟩, .slice none 0 0] r.atom.cells rfl (Atom.val_eq _) HR3.out (by rw [Atom.clen]; exact size37) (by rw [Atom.clen]; rfl) (Atom.one _) w.heap.size (Nat.le_refl _) ?_; intro w6 hr6 hb6 _)
  refine bodyPost_ret (ret_row rfl _ _ w.heap.size 37 r.atom.cells _ rfl hr6 Tryz.underlying37 rfl (by rw [Atom.clen]; exact size37)) rfl ⟨r, by rw [Atom.val_eq], HP.out, HB3.out.trans hb6⟩
end Go.Proofs.YtoebgbojpkflnaaGreatDoor
