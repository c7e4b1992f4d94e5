/- LOWER of one text through the thin package: printable ASCII in small letters. Condition: ASCII of at most 1000 bytes. -/
import Derived.Test.YtoebgbojpkflnaaGreatDoorDoor
import Derived.Test.YtoebgbojpkflnaaGreatDoorCase
import Derived.Deep.RegionWith
namespace Go.Proofs.YtoebgbojpkflnaaGreatDoor
open Go Go.RowKit

set_option maxRecDepth 20000 in
set_option maxHeartbeats 1000000 in
theorem lower_1 (s : ByteArray) (hs : s.size ≤ 1000) (ha : AsciiS s) (F : Value) (B L b0 : Nat) (w : World) (hil : IsList B w L [b0] [.iface 84 (Atom.text s).fa]) :
    Calls Tryz.prog 104 #[F, .pointer (some ⟨L, 0, none⟩)] w (Gives (fun r => r = .text (lowS s)) w) := by
  have HIL : Hid (IsList B w L [b0] [.iface 84 (Atom.text s).fa]) := hil
  obtain ⟨c0, l0⟩ := hil.at3 0 rfl rfl
  unfold Atom.fa at c0
  have m0 := lt_k l0
  have HA : Hid (AsciiS s) := ha
  clear hil ha
  go_enter Tryz.func104, Tryz.ntmps104
  go_wp2_with (first | (go_at_call 110; refine (len_any _ _ _ _ _ (HIL.out.keep (by go_grown))).mono ?_; rintro e w2 ⟨rfl, rfl⟩) | (go_at_call 112; refine (front_any _ _ _ _ _ _ _ (HIL.out.keep (by go_grown))).mono ?_; rintro e w2 ⟨rfl, rfl⟩) | (go_at_call 116; go_in))
  refine (lower_any s hs HA.out _).mono ?_
  rintro e w2 ⟨rfl, hb2⟩
  have HR2 : Hid (Blk w2 w.heap.size 84 [.string ⟨#[]⟩, .float .f64 0, .string ⟨#[]⟩, .slice none 0 0, .slice none 0 0, .bool false, .string ⟨#[]⟩, .int .u8 0, .pointer none, .pointer none]) := ((Blk.new w 84 [.string ⟨#[]⟩, .float .f64 0, .string ⟨#[]⟩, .slice none 0 0, .slice none 0 0, .bool false, .string ⟨#[]⟩, .int .u8 0, .pointer none, .pointer none]).alloc _).below hb2 (by simp; omega)
  have HB2 : Hid (Below w.heap.size w w2) := Below.trans (by go_grown) (hb2.mono (by simp; omega))
  clear hb2
  go_wp2_with fail
  refine (newString_any _ _).mono ?_
  rintro e w3 ⟨rfl, hb3⟩
  have HR3 : Hid (Blk w3 w.heap.size 84 [.string ⟨#[]⟩, .float .f64 0, .string ⟨#[]⟩, .slice none 0 0, .slice none 0 0, .bool false, .string ⟨#[]⟩, .int .u8 0, .pointer none, .pointer none]) := HR2.out.below hb3 HR2.out.lt
  have HB3 : Hid (Below w.heap.size w w3) := HB2.out.trans (hb3.mono HB2.out.size)
  clear hb3
  go_wp2_with (refine store_res rfl (.tmp 4) (.tmp 17) rfl w.heap.size [.string ⟨#[]⟩, .float .f64 0, .string ⟨#[]⟩, .slice none 0 0, .slice none 0 0, .bool false, .string ⟨#[]⟩, .int .u8 0, .pointer none, .pointer none] (.text (lowS s)) rfl rfl HR3.out rfl w.heap.size (Nat.le_refl _) ?_; intro w6 hr6 hb6)
  exact bodyPost_ret (ret_res rfl _ _ w.heap.size (.text (lowS s)) rfl hr6) rfl ⟨_, rfl, rfl, HB3.out.trans hb6⟩
theorem lower_gives (s : ByteArray) (hs : s.size ≤ 1000) (ha : AsciiS s) : MethodGives 104 [.text s] (fun r => r = .text (lowS s)) := by
  intro F B L bs w hil
  have hl := hil.len
  match bs, hl, hil with
  | [b0], _, hil => exact lower_1 s hs ha F B L b0 w hil

set_option maxRecDepth 20000 in
set_option maxHeartbeats 1000000 in
theorem lower_door (l : List Atom) (P : Res → Prop) (v : Value) (w : World) (hl : ArgsAt w 64 v l) (hm : MethodGives 104 l P) :
    Calls Tryz.prog 80 #[v] w (GivesVal P w) := by
  obtain ⟨g, c, hv⟩ := hl.form
  have HL : Hid (ArgsAt w 64 v l) := hl
  have HM : Hid (MethodGives 104 l P) := hm
  have HV : Hid (v = .slice (some ⟨g, 0, none⟩) l.length c) := hv
  clear hl hm hv
  go_enter Tryz.func80, Tryz.ntmps80
  go_wp2_with (go_at_call 82; go_in)
  refine (innerList_plain l v _ g c HV.out (HL.out.1.keep (by go_grown)) HL.out.2.2.2 HL.out.2.2.1).mono ?_
  rintro e w1 ⟨L, bs, rfl, hil, hb1⟩
  have HR1 : Hid (Blk w1 w.heap.size 64 [.int .i64 0, .float .f64 0, .string ⟨#[]⟩, .slice none 0 0]) := ((Blk.new w 64 [.int .i64 0, .float .f64 0, .string ⟨#[]⟩, .slice none 0 0]).alloc _).below hb1 (by simp; omega)
  have HB1 : Hid (Below w.heap.size w w1) := Below.trans (by go_grown) (hb1.mono (by simp; omega))
  clear hb1
  have HIL : Hid (IsList _ w1 L bs (l.map fun a => .iface 84 a.fa)) := hil
  clear hil
  go_wp2_with fail
  refine (HM.out _ _ _ _ _ HIL.out).mono ?_
  rintro e w2 ⟨r, rfl, hP, hb2⟩
  have HP : Hid (P r) := hP
  have HR2 : Hid (Blk w2 w.heap.size 64 [.int .i64 0, .float .f64 0, .string ⟨#[]⟩, .slice none 0 0]) := HR1.out.below hb2 HR1.out.lt
  have HB2 : Hid (Below w.heap.size w w2) := HB1.out.trans (hb2.mono HB1.out.size)
  clear hP hb2 HIL
  go_wp2_with fail
  refine (doorArg_res r _).mono ?_
  rintro e w3 ⟨rfl, hb3⟩
  have HR3 : Hid (Blk w3 w.heap.size 64 [.int .i64 0, .float .f64 0, .string ⟨#[]⟩, .slice none 0 0]) := HR2.out.below hb3 HR2.out.lt
  have HB3 : Hid (Below w.heap.size w w3) := HB2.out.trans (hb3.mono HB2.out.size)
  clear hb3
  go_wp2_with (refine store_row rfl 64 (.tmp 2) (.tmp 7) rfl w.heap.size 64 [.int .i64 0, .float .f64 0, .string ⟨#[]⟩, .slice none 0 0] r.atom.cells rfl (Atom.val_eq _) HR3.out (by rw [Atom.clen]; exact size64) (by rw [Atom.clen]; rfl) (Atom.one _) w.heap.size (Nat.le_refl _) ?_; intro w6 hr6 hb6 _)
  refine bodyPost_ret (ret_row rfl _ _ w.heap.size 64 r.atom.cells _ rfl hr6 Tryz.underlying64 rfl (by rw [Atom.clen]; exact size64)) rfl ⟨r, by rw [Atom.val_eq], HP.out, HB3.out.trans hb6⟩

set_option maxRecDepth 20000 in
set_option maxHeartbeats 1000000 in
theorem lower_impl (l : List Atom) (P : Res → Prop) (v : Value) (w : World) (hl : ArgsAt w 37 v l) (hm : MethodGives 104 l P) :
    Calls Tryz.prog 49 #[v] w (GivesVal P w) := by
  obtain ⟨g, c, hv⟩ := hl.form
  have HL : Hid (ArgsAt w 37 v l) := hl
  have HM : Hid (MethodGives 104 l P) := hm
  have HV : Hid (v = .slice (some ⟨g, 0, none⟩) l.length c) := hv
  clear hl hm hv
  go_enter Tryz.func49, Tryz.ntmps49
  go_wp2_with fail
  refine (in_plain (l.map Atom.cells) v _ g c (by rw [List.length_map]; exact HV.out) (HL.out.1.keep (by go_grown)) (by intro x hx; obtain ⟨a, _, rfl⟩ := List.mem_map.1 hx; exact a.trio) (by rw [List.length_map]; exact HL.out.2.2.1)).mono ?_
  rintro e w1 ⟨v1, rfl, harr, hb1⟩
  have HR1 : Hid (Blk w1 w.heap.size 37 [.int .i64 0, .float .f64 0, .string ⟨#[]⟩, .slice none 0 0]) := (Blk.new w 37 [.int .i64 0, .float .f64 0, .string ⟨#[]⟩, .slice none 0 0]).below hb1 (by simp)
  have HB1 : Hid (Below w.heap.size w w1) := Below.trans (by go_grown) (hb1.mono (by simp))
  have HA : Hid (ArgsAt w1 64 v1 l) := ⟨harr.base (Nat.zero_le _), HL.out.2⟩
  clear hb1 harr
  go_wp2_with fail
  refine (lower_door l P v1 _ HA.out HM.out).mono ?_
  rintro e w2 ⟨r, rfl, hP, hb2⟩
  have HP : Hid (P r) := hP
  have HR2 : Hid (Blk w2 w.heap.size 37 [.int .i64 0, .float .f64 0, .string ⟨#[]⟩, .slice none 0 0]) := HR1.out.below hb2 HR1.out.lt
  have HB2 : Hid (Below w.heap.size w w2) := HB1.out.trans (hb2.mono HB1.out.size)
  clear hP hb2
  go_wp2_with fail
  refine (out_atom r.atom _).mono ?_
  rintro e w3 ⟨rfl, hb3⟩
  have HR3 : Hid (Blk w3 w.heap.size 37 [.int .i64 0, .float .f64 0, .string ⟨#[]⟩, .slice none 0 0]) := HR2.out.below hb3 HR2.out.lt
  have HB3 : Hid (Below w.heap.size w w3) := HB2.out.trans (hb3.mono HB2.out.size)
  clear hb3
  go_wp2_with (refine store_row rfl 37 (.tmp 2) (.tmp 6) rfl w.heap.size 37 [.int .i64 0, .float .f64 0, .string ⟨#[]⟩, .slice none 0 0] r.atom.cells rfl (Atom.val_eq _) HR3.out (by rw [Atom.clen]; exact size37) (by rw [Atom.clen]; rfl) (Atom.one _) w.heap.size (Nat.le_refl _) ?_; intro w6 hr6 hb6 _)
  refine bodyPost_ret (ret_row rfl _ _ w.heap.size 37 r.atom.cells _ rfl hr6 Tryz.underlying37 rfl (by rw [Atom.clen]; exact size37)) rfl ⟨r, by rw [Atom.val_eq], HP.out, HB3.out.trans hb6⟩

/-- LOWER of a text in a slice of one. -/
theorem lower_call (s : ByteArray) (hs : s.size ≤ 1000) (ha : AsciiS s) (v : Value) (w : World) (hv : ArgsAt w 37 v [.text s]) :
    Calls Tryz.prog 49 #[v] w fun e w' => e = .returned (.agg #[.int .i64 2, .float .f64 0, .string (lowS s), .slice none 0 0]) ∧ Below w.heap.size w w' :=
  (lower_impl _ _ v w hv (lower_gives s hs ha)).mono fun _ _ ⟨_, he, hr, hb⟩ => ⟨by rw [he, hr]; rfl, hb⟩
end Go.Proofs.YtoebgbojpkflnaaGreatDoor
