/- The function behind REPLACE and REPLACEB, at texts of at most 500 bytes and places that are there: the bytes are replaced. -/
import Derived.Test.YtoebgbojpkflnaaGreatDoorPlain
namespace Go.Proofs.YtoebgbojpkflnaaGreatDoor
open Go Go.RowKit
theorem size84 : (Tryz.prog.info? 84).map (fun i => i.size) = some 10 := by kernel_rfl
/-- Bytes of s from a up to b (not with it) replaced by t. -/
def spliced (s t : ByteArray) (a b : Nat) : ByteArray := s.extract 0 a ++ t ++ s.extract b s.size
theorem ret_text {X Y : ByteArray} (h : X = Y) : Ending.returned (Value.agg #[.string ⟨#[]⟩, .float .f64 0, .string X, .slice none 0 0, .slice none 0 0, .bool false, .string ⟨#[]⟩, .int .u8 2, .pointer none, .pointer none]) = .returned (Res.text Y).fa := by rw [h]; rfl
theorem splice1 (s t : ByteArray) (a b : Nat) (ha : a = s.size) (hb : b = s.size) : s ++ t = spliced s t a b := by
  subst ha; subst hb; unfold spliced; simp
theorem splice2 (s t : ByteArray) (a a' b : Nat) (ha : a' = a) (hb : b = s.size) : s.extract 0 a' ++ t = spliced s t a b := by
  subst ha; subst hb; unfold spliced; simp
theorem splice3 (s t : ByteArray) (a a' b b' : Nat) (ha : a' = a) (hb : b' = b) : s.extract 0 a' ++ t ++ s.extract b' s.size = spliced s t a b := by
  subst ha; subst hb; rfl
theorem blk_at {w : World} {b b' : Nat} {t : TypeId} {cs : List Value} (h : b' = b) (hb : Blk w b t cs) : Blk w b' t cs := h ▸ hb
set_option maxRecDepth 20000 in
set_option maxHeartbeats 1000000 in
theorem replace_nz (s t : ByteArray) (i n : Nat) (fi fn : Int) (gi : (FloatKind.f64.format.order i i != some .eq) = false) (zi : (FloatKind.f64.format.order i 0 == some .eq) = false) (hi : floatToIntVal .f64 i .i64 = some fi) (gn : (FloatKind.f64.format.order n n != some .eq) = false) (zn : (FloatKind.f64.format.order n 0 == some .eq) = false) (hn : floatToIntVal .f64 n .i64 = some fn)
    (i1 : 1 ≤ fi) (i2 : fi ≤ s.size + 1) (n1 : 0 ≤ fn) (n2 : fi - 1 + fn ≤ s.size) (hs : s.size ≤ 500) (ht : t.size ≤ 500) (F name : Value) (B L b0 b1 b2 b3 : Nat) (w : World)
    (hil : IsList B w L [b0, b1, b2, b3] [.iface 84 (Atom.text s).fa, .iface 84 (Atom.num i).fa, .iface 84 (Atom.num n).fa, .iface 84 (Atom.text t).fa]) :
    Calls Tryz.prog 132 #[F, name, .pointer (some ⟨L, 0, none⟩)] w fun e w' => e = .returned (Res.text (spliced s t (fi - 1).toNat (fi - 1 + fn).toNat)).fa ∧ Below w.heap.size w w' := by
  have ci : ∀ w', (convert 34 3 (.float .f64 i)).run Tryz.prog w' = .ok (.int .i64 fi) w' := fun w' => run_convert_float_int w' 34 3 .f64 .i64 i fi (by rw [Tryz.underlying34]; rfl) Tryz.underlying3 hi
  have cn : ∀ w', (convert 34 3 (.float .f64 n)).run Tryz.prog w' = .ok (.int .i64 fn) w' := fun w' => run_convert_float_int w' 34 3 .f64 .i64 n fn (by rw [Tryz.underlying34]; rfl) Tryz.underlying3 hn
  clear hi hn
  have HI2 : Hid (fi ≤ s.size + 1 ∧ fi - 1 + fn ≤ s.size) := ⟨i2, n2⟩
  obtain ⟨c0, l0⟩ := hil.at3 0 rfl rfl
  obtain ⟨c1, l1⟩ := hil.at3 1 rfl rfl
  obtain ⟨c2, l2⟩ := hil.at3 2 rfl rfl
  obtain ⟨c3, l3⟩ := hil.at3 3 rfl rfl
  unfold Atom.fa at c0 c1 c2 c3
  have m0 := lt_k l0
  have m1 := lt_k l1
  have m2 := lt_k l2
  have m3 := lt_k l3
  have HIL : Hid (IsList B w L [b0, b1, b2, b3] [.iface 84 (Atom.text s).fa, .iface 84 (Atom.num i).fa, .iface 84 (Atom.num n).fa, .iface 84 (Atom.text t).fa]) := hil
  clear hil
  go_enter Tryz.func132, Tryz.ntmps132
  go_wp2_with (first | (go_at_call 110; refine (len_any _ _ _ _ _ (HIL.out.keep (by go_grown))).mono ?_; rintro e w1 ⟨rfl, rfl⟩) | (go_at_call 112; refine (front_any _ _ _ _ _ _ _ (HIL.out.keep (by go_grown))).mono ?_; rintro e w1 ⟨rfl, rfl⟩) | (go_at_call 134; refine (back_any _ _ _ _ _ _ _ (HIL.out.keep (by go_grown))).mono ?_; rintro e w1 ⟨rfl, rfl⟩) | (go_at_call 116; go_in) | (go_at_call 125; go_in) | (go_at_call 117; go_in) | (go_at_call 148; go_in) | (go_at_call 127; go_in))
  refine abs_calls (fun w' => Blk w' w.heap.size 84 [.string ⟨#[]⟩, .float .f64 0, .string ⟨#[]⟩, .slice none 0 0, .slice none 0 0, .bool false, .string ⟨#[]⟩, .int .u8 0, .pointer none, .pointer none] ∧ Below w.heap.size w w') ⟨((Blk.new w 84 [.string ⟨#[]⟩, .float .f64 0, .string ⟨#[]⟩, .slice none 0 0, .slice none 0 0, .bool false, .string ⟨#[]⟩, .int .u8 0, .pointer none, .pointer none]).alloc _).alloc _, by go_grown⟩ ?_
  rintro w1 ⟨hr, hb1⟩
  have hil := HIL.out.keep hb1
  clear c0 c1 c2 c3 l0 l1 l2 l3 m0 m1 m2 m3
  clear HIL
  obtain ⟨c0, l0⟩ := hil.at3 0 rfl rfl
  obtain ⟨c1, l1⟩ := hil.at3 1 rfl rfl
  obtain ⟨c2, l2⟩ := hil.at3 2 rfl rfl
  obtain ⟨c3, l3⟩ := hil.at3 3 rfl rfl
  unfold Atom.fa at c0 c1 c2 c3
  have m0 := lt_k l0
  have m1 := lt_k l1
  have m2 := lt_k l2
  have m3 := lt_k l3
  have HIL : Hid (IsList B w1 L [b0, b1, b2, b3] [.iface 84 (Atom.text s).fa, .iface 84 (Atom.num i).fa, .iface 84 (Atom.num n).fa, .iface 84 (Atom.text t).fa]) := hil
  clear hil
  have HB1 : Hid (Below w.heap.size w w1) := hb1
  obtain ⟨r, hrr⟩ : ∃ r, r = w.heap.size := ⟨_, rfl⟩
  rw [← hrr] at hr ⊢
  have HRR : Hid (r = w.heap.size) := hrr
  clear hb1 hrr
  have HR : Hid (Blk w1 r 84 [.string ⟨#[]⟩, .float .f64 0, .string ⟨#[]⟩, .slice none 0 0, .slice none 0 0, .bool false, .string ⟨#[]⟩, .int .u8 0, .pointer none, .pointer none]) := hr
  clear hr
  refine (next_at _ L _ _ _ HIL.out 0 b0 b1 rfl rfl).mono ?_
  rintro e w2 ⟨rfl, rfl⟩
  go_wp2_with (first | (go_at_call 110; refine (len_any _ _ _ _ _ (HIL.out.keep (by go_grown))).mono ?_; rintro e w1 ⟨rfl, rfl⟩) | (go_at_call 112; refine (front_any _ _ _ _ _ _ _ (HIL.out.keep (by go_grown))).mono ?_; rintro e w1 ⟨rfl, rfl⟩) | (go_at_call 134; refine (back_any _ _ _ _ _ _ _ (HIL.out.keep (by go_grown))).mono ?_; rintro e w1 ⟨rfl, rfl⟩) | (go_at_call 116; go_in) | (go_at_call 125; go_in) | (go_at_call 117; go_in) | (go_at_call 148; go_in) | (go_at_call 127; go_in))
  refine abs_calls (fun w' => Blk w' r 84 [.string ⟨#[]⟩, .float .f64 0, .string ⟨#[]⟩, .slice none 0 0, .slice none 0 0, .bool false, .string ⟨#[]⟩, .int .u8 0, .pointer none, .pointer none] ∧ Below w1.heap.size w1 w') ⟨((HR.out.alloc _).alloc _).alloc _, by go_grown⟩ ?_
  rintro w2 ⟨hr, hb1⟩
  have hil := HIL.out.keep hb1
  clear c0 c1 c2 c3 l0 l1 l2 l3 m0 m1 m2 m3
  clear HIL
  obtain ⟨c0, l0⟩ := hil.at3 0 rfl rfl
  obtain ⟨c1, l1⟩ := hil.at3 1 rfl rfl
  obtain ⟨c2, l2⟩ := hil.at3 2 rfl rfl
  obtain ⟨c3, l3⟩ := hil.at3 3 rfl rfl
  unfold Atom.fa at c0 c1 c2 c3
  have m0 := lt_k l0
  have m1 := lt_k l1
  have m2 := lt_k l2
  have m3 := lt_k l3
  have HIL : Hid (IsList B w2 L [b0, b1, b2, b3] [.iface 84 (Atom.text s).fa, .iface 84 (Atom.num i).fa, .iface 84 (Atom.num n).fa, .iface 84 (Atom.text t).fa]) := hil
  clear hil
  have HB2 : Hid (Below w.heap.size w w2) := HB1.out.trans (hb1.mono HB1.out.size)
  clear HB1 hb1 HR
  have HR : Hid (Blk w2 r 84 [.string ⟨#[]⟩, .float .f64 0, .string ⟨#[]⟩, .slice none 0 0, .slice none 0 0, .bool false, .string ⟨#[]⟩, .int .u8 0, .pointer none, .pointer none]) := hr
  clear hr
  refine (next_at _ L _ _ _ HIL.out 0 b0 b1 rfl rfl).mono ?_
  rintro e w3 ⟨rfl, rfl⟩
  go_wp2_with fail
  refine (next_at _ L _ _ _ HIL.out 1 b1 b2 rfl rfl).mono ?_
  rintro e w3 ⟨rfl, rfl⟩
  go_wp2_with (first | (go_at_call 110; refine (len_any _ _ _ _ _ (HIL.out.keep (by go_grown))).mono ?_; rintro e w1 ⟨rfl, rfl⟩) | (go_at_call 112; refine (front_any _ _ _ _ _ _ _ (HIL.out.keep (by go_grown))).mono ?_; rintro e w1 ⟨rfl, rfl⟩) | (go_at_call 134; refine (back_any _ _ _ _ _ _ _ (HIL.out.keep (by go_grown))).mono ?_; rintro e w1 ⟨rfl, rfl⟩) | (go_at_call 116; go_in) | (go_at_call 125; go_in) | (go_at_call 117; go_in) | (go_at_call 148; go_in) | (go_at_call 127; go_in))
  refine abs_wp (fun w' => Blk w' r 84 [.string ⟨#[]⟩, .float .f64 0, .string ⟨#[]⟩, .slice none 0 0, .slice none 0 0, .bool false, .string ⟨#[]⟩, .int .u8 0, .pointer none, .pointer none] ∧ Blk w' (w2.heap.size + 1 + 1 + 1) 84 [.string ⟨#[]⟩, .float .f64 i, .string ⟨#[]⟩, .slice none 0 0, .slice none 0 0, .bool false, .string ⟨#[]⟩, .int .u8 1, .pointer none, .pointer none] ∧ Blk w' (w2.heap.size + 1 + 1 + 1 + 1) 84 [.string ⟨#[]⟩, .float .f64 n, .string ⟨#[]⟩, .slice none 0 0, .slice none 0 0, .bool false, .string ⟨#[]⟩, .int .u8 1, .pointer none, .pointer none] ∧ Below w2.heap.size w2 w') ⟨((((HR.out.alloc _).alloc _).alloc _).alloc _).alloc _, blk_at (by simp) ((Blk.new _ 84 [.string ⟨#[]⟩, .float .f64 i, .string ⟨#[]⟩, .slice none 0 0, .slice none 0 0, .bool false, .string ⟨#[]⟩, .int .u8 1, .pointer none, .pointer none]).alloc _), blk_at (by simp) (Blk.new _ 84 [.string ⟨#[]⟩, .float .f64 n, .string ⟨#[]⟩, .slice none 0 0, .slice none 0 0, .bool false, .string ⟨#[]⟩, .int .u8 1, .pointer none, .pointer none]), by go_grown⟩ ?_
  rintro w3 ⟨hr, h9, h10, hb1⟩
  have HB3 : Hid (Below w.heap.size w w3) := HB2.out.trans (hb1.mono HB2.out.size)
  have HR3 : Hid (Blk w3 r 84 [.string ⟨#[]⟩, .float .f64 0, .string ⟨#[]⟩, .slice none 0 0, .slice none 0 0, .bool false, .string ⟨#[]⟩, .int .u8 0, .pointer none, .pointer none]) := hr
  clear c0 c1 c2 c3 l0 l1 l2 l3 m0 m1 m2 m3
  clear HB2 hb1 HR hr HIL
  have d1 := h9.get 1 rfl
  have d2 := h10.get 1 rfl
  clear h9 h10
  generalize w2.heap.size + 1 + 1 + 1 + 1 = t10 at *
  generalize w2.heap.size + 1 + 1 + 1 = t9 at *
  go_quiet (fail)
  go_wp2_with fail
  all_goals
    have i2 := HI2.out.1
    have n2 := HI2.out.2
    have e1 : IntKind.i64.wrap (fi - 1) = fi - 1 := IntWalk.i64_in _ (by omega)
    have e2 : IntKind.i64.wrap (fi + fn - 1) = fi + fn - 1 := IntWalk.i64_in _ (by omega)
    have e3 : IntKind.i64.wrap (s.size : Int) = s.size := IntWalk.i64_in _ (by omega)
    have x1 : 0 ≤ fi - 1 := by omega
    have x2 : fi - 1 ≤ s.size := by omega
    have x3 : 0 ≤ fi + fn - 1 := by omega
    have x4 : fi + fn - 1 ≤ s.size := by omega
    go_quiet (fail)
    go_wp2_with fail
    refine abs_calls (fun w' => Blk w' r 84 [.string ⟨#[]⟩, .float .f64 0, .string ⟨#[]⟩, .slice none 0 0, .slice none 0 0, .bool false, .string ⟨#[]⟩, .int .u8 0, .pointer none, .pointer none] ∧ Below w.heap.size w w') ⟨HR3.out, below_drewN' HB3.out _⟩ ?_
    rintro w4 ⟨hr, hb4⟩
    have hr1 : w.heap.size ≤ r := by rw [HRR.out]; exact Nat.le_refl _
    have HB4 : Hid (Below w.heap.size w w4) := hb4
    have HR4 : Hid (Blk w4 r 84 [.string ⟨#[]⟩, .float .f64 0, .string ⟨#[]⟩, .slice none 0 0, .slice none 0 0, .bool false, .string ⟨#[]⟩, .int .u8 0, .pointer none, .pointer none]) := hr
    clear hr hb4 d1 d2 e1 e2 e3 x1 x2 x3 x4 ci cn
    refine (newString_any _ _).mono ?_
    rintro e w5 ⟨rfl, hb5⟩
    go_wp2_with (refine store_row rfl 84 (.tmp 6) (.tmp 99) rfl r 84 [.string ⟨#[]⟩, .float .f64 0, .string ⟨#[]⟩, .slice none 0 0, .slice none 0 0, .bool false, .string ⟨#[]⟩, .int .u8 0, .pointer none, .pointer none] _ rfl rfl (HR4.out.below hb5 HR4.out.lt) size84 rfl rfl w.heap.size hr1 ?_; intro w6 hr6 hb6 _)
    refine bodyPost_ret (ret_row rfl _ _ r 84 _ _ rfl hr6 Tryz.underlying84 rfl size84) rfl ⟨?_, (HB4.out.trans (hb5.mono HB4.out.size)).trans hb6⟩
  · exact ret_text (splice1 s t _ _ (by omega) (by omega))
  · exact ret_text (splice2 s t _ _ _ (by omega) (by omega))
  · exact ret_text (splice3 s t _ _ _ _ (by omega) (by omega))
set_option maxRecDepth 20000 in
set_option maxHeartbeats 1000000 in
theorem replace_z (s t : ByteArray) (i : Nat) (fi fn : Int) (gi : (FloatKind.f64.format.order i i != some .eq) = false) (zi : (FloatKind.f64.format.order i 0 == some .eq) = false) (hi : floatToIntVal .f64 i .i64 = some fi) (gn : (FloatKind.f64.format.order 0 0 != some .eq) = false) (zn : (FloatKind.f64.format.order 0 0 == some .eq) = true) (hn : floatToIntVal .f64 0 .i64 = some fn)
    (i1 : 1 ≤ fi) (i2 : fi ≤ s.size + 1) (n1 : 0 ≤ fn) (n2 : fi - 1 + fn ≤ s.size) (hs : s.size ≤ 500) (ht : t.size ≤ 500) (F name : Value) (B L b0 b1 b2 b3 : Nat) (w : World)
    (hil : IsList B w L [b0, b1, b2, b3] [.iface 84 (Atom.text s).fa, .iface 84 (Atom.num i).fa, .iface 84 (Atom.num 0).fa, .iface 84 (Atom.text t).fa]) :
    Calls Tryz.prog 132 #[F, name, .pointer (some ⟨L, 0, none⟩)] w fun e w' => e = .returned (Res.text (spliced s t (fi - 1).toNat (fi - 1 + fn).toNat)).fa ∧ Below w.heap.size w w' := by
  have ci : ∀ w', (convert 34 3 (.float .f64 i)).run Tryz.prog w' = .ok (.int .i64 fi) w' := fun w' => run_convert_float_int w' 34 3 .f64 .i64 i fi (by rw [Tryz.underlying34]; rfl) Tryz.underlying3 hi
  have cn : ∀ w', (convert 34 3 (.float .f64 0)).run Tryz.prog w' = .ok (.int .i64 fn) w' := fun w' => run_convert_float_int w' 34 3 .f64 .i64 0 fn (by rw [Tryz.underlying34]; rfl) Tryz.underlying3 hn
  clear hi hn
  have HI2 : Hid (fi ≤ s.size + 1 ∧ fi - 1 + fn ≤ s.size) := ⟨i2, n2⟩
  obtain ⟨c0, l0⟩ := hil.at3 0 rfl rfl
  obtain ⟨c1, l1⟩ := hil.at3 1 rfl rfl
  obtain ⟨c2, l2⟩ := hil.at3 2 rfl rfl
  obtain ⟨c3, l3⟩ := hil.at3 3 rfl rfl
  unfold Atom.fa at c0 c1 c2 c3
  have m0 := lt_k l0
  have m1 := lt_k l1
  have m2 := lt_k l2
  have m3 := lt_k l3
  have HIL : Hid (IsList B w L [b0, b1, b2, b3] [.iface 84 (Atom.text s).fa, .iface 84 (Atom.num i).fa, .iface 84 (Atom.num 0).fa, .iface 84 (Atom.text t).fa]) := hil
  clear hil
  go_enter Tryz.func132, Tryz.ntmps132
  go_wp2_with (first | (go_at_call 110; refine (len_any _ _ _ _ _ (HIL.out.keep (by go_grown))).mono ?_; rintro e w1 ⟨rfl, rfl⟩) | (go_at_call 112; refine (front_any _ _ _ _ _ _ _ (HIL.out.keep (by go_grown))).mono ?_; rintro e w1 ⟨rfl, rfl⟩) | (go_at_call 134; refine (back_any _ _ _ _ _ _ _ (HIL.out.keep (by go_grown))).mono ?_; rintro e w1 ⟨rfl, rfl⟩) | (go_at_call 116; go_in) | (go_at_call 125; go_in) | (go_at_call 117; go_in) | (go_at_call 148; go_in) | (go_at_call 127; go_in))
  refine abs_calls (fun w' => Blk w' w.heap.size 84 [.string ⟨#[]⟩, .float .f64 0, .string ⟨#[]⟩, .slice none 0 0, .slice none 0 0, .bool false, .string ⟨#[]⟩, .int .u8 0, .pointer none, .pointer none] ∧ Below w.heap.size w w') ⟨((Blk.new w 84 [.string ⟨#[]⟩, .float .f64 0, .string ⟨#[]⟩, .slice none 0 0, .slice none 0 0, .bool false, .string ⟨#[]⟩, .int .u8 0, .pointer none, .pointer none]).alloc _).alloc _, by go_grown⟩ ?_
  rintro w1 ⟨hr, hb1⟩
  have hil := HIL.out.keep hb1
  clear c0 c1 c2 c3 l0 l1 l2 l3 m0 m1 m2 m3
  clear HIL
  obtain ⟨c0, l0⟩ := hil.at3 0 rfl rfl
  obtain ⟨c1, l1⟩ := hil.at3 1 rfl rfl
  obtain ⟨c2, l2⟩ := hil.at3 2 rfl rfl
  obtain ⟨c3, l3⟩ := hil.at3 3 rfl rfl
  unfold Atom.fa at c0 c1 c2 c3
  have m0 := lt_k l0
  have m1 := lt_k l1
  have m2 := lt_k l2
  have m3 := lt_k l3
  have HIL : Hid (IsList B w1 L [b0, b1, b2, b3] [.iface 84 (Atom.text s).fa, .iface 84 (Atom.num i).fa, .iface 84 (Atom.num 0).fa, .iface 84 (Atom.text t).fa]) := hil
  clear hil
  have HB1 : Hid (Below w.heap.size w w1) := hb1
  obtain ⟨r, hrr⟩ : ∃ r, r = w.heap.size := ⟨_, rfl⟩
  rw [← hrr] at hr ⊢
  have HRR : Hid (r = w.heap.size) := hrr
  clear hb1 hrr
  have HR : Hid (Blk w1 r 84 [.string ⟨#[]⟩, .float .f64 0, .string ⟨#[]⟩, .slice none 0 0, .slice none 0 0, .bool false, .string ⟨#[]⟩, .int .u8 0, .pointer none, .pointer none]) := hr
  clear hr
  refine (next_at _ L _ _ _ HIL.out 0 b0 b1 rfl rfl).mono ?_
  rintro e w2 ⟨rfl, rfl⟩
  go_wp2_with (first | (go_at_call 110; refine (len_any _ _ _ _ _ (HIL.out.keep (by go_grown))).mono ?_; rintro e w1 ⟨rfl, rfl⟩) | (go_at_call 112; refine (front_any _ _ _ _ _ _ _ (HIL.out.keep (by go_grown))).mono ?_; rintro e w1 ⟨rfl, rfl⟩) | (go_at_call 134; refine (back_any _ _ _ _ _ _ _ (HIL.out.keep (by go_grown))).mono ?_; rintro e w1 ⟨rfl, rfl⟩) | (go_at_call 116; go_in) | (go_at_call 125; go_in) | (go_at_call 117; go_in) | (go_at_call 148; go_in) | (go_at_call 127; go_in))
  refine abs_calls (fun w' => Blk w' r 84 [.string ⟨#[]⟩, .float .f64 0, .string ⟨#[]⟩, .slice none 0 0, .slice none 0 0, .bool false, .string ⟨#[]⟩, .int .u8 0, .pointer none, .pointer none] ∧ Below w1.heap.size w1 w') ⟨((HR.out.alloc _).alloc _).alloc _, by go_grown⟩ ?_
  rintro w2 ⟨hr, hb1⟩
  have hil := HIL.out.keep hb1
  clear c0 c1 c2 c3 l0 l1 l2 l3 m0 m1 m2 m3
  clear HIL
  obtain ⟨c0, l0⟩ := hil.at3 0 rfl rfl
  obtain ⟨c1, l1⟩ := hil.at3 1 rfl rfl
  obtain ⟨c2, l2⟩ := hil.at3 2 rfl rfl
  obtain ⟨c3, l3⟩ := hil.at3 3 rfl rfl
  unfold Atom.fa at c0 c1 c2 c3
  have m0 := lt_k l0
  have m1 := lt_k l1
  have m2 := lt_k l2
  have m3 := lt_k l3
  have HIL : Hid (IsList B w2 L [b0, b1, b2, b3] [.iface 84 (Atom.text s).fa, .iface 84 (Atom.num i).fa, .iface 84 (Atom.num 0).fa, .iface 84 (Atom.text t).fa]) := hil
  clear hil
  have HB2 : Hid (Below w.heap.size w w2) := HB1.out.trans (hb1.mono HB1.out.size)
  clear HB1 hb1 HR
  have HR : Hid (Blk w2 r 84 [.string ⟨#[]⟩, .float .f64 0, .string ⟨#[]⟩, .slice none 0 0, .slice none 0 0, .bool false, .string ⟨#[]⟩, .int .u8 0, .pointer none, .pointer none]) := hr
  clear hr
  refine (next_at _ L _ _ _ HIL.out 0 b0 b1 rfl rfl).mono ?_
  rintro e w3 ⟨rfl, rfl⟩
  go_wp2_with fail
  refine (next_at _ L _ _ _ HIL.out 1 b1 b2 rfl rfl).mono ?_
  rintro e w3 ⟨rfl, rfl⟩
  go_wp2_with (first | (go_at_call 110; refine (len_any _ _ _ _ _ (HIL.out.keep (by go_grown))).mono ?_; rintro e w1 ⟨rfl, rfl⟩) | (go_at_call 112; refine (front_any _ _ _ _ _ _ _ (HIL.out.keep (by go_grown))).mono ?_; rintro e w1 ⟨rfl, rfl⟩) | (go_at_call 134; refine (back_any _ _ _ _ _ _ _ (HIL.out.keep (by go_grown))).mono ?_; rintro e w1 ⟨rfl, rfl⟩) | (go_at_call 116; go_in) | (go_at_call 125; go_in) | (go_at_call 117; go_in) | (go_at_call 148; go_in) | (go_at_call 127; go_in))
  refine abs_wp (fun w' => Blk w' r 84 [.string ⟨#[]⟩, .float .f64 0, .string ⟨#[]⟩, .slice none 0 0, .slice none 0 0, .bool false, .string ⟨#[]⟩, .int .u8 0, .pointer none, .pointer none] ∧ Blk w' (w2.heap.size + 1 + 1 + 1) 84 [.string ⟨#[]⟩, .float .f64 i, .string ⟨#[]⟩, .slice none 0 0, .slice none 0 0, .bool false, .string ⟨#[]⟩, .int .u8 1, .pointer none, .pointer none] ∧ Blk w' (w2.heap.size + 1 + 1 + 1 + 1) 84 [.string ⟨#[]⟩, .float .f64 0, .string ⟨#[]⟩, .slice none 0 0, .slice none 0 0, .bool false, .string ⟨#[]⟩, .int .u8 1, .pointer none, .pointer none] ∧ Below w2.heap.size w2 w') ⟨((((HR.out.alloc _).alloc _).alloc _).alloc _).alloc _, blk_at (by simp) ((Blk.new _ 84 [.string ⟨#[]⟩, .float .f64 i, .string ⟨#[]⟩, .slice none 0 0, .slice none 0 0, .bool false, .string ⟨#[]⟩, .int .u8 1, .pointer none, .pointer none]).alloc _), blk_at (by simp) (Blk.new _ 84 [.string ⟨#[]⟩, .float .f64 0, .string ⟨#[]⟩, .slice none 0 0, .slice none 0 0, .bool false, .string ⟨#[]⟩, .int .u8 1, .pointer none, .pointer none]), by go_grown⟩ ?_
  rintro w3 ⟨hr, h9, h10, hb1⟩
  have HB3 : Hid (Below w.heap.size w w3) := HB2.out.trans (hb1.mono HB2.out.size)
  have HR3 : Hid (Blk w3 r 84 [.string ⟨#[]⟩, .float .f64 0, .string ⟨#[]⟩, .slice none 0 0, .slice none 0 0, .bool false, .string ⟨#[]⟩, .int .u8 0, .pointer none, .pointer none]) := hr
  clear c0 c1 c2 c3 l0 l1 l2 l3 m0 m1 m2 m3
  clear HB2 hb1 HR hr HIL
  have d1 := h9.get 1 rfl
  have d2 := h10.get 1 rfl
  clear h9 h10
  generalize w2.heap.size + 1 + 1 + 1 + 1 = t10 at *
  generalize w2.heap.size + 1 + 1 + 1 = t9 at *
  go_quiet (fail)
  go_wp2_with fail
  all_goals
    have i2 := HI2.out.1
    have n2 := HI2.out.2
    have e1 : IntKind.i64.wrap (fi - 1) = fi - 1 := IntWalk.i64_in _ (by omega)
    have e2 : IntKind.i64.wrap (fi + fn - 1) = fi + fn - 1 := IntWalk.i64_in _ (by omega)
    have e3 : IntKind.i64.wrap (s.size : Int) = s.size := IntWalk.i64_in _ (by omega)
    have x1 : 0 ≤ fi - 1 := by omega
    have x2 : fi - 1 ≤ s.size := by omega
    have x3 : 0 ≤ fi + fn - 1 := by omega
    have x4 : fi + fn - 1 ≤ s.size := by omega
    go_quiet (fail)
    go_wp2_with fail
    refine abs_calls (fun w' => Blk w' r 84 [.string ⟨#[]⟩, .float .f64 0, .string ⟨#[]⟩, .slice none 0 0, .slice none 0 0, .bool false, .string ⟨#[]⟩, .int .u8 0, .pointer none, .pointer none] ∧ Below w.heap.size w w') ⟨HR3.out, below_drewN' HB3.out _⟩ ?_
    rintro w4 ⟨hr, hb4⟩
    have hr1 : w.heap.size ≤ r := by rw [HRR.out]; exact Nat.le_refl _
    have HB4 : Hid (Below w.heap.size w w4) := hb4
    have HR4 : Hid (Blk w4 r 84 [.string ⟨#[]⟩, .float .f64 0, .string ⟨#[]⟩, .slice none 0 0, .slice none 0 0, .bool false, .string ⟨#[]⟩, .int .u8 0, .pointer none, .pointer none]) := hr
    clear hr hb4 d1 d2 e1 e2 e3 x1 x2 x3 x4 ci cn
    refine (newString_any _ _).mono ?_
    rintro e w5 ⟨rfl, hb5⟩
    go_wp2_with (refine store_row rfl 84 (.tmp 6) (.tmp 99) rfl r 84 [.string ⟨#[]⟩, .float .f64 0, .string ⟨#[]⟩, .slice none 0 0, .slice none 0 0, .bool false, .string ⟨#[]⟩, .int .u8 0, .pointer none, .pointer none] _ rfl rfl (HR4.out.below hb5 HR4.out.lt) size84 rfl rfl w.heap.size hr1 ?_; intro w6 hr6 hb6 _)
    refine bodyPost_ret (ret_row rfl _ _ r 84 _ _ rfl hr6 Tryz.underlying84 rfl size84) rfl ⟨?_, (HB4.out.trans (hb5.mono HB4.out.size)).trans hb6⟩
  · exact ret_text (splice1 s t _ _ (by omega) (by omega))
  · exact ret_text (splice2 s t _ _ _ (by omega) (by omega))
  · exact ret_text (splice3 s t _ _ _ _ (by omega) (by omega))
end Go.Proofs.YtoebgbojpkflnaaGreatDoor
