/- FIND of two or three arguments: the place of the first occurrence, or an error. Conditions: at most 1000 bytes of ASCII, no wildcards, what is looked for is not empty. -/
import Derived.Test.YtoebgbojpkflnaaGreatDoorClos
namespace Go.Proofs.YtoebgbojpkflnaaGreatDoor
open Go Go.RowKit

def Res.cells : Res → List Value
  | .num b => [.string ⟨#[]⟩, .float .f64 b, .string ⟨#[]⟩, .slice none 0 0, .slice none 0 0, .bool false, .string ⟨#[]⟩, .int .u8 1, .pointer none, .pointer none]
  | .text s => [.string ⟨#[]⟩, .float .f64 0, .string s, .slice none 0 0, .slice none 0 0, .bool false, .string ⟨#[]⟩, .int .u8 2, .pointer none, .pointer none]
  | .err s m => [.string ⟨#[]⟩, .float .f64 0, .string s, .slice none 0 0, .slice none 0 0, .bool false, .string m, .int .u8 5, .pointer none, .pointer none]
theorem Res.fa_eq (r : Res) : r.fa = .agg r.cells.toArray := by cases r <;> rfl
theorem Res.len (r : Res) : r.cells.length = 10 := by cases r <;> rfl
theorem Res.one (r : Res) : r.cells.all (fun u => u.oneCell') = true := by cases r <;> rfl
/-- A result stored into its own block. -/
theorem store_res {w : World} {ops : Array Oper} {rest : List Oper} {o : Oper} {a : Act} {Q : Exit → Act → World → Prop} (hgd : o.guard = none) (x y : Operand) (ho : o.op = .store 84 x y)
    (g : Nat) (old : List Value) (r : Res) (hx : a.eval x = .pointer (some ⟨g, 0, none⟩)) (hy : a.eval y = r.fa) (hg : Blk w g 84 old) (hold : old.length = 10) (B : Nat) (hB : B ≤ g)
    (h : ∀ w', Blk w' g 84 r.cells → Below B w w' → wpList Tryz.prog ops Q rest (a.put o.dst undef) w') : wpList Tryz.prog ops Q (o :: rest) a w :=
  store_row hgd 84 x y ho g 84 old r.cells hx (by rw [hy, Res.fa_eq]) hg (by rw [r.len]; exact size84) (by rw [r.len]; exact hold) r.one B hB fun w' h1 h2 _ => h w' h1 h2
theorem ret_res {fn : Func} {p : Tmp} (h : fn.results = #[.cell p 84]) (tmps : Array Value) (w : World) (g : Nat) (r : Res) (hp : tmps.getD p undef = .pointer (some ⟨g, 0, none⟩)) (hg : Blk w g 84 r.cells) :
    (results fn tmps).run Tryz.prog w = .ok r.fa w := by
  rw [Res.fa_eq]
  exact ret_row h tmps w g 84 r.cells _ hp hg Tryz.underlying84 rfl (by rw [r.len]; exact size84)

set_option maxRecDepth 20000 in
set_option maxHeartbeats 1000000 in
theorem find_2 (s sub : ByteArray)  (hs : s.size ≤ 1000) (hb : sub.size ≤ 1000) (ha : AsciiS s) (hw : NoWild sub)  (hne : sub.toList.isEmpty = false) (F : Value) (B L b0 b1 : Nat) (w : World)
    (hil : IsList B w L [b0, b1] [.iface 84 (Atom.text sub).fa, .iface 84 (Atom.text s).fa]) :
    Calls Tryz.prog 131 #[F, .string ⟨#[70, 73, 78, 68]⟩, .pointer (some ⟨L, 0, none⟩)] w (Found s sub 0 w) := by
  have HIL : Hid (IsList B w L [b0, b1] [.iface 84 (Atom.text sub).fa, .iface 84 (Atom.text s).fa]) := hil
  have ci : ∀ w', (convert 34 3 (.float .f64 (fx 1 0))).run Tryz.prog w' = .ok (.int .i64 1) w' := fun w' => run_convert_float_int w' 34 3 .f64 .i64 (fx 1 0) 1 (by rw [Tryz.underlying34]; rfl) Tryz.underlying3 (toIntVal_fx (by omega))
  clear hil
  go_enter Tryz.func131, Tryz.ntmps131
  go_wp2_with fail
  refine (prep_two _ _ _ _ _ _ _ _ _ (HIL.out.keep (by go_grown))).mono ?_
  rintro e w1 ⟨g, rfl, hg, hgs, hb1⟩
  have hil := HIL.out.keep (((Below.refl _ _).alloc (Nat.le_refl _) _).trans (hb1.mono (by simp)))
  clear HIL
  have hr := (Blk.new w 84 [.string ⟨#[]⟩, .float .f64 0, .string ⟨#[]⟩, .slice none 0 0, .slice none 0 0, .bool false, .string ⟨#[]⟩, .int .u8 0, .pointer none, .pointer none]).below hb1 (by simp)
  have HR1 : Hid (Blk w1 w.heap.size 84 [.string ⟨#[]⟩, .float .f64 0, .string ⟨#[]⟩, .slice none 0 0, .slice none 0 0, .bool false, .string ⟨#[]⟩, .int .u8 0, .pointer none, .pointer none]) := hr
  have HB1 : Hid (Below w.heap.size w w1) := ((Below.refl _ _).alloc (Nat.le_refl _) _).trans (hb1.mono (by simp))
  clear hr hb1 hgs
  obtain ⟨c0, l0⟩ := hil.at3 0 rfl rfl
  obtain ⟨c1, l1⟩ := hil.at3 1 rfl rfl
  unfold Atom.fa at c0 c1
  have m0 := lt_k l0
  have m1 := lt_k l1
  have d1 := hg.get 1 rfl
  have lg := hg.lt
  have mg := lt_k lg
  clear hg
  generalize hbb : fx 1 0 = b at *
  have HIL : Hid (IsList B w1 L [b0, b1] _) := hil
  clear hil hbb
  obtain ⟨r, hrr⟩ : ∃ r, r = w.heap.size := ⟨_, rfl⟩
  rw [← hrr] at HR1 ⊢
  have HRR : Hid (r = w.heap.size) := hrr
  clear hrr
  go_wp2_with (first | (go_at_call 112; refine (front_any _ _ _ _ _ _ _ (HIL.out.keep (by go_grown))).mono ?_; rintro e w2 ⟨rfl, rfl⟩) | (go_at_call 116; go_in))
  refine (next_at _ L _ _ _ (HIL.out.keep (by go_grown)) 0 b0 b1 rfl rfl).mono ?_
  rintro e w2 ⟨rfl, rfl⟩
  go_wp2_with (first | (go_at_call 116; go_in))
  refine (find1_plain s sub 0 hs hb ha hw (by omega) hne _ _ _ _ _ (blk_at (by simp) ((((Blk.new _ 3 [.int .i64 1]).alloc _).alloc _).alloc _)) (blk_at (by simp) ((Blk.new _ 4 [.bool false]).alloc _)) (blk_at (by simp) (((((Blk.new _ 9 [.string s]).alloc _).alloc _).alloc _).alloc _)) (blk_at (by simp) (((Blk.new _ 4 [.bool false]).alloc _).alloc _))).mono ?_
  rintro e w2 ⟨k, rfl, hf, hb2⟩
  have HF : Hid (First s sub 0 k) := hf
  have HR2 : Hid (Blk w2 r 84 [.string ⟨#[]⟩, .float .f64 0, .string ⟨#[]⟩, .slice none 0 0, .slice none 0 0, .bool false, .string ⟨#[]⟩, .int .u8 0, .pointer none, .pointer none]) := (((((((((HR1.out.alloc _).alloc _).alloc _).alloc _).alloc _).alloc _).alloc _).alloc _)).below hb2 (by have := HR1.out.lt; simp; omega)
  have HB2 : Hid (Below w.heap.size w w2) := (HB1.out.trans (Below.mono (by go_grown) HB1.out.size)).trans (hb2.mono (by have := HB1.out.size; simp; omega))
  clear hf hb2 c0 c1 d1
  go_wp2_with (refine store_res rfl (.tmp 6) (.tmp 95) rfl r [.string ⟨#[]⟩, .float .f64 0, .string ⟨#[]⟩, .slice none 0 0, .slice none 0 0, .bool false, .string ⟨#[]⟩, .int .u8 0, .pointer none, .pointer none] (foundRes s k) rfl rfl HR2.out rfl w.heap.size (by rw [HRR.out]; exact Nat.le_refl _) ?_; intro w6 hr6 hb6)
  exact bodyPost_ret (ret_res rfl _ _ r (foundRes s k) rfl hr6) rfl ⟨k, rfl, HF.out, HB2.out.trans hb6⟩

set_option maxRecDepth 20000 in
set_option maxHeartbeats 1000000 in
theorem find_3 (s sub : ByteArray) (a : Nat) (hs : s.size ≤ 1000) (hb : sub.size ≤ 1000) (ha : AsciiS s) (hw : NoWild sub) (hal : a ≤ 100000) (hne : sub.toList.isEmpty = false) (F : Value) (B L b0 b1 b2 : Nat) (w : World)
    (hil : IsList B w L [b0, b1, b2] [.iface 84 (Atom.text sub).fa, .iface 84 (Atom.text s).fa, .iface 84 (Atom.num (fx (a + 1) 0)).fa]) :
    Calls Tryz.prog 131 #[F, .string ⟨#[70, 73, 78, 68]⟩, .pointer (some ⟨L, 0, none⟩)] w (Found s sub a w) := by
  have HIL : Hid (IsList B w L [b0, b1, b2] [.iface 84 (Atom.text sub).fa, .iface 84 (Atom.text s).fa, .iface 84 (Atom.num (fx (a + 1) 0)).fa]) := hil
  have ci : ∀ w', (convert 34 3 (.float .f64 (fx (a + 1) 0))).run Tryz.prog w' = .ok (.int .i64 (a + 1)) w' := fun w' => run_convert_float_int w' 34 3 .f64 .i64 (fx (a + 1) 0) (a + 1) (by rw [Tryz.underlying34]; rfl) Tryz.underlying3 (toIntVal_fx (by omega))
  clear hil
  go_enter Tryz.func131, Tryz.ntmps131
  go_wp2_with fail
  refine (prep_three _ (by omega) (by omega) _ _ _ _ _ _ _ _ _ _ (HIL.out.keep (by go_grown))).mono ?_
  rintro e w1 ⟨g, rfl, hg, hgs, hb1⟩
  have hil := HIL.out.keep (((Below.refl _ _).alloc (Nat.le_refl _) _).trans (hb1.mono (by simp)))
  clear HIL
  have hr := (Blk.new w 84 [.string ⟨#[]⟩, .float .f64 0, .string ⟨#[]⟩, .slice none 0 0, .slice none 0 0, .bool false, .string ⟨#[]⟩, .int .u8 0, .pointer none, .pointer none]).below hb1 (by simp)
  have HR1 : Hid (Blk w1 w.heap.size 84 [.string ⟨#[]⟩, .float .f64 0, .string ⟨#[]⟩, .slice none 0 0, .slice none 0 0, .bool false, .string ⟨#[]⟩, .int .u8 0, .pointer none, .pointer none]) := hr
  have HB1 : Hid (Below w.heap.size w w1) := ((Below.refl _ _).alloc (Nat.le_refl _) _).trans (hb1.mono (by simp))
  clear hr hb1 hgs
  obtain ⟨c0, l0⟩ := hil.at3 0 rfl rfl
  obtain ⟨c1, l1⟩ := hil.at3 1 rfl rfl
  unfold Atom.fa at c0 c1
  have m0 := lt_k l0
  have m1 := lt_k l1
  have d1 := hg.get 1 rfl
  have lg := hg.lt
  have mg := lt_k lg
  clear hg
  generalize hbb : fx (a + 1) 0 = b at *
  have HIL : Hid (IsList B w1 L [b0, b1, b2] _) := hil
  clear hil hbb
  obtain ⟨r, hrr⟩ : ∃ r, r = w.heap.size := ⟨_, rfl⟩
  rw [← hrr] at HR1 ⊢
  have HRR : Hid (r = w.heap.size) := hrr
  clear hrr
  go_wp2_with (first | (go_at_call 112; refine (front_any _ _ _ _ _ _ _ (HIL.out.keep (by go_grown))).mono ?_; rintro e w2 ⟨rfl, rfl⟩) | (go_at_call 116; go_in))
  refine (next_at _ L _ _ _ (HIL.out.keep (by go_grown)) 0 b0 b1 rfl rfl).mono ?_
  rintro e w2 ⟨rfl, rfl⟩
  go_wp2_with (first | (go_at_call 116; go_in))
  refine (find1_plain s sub a hs hb ha hw (by omega) hne _ _ _ _ _ (blk_at (by simp) ((((Blk.new _ 3 [.int .i64 (a + 1)]).alloc _).alloc _).alloc _)) (blk_at (by simp) ((Blk.new _ 4 [.bool false]).alloc _)) (blk_at (by simp) (((((Blk.new _ 9 [.string s]).alloc _).alloc _).alloc _).alloc _)) (blk_at (by simp) (((Blk.new _ 4 [.bool false]).alloc _).alloc _))).mono ?_
  rintro e w2 ⟨k, rfl, hf, hb2⟩
  have HF : Hid (First s sub a k) := hf
  have HR2 : Hid (Blk w2 r 84 [.string ⟨#[]⟩, .float .f64 0, .string ⟨#[]⟩, .slice none 0 0, .slice none 0 0, .bool false, .string ⟨#[]⟩, .int .u8 0, .pointer none, .pointer none]) := (((((((((HR1.out.alloc _).alloc _).alloc _).alloc _).alloc _).alloc _).alloc _).alloc _)).below hb2 (by have := HR1.out.lt; simp; omega)
  have HB2 : Hid (Below w.heap.size w w2) := (HB1.out.trans (Below.mono (by go_grown) HB1.out.size)).trans (hb2.mono (by have := HB1.out.size; simp; omega))
  clear hf hb2 c0 c1 d1
  go_wp2_with (refine store_res rfl (.tmp 6) (.tmp 95) rfl r [.string ⟨#[]⟩, .float .f64 0, .string ⟨#[]⟩, .slice none 0 0, .slice none 0 0, .bool false, .string ⟨#[]⟩, .int .u8 0, .pointer none, .pointer none] (foundRes s k) rfl rfl HR2.out rfl w.heap.size (by rw [HRR.out]; exact Nat.le_refl _) ?_; intro w6 hr6 hb6)
  exact bodyPost_ret (ret_res rfl _ _ r (foundRes s k) rfl hr6) rfl ⟨k, rfl, HF.out, HB2.out.trans hb6⟩
end Go.Proofs.YtoebgbojpkflnaaGreatDoor
