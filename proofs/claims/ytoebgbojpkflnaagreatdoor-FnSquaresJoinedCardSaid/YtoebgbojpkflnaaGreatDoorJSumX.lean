/- Proof of FnSquaresJoined, a part: The sums over two rows of whole numbers: SUMXMY2, SUMX2PY2, SUMX2MY2. -/
import Derived.Outline
import Derived.Test.YtoebgbojpkflnaaGreatDoorJTrunc
import Derived.Test.YtoebgbojpkflnaaGreatDoorJSumSq
import Derived.Test.YtoebgbojpkflnaaGreatDoorJRegInv
namespace Go.Proofs.YtoebgbojpkflnaaGreatDoor
open Go Go.RowKit
/-- Two tables among the arguments, taken apart. -/
theorem two_tabs {B L : Nat} {bs : List Nat} {fs : List Value} {w : World} {t u : List Atom} {n : Nat} (ht : t.length = n) (hu : u.length = n) (h0 : 0 < n) (hil : IsList B w L bs (fs.map (.iface 84))) (hl : fs.length = 2) (hm : ∀ (i : Nat) f t', fs[i]? = some f → [t, u][i]? = some t' → MatAt w f t') :
    ∃ b0 b1 rg rc p q sg sc p2 q2, bs = [b0, b1] ∧ IsList B w L [b0, b1] [.iface 84 (.agg #[.string ⟨#[]⟩, .float .f64 0, .string ⟨#[]⟩, .slice none 0 0, .slice (some ⟨rg, 0, none⟩) n rc, .bool false, .string ⟨#[]⟩, .int .u8 4, .pointer p, .pointer q]), .iface 84 (.agg #[.string ⟨#[]⟩, .float .f64 0, .string ⟨#[]⟩, .slice none 0 0, .slice (some ⟨sg, 0, none⟩) n sc, .bool false, .string ⟨#[]⟩, .int .u8 4, .pointer p2, .pointer q2])] ∧ Tab 0 w 79 84 10 (.slice (some ⟨rg, 0, none⟩) n rc) (t.map fun a => [a.facells]) ∧ Tab 0 w 79 84 10 (.slice (some ⟨sg, 0, none⟩) n sc) (u.map fun a => [a.facells]) := by
  match fs, hl, hil, hm with
  | [f, f2], _, hil, hm =>
    obtain ⟨v, p, q, rfl, hv, ⟨p', rfl⟩, ⟨q', rfl⟩, htab⟩ := hm 0 f t rfl rfl
    obtain ⟨v2, p2, q2, rfl, hv2, ⟨p2', rfl⟩, ⟨q2', rfl⟩, htab2⟩ := hm 1 f2 u rfl rfl
    obtain ⟨rg, rc, rfl⟩ : ∃ rg rc, v = .slice (some ⟨rg, 0, none⟩) n rc := by
      rcases htab.shape with ⟨_, h⟩ | ⟨g, c, h, _⟩
      · have := List.map_eq_nil_iff.1 h; rw [this] at ht; simp at ht; omega
      · exact ⟨g, c, by rw [h, List.length_map, ht]⟩
    obtain ⟨sg, sc, rfl⟩ : ∃ rg rc, v2 = .slice (some ⟨rg, 0, none⟩) n rc := by
      rcases htab2.shape with ⟨_, h⟩ | ⟨g, c, h, _⟩
      · have := List.map_eq_nil_iff.1 h; rw [this] at hu; simp at hu; omega
      · exact ⟨g, c, by rw [h, List.length_map, hu]⟩
    have hbl := hil.len
    match bs, hbl, hil with
    | [b0, b1], _, hil => exact ⟨b0, b1, rg, rc, p', q', sg, sc, p2', q2', rfl, hil, htab, htab2⟩
theorem len2 (B L b0 b1 : Nat) (x y : Value) (w : World) (h : IsList B w L [b0, b1] [x, y]) :
    Calls Tryz.prog 110 #[.pointer (some ⟨L, 0, none⟩)] w fun e w' => e = .returned (.int .i64 2) ∧ w = w' := len_any B L _ _ w h
theorem back2 (B L b0 b1 : Nat) (x y : Value) (w : World) (h : IsList B w L [b0, b1] [x, y]) :
    Calls Tryz.prog 134 #[.pointer (some ⟨L, 0, none⟩)] w fun e w' => e = .returned (.pointer (some ⟨b1, 0, none⟩)) ∧ w = w' := back_any B L b0 [b1] x [y] w h
/-- A sum over two rows side by side. -/
def tot (f : Int → Int → Int) (xs ys : List Int) : Int := ((xs.zip ys).map fun p => f p.1 p.2).sum
theorem tot_snoc (f : Int → Int → Int) {xs ys : List Int} {k : Nat} {x y : Int} (hx : xs[k]? = some x) (hy : ys[k]? = some y) : tot f (xs.take (k + 1)) (ys.take (k + 1)) = tot f (xs.take k) (ys.take k) + f x y := by
  have h1 := (List.getElem?_eq_some_iff.1 hx).1
  have h2 := (List.getElem?_eq_some_iff.1 hy).1
  unfold tot
  rw [take_snoc hx, take_snoc hy, List.zip_append (by rw [List.length_take, List.length_take]; omega)]
  simp
theorem sum_natAbs (C : Nat) : ∀ (l : List Int), (∀ z ∈ l, z.natAbs ≤ C) → l.sum.natAbs ≤ C * l.length
  | [], _ => by simp
  | z :: l, h => by
    have ih := sum_natAbs C l fun y hy => h y (List.mem_cons_of_mem _ hy)
    have hz := h z (by simp)
    rw [List.sum_cons, List.length_cons, Nat.mul_succ]
    omega
theorem tot_le (f : Int → Int → Int) (hf : ∀ x y : Int, x.natAbs ≤ 999 → y.natAbs ≤ 999 → (f x y).natAbs ≤ 4000000) {xs ys : List Int} (hx : SmallInts xs) (hy : SmallInts ys) (hn : xs.length ≤ 50) (k : Nat) : (tot f (xs.take k) (ys.take k)).natAbs ≤ 200000000 := by
  have h := sum_natAbs 4000000 (((xs.take k).zip (ys.take k)).map fun p => f p.1 p.2) (by
    intro z hz
    obtain ⟨p, hp, rfl⟩ := List.mem_map.1 hz
    have h1 := hx _ (List.mem_of_mem_take (List.of_mem_zip hp).1)
    have h2 := hy _ (List.mem_of_mem_take (List.of_mem_zip hp).2)
    exact hf _ _ (by omega) (by omega))
  rw [List.length_map, List.length_zip, List.length_take] at h
  unfold tot
  have : min (min k xs.length) (List.take k ys).length ≤ 50 := by omega
  omega
def fD (x y : Int) : Int := (x - y) * (x - y)
def fP (x y : Int) : Int := x * x + y * y
def fM (x y : Int) : Int := x * x - y * y
theorem sq_999 {x : Int} (h : x.natAbs ≤ 999) : (x * x).natAbs ≤ 998001 := by rw [Int.natAbs_mul]; exact Nat.mul_le_mul h h
theorem fD_le (x y : Int) (hx : x.natAbs ≤ 999) (hy : y.natAbs ≤ 999) : (fD x y).natAbs ≤ 4000000 := by
  have h : (x - y).natAbs ≤ 1998 := by omega
  unfold fD
  rw [Int.natAbs_mul]
  exact Nat.le_trans (Nat.mul_le_mul h h) (by decide)
theorem fP_le (x y : Int) (hx : x.natAbs ≤ 999) (hy : y.natAbs ≤ 999) : (fP x y).natAbs ≤ 4000000 := by
  have h1 := sq_999 hx; have h2 := sq_999 hy; unfold fP; omega
theorem fM_le (x y : Int) (hx : x.natAbs ≤ 999) (hy : y.natAbs ≤ 999) : (fM x y).natAbs ≤ 4000000 := by
  have h1 := sq_999 hx; have h2 := sq_999 hy; unfold fM; omega
theorem add_tot {a b c : Int} (ha : a.natAbs ≤ 1000000000) (hb : b.natAbs ≤ 1000000000) (hc : c = a + b) (w' : World) : (binOp .add 34 (.float .f64 (fx a 0)) (.float .f64 (fx b 0))).run Tryz.prog w' = .ok (.float .f64 (fx c 0)) w' := by
  subst hc
  exact run_float_arith w' .add 34 .f64 _ _ _ (add_reads (p := 0) (reads_fx _ _ (by omega) (by omega) (by omega)) (reads_fx _ _ (by omega) (by omega) (by omega)) (by omega) (by omega) (by omega))
theorem order_int0 {x : Int} (h : x.natAbs ≤ 999) (h0 : x ≠ 0) : FloatKind.f64.format.order (fx x 0) 0 = some .lt ∨ FloatKind.f64.format.order (fx x 0) 0 = some .gt := by
  have e : FloatKind.f64.format.order (fx x 0) 0 = some (compare x 0) := order_zero (by omega) (by omega) (by omega)
  rw [e]
  rcases Int.lt_trichotomy x 0 with h | h | h
  · exact .inl (congrArg some (Int.compare_eq_lt.2 h))
  · exact absurd h h0
  · exact .inr (congrArg some (Int.compare_eq_gt.2 h))
theorem toNum_lit (b : Nat) (hb : Good b) (w : World) : Calls Tryz.prog 125 #[.agg #[.string ⟨#[]⟩, .float .f64 b, .string ⟨#[]⟩, .slice none 0 0, .slice none 0 0, .bool false, .string ⟨#[]⟩, .int .u8 1, .pointer none, .pointer none]] w fun e w' => e = .returned (.agg #[.string ⟨#[]⟩, .float .f64 b, .string ⟨#[]⟩, .slice none 0 0, .slice none 0 0, .bool false, .string ⟨#[]⟩, .int .u8 1, .pointer none, .pointer none]) ∧ Below w.heap.size w w' := toNum_num b hb w
def frA (y0 y1 y2 y6 y7 y8 y16 y17 y18 y22 y23 y24 y25 y26 y27 y28 y29 y30 y31 y32 y33 x9 x10 x34 x35 x36 x37 : Value) : Act := { tmps := #[y0, y1, y2, undef, undef, undef, y6, y7, y8, x9, x10, undef, undef, undef, undef, undef, y16, y17, y18, undef, undef, undef, y22, y23, y24, y25, y26, y27, y28, y29, y30, y31, y32, y33, x34, x35, x36, x37, undef, undef, undef, undef, undef, undef, undef, undef, undef, undef, undef, undef, undef, undef, undef, undef, undef, undef, undef, undef, undef, undef, undef, undef, undef, undef, undef, undef, undef, undef, undef, undef, undef, undef, undef, undef, undef, undef, undef, undef, undef, undef, undef, undef, undef, undef, undef, undef, undef, undef, undef, undef, undef, undef, undef, undef, undef, undef, undef, undef, undef, undef, undef, undef, undef, undef, undef, undef, undef, undef, undef, undef, undef, undef, undef, undef], defers := [] }
structure RunA (m0 m1 : Value) (X Y : List (List Value)) (w0 : World) (x9 x10 x34 x35 x36 x37 : Value) (l : Array Bool) (w : World) : Prop where
  bel : Below w0.heap.size w0 w
  r0 : On1 l 0 → x34 = m0
  r1 : On1 l 1 → Arr 0 w 84 10 x35 X
  r2 : On1 l 2 → x36 = m1
  r3 : On1 l 3 → Arr 0 w 84 10 x37 Y
  r4 : On1 l 4 → On1 l 1 ∧ x9 = x35
  r5 : On1 l 5 → On1 l 3 ∧ x10 = x37
def frB (y0 y1 y2 y6 y7 y8 y9 y10 y11 y12 y13 y16 y17 y18 y22 y23 y24 y25 y26 y27 y28 y29 y30 y31 y32 y33 y34 y35 y36 y37 y38 y39 y40 y41 y42 y43 y45 y46 y47 y48 y49 y60 y61 y62 y63 y64 y65 y66 y67 y68 y69 y70 y71 y72 y73 y74 y75 y76 y77 y78 y79 y80 y81 y82 y83 y84 y85 y86 y87 y88 y89 y90 y91 y92 y93 y94 y95 y96 y97 y98 y99 y100 y101 y102 y103 y104 y105 y106 y107 y108 y109 y110 y111 x14 x15 x50 x51 x52 x53 x54 x55 x56 x57 x58 x59 : Value) : Act := { tmps := #[y0, y1, y2, undef, undef, undef, y6, y7, y8, y9, y10, y11, y12, y13, x14, x15, y16, y17, y18, undef, undef, undef, y22, y23, y24, y25, y26, y27, y28, y29, y30, y31, y32, y33, y34, y35, y36, y37, y38, y39, y40, y41, y42, y43, undef, y45, y46, y47, y48, y49, x50, x51, x52, x53, x54, x55, x56, x57, x58, x59, y60, y61, y62, y63, y64, y65, y66, y67, y68, y69, y70, y71, y72, y73, y74, y75, y76, y77, y78, y79, y80, y81, y82, y83, y84, y85, y86, y87, y88, y89, y90, y91, y92, y93, y94, y95, y96, y97, y98, y99, y100, y101, y102, y103, y104, y105, y106, y107, y108, y109, y110, y111, undef, undef], defers := [] }
structure RunB (A B PA PB : Value) (k : Nat) (bx by_ : Nat) (wr : World) (x14 x15 x50 x51 x52 x53 x54 x55 x56 x57 x58 x59 : Value) (l : Array Bool) (w : World) : Prop where
  bel : Below wr.heap.size wr w
  r0 : On1 l 0 → x50 = A
  r1 : On1 l 1 → x51 = .int .i64 k
  r2 : On1 l 2 → x52 = PA
  r3 : On1 l 3 → x53 = .agg #[.string ⟨#[]⟩, .float .f64 bx, .string ⟨#[]⟩, .slice none 0 0, .slice none 0 0, .bool false, .string ⟨#[]⟩, .int .u8 1, .pointer none, .pointer none]
  r4 : On1 l 4 → x54 = .agg #[.string ⟨#[]⟩, .float .f64 bx, .string ⟨#[]⟩, .slice none 0 0, .slice none 0 0, .bool false, .string ⟨#[]⟩, .int .u8 1, .pointer none, .pointer none]
  r5 : On1 l 5 → x55 = B
  r6 : On1 l 6 → x56 = .int .i64 k
  r7 : On1 l 7 → x57 = PB
  r8 : On1 l 8 → x58 = .agg #[.string ⟨#[]⟩, .float .f64 by_, .string ⟨#[]⟩, .slice none 0 0, .slice none 0 0, .bool false, .string ⟨#[]⟩, .int .u8 1, .pointer none, .pointer none]
  r9 : On1 l 9 → x59 = .agg #[.string ⟨#[]⟩, .float .f64 by_, .string ⟨#[]⟩, .slice none 0 0, .slice none 0 0, .bool false, .string ⟨#[]⟩, .int .u8 1, .pointer none, .pointer none]
  r10 : On1 l 10 → Bk 84 10 wr w (On1 l 12) x14 x54
  r11 : On1 l 11 → Bk 84 10 wr w (On1 l 13) x15 x59
  r12 : On1 l 12 → On1 l 4 ∧ On1 l 10
  r13 : On1 l 13 → On1 l 9 ∧ On1 l 11
  d10_11 : On1 l 10 → On1 l 11 → x14 ≠ x15
set_option maxRecDepth 20000 in
set_option maxHeartbeats 8000000 in
theorem sumx_D (xs ys : List Int) (n : Nat) (hx : xs.length = n) (hy : ys.length = n) (h0 : 0 < n) (hn : n ≤ 50) (okx : SmallInts xs) (oky : SmallInts ys) (F : Value) (B L b0 b1 rg rc sg sc : Nat) (p q p2 q2 : Option Addr) (w : World)
    (hil : IsList B w L [b0, b1] [.iface 84 (.agg #[.string ⟨#[]⟩, .float .f64 0, .string ⟨#[]⟩, .slice none 0 0, .slice (some ⟨rg, 0, none⟩) n rc, .bool false, .string ⟨#[]⟩, .int .u8 4, .pointer p, .pointer q]), .iface 84 (.agg #[.string ⟨#[]⟩, .float .f64 0, .string ⟨#[]⟩, .slice none 0 0, .slice (some ⟨sg, 0, none⟩) n sc, .bool false, .string ⟨#[]⟩, .int .u8 4, .pointer p2, .pointer q2])]) (ht : Tab 0 w 79 84 10 (.slice (some ⟨rg, 0, none⟩) n rc) ((xs.map iA).map fun a => [a.facells])) (hu : Tab 0 w 79 84 10 (.slice (some ⟨sg, 0, none⟩) n sc) ((ys.map iA).map fun a => [a.facells])) :
    Calls Tryz.prog 106 #[F, .string ⟨#[83, 85, 77, 88, 77, 89, 50]⟩, .pointer (some ⟨L, 0, none⟩)] w (Gives (fun r => r = .num (fx (tot fD xs ys) 0)) w) := by
  obtain ⟨c0, l0⟩ := hil.at3 0 rfl rfl
  obtain ⟨c1, l1⟩ := hil.at3 1 rfl rfl
  have m0 := lt_k l0
  have m1 := lt_k l1
  have HIL := Lib.hid hil
  have HT := Lib.hid ht
  have HU := Lib.hid hu
  have HX := Lib.hid hx
  have HY := Lib.hid hy
  have HOX := Lib.hid okx
  have HOY := Lib.hid oky
  have HXL := Lib.hid (show (xs.map iA).length ≤ 100 by rw [List.length_map]; omega)
  have HYL := Lib.hid (show (ys.map iA).length ≤ 100 by rw [List.length_map]; omega)
  have HXN := Lib.hid (show xs.map iA ≠ [] by intro h; rw [List.map_eq_nil_iff] at h; rw [h] at hx; simp at hx; omega)
  have HYN := Lib.hid (show ys.map iA ≠ [] by intro h; rw [List.map_eq_nil_iff] at h; rw [h] at hy; simp at hy; omega)
  clear hil ht hu hx hy okx oky
  go_enter Tryz.func106, Tryz.ntmps106
  go_wp2_with (first | (go_at_call 110; refine (len2 _ _ _ _ _ _ _ (HIL.out.keep (by go_grown))).mono ?_; rintro e w2 ⟨rfl, rfl⟩) | (go_at_call 112; refine (front_any _ _ _ _ _ _ _ (HIL.out.keep (by go_grown))).mono ?_; rintro e w2 ⟨rfl, rfl⟩) | (go_at_call 134; refine (back2 _ _ _ _ _ _ _ (HIL.out.keep (by go_grown))).mono ?_; rintro e w2 ⟨rfl, rfl⟩))
  clear c0 c1 m0 m1
  refine abs_wp (fun w' => Blk w' w.heap.size 84 [.string ⟨#[]⟩, .float .f64 0, .string ⟨#[]⟩, .slice none 0 0, .slice none 0 0, .bool false, .string ⟨#[]⟩, .int .u8 0, .pointer none, .pointer none] ∧ Blk w' (w.heap.size + 1) 84 [.string ⟨#[]⟩, .float .f64 0, .string ⟨#[]⟩, .slice none 0 0, .slice (some ⟨rg, 0, none⟩) n rc, .bool false, .string ⟨#[]⟩, .int .u8 4, .pointer p, .pointer q] ∧ Blk w' (w.heap.size + 1 + 1) 84 [.string ⟨#[]⟩, .float .f64 0, .string ⟨#[]⟩, .slice none 0 0, .slice (some ⟨sg, 0, none⟩) n sc, .bool false, .string ⟨#[]⟩, .int .u8 4, .pointer p2, .pointer q2] ∧ Below w.heap.size w w') ⟨((Blk.new w 84 _).alloc _).alloc _, (blk_at (by simp) (Blk.new (w.alloc _) 84 _)).alloc _, blk_at (by simp) (Blk.new ((w.alloc _).alloc _) 84 _), by go_grown⟩ ?_
  rintro w0 ⟨hk0, hk1, hk2, hb0⟩
  have HK0 := Lib.hid hk0
  have HK1 := Lib.hid hk1
  have HK2 := Lib.hid hk2
  have HB0 := Lib.hid hb0
  have l0k := hk0.lt
  have l1k := hk1.lt
  have l2k := hk2.lt
  clear hk0 hk1 hk2 hb0 l0 l1
  refine Code.wp_mono (Q := fun e a w' => e = .normal ∧ ∃ v0 v1, a = frA (F) (Value.string ⟨#[83, 85, 77, 88, 77, 89, 50]⟩) (Value.pointer (some { block := L, off := 0 })) (Value.pointer (some { block := w.heap.size, off := 0 })) (Value.pointer (some { block := w.heap.size + 1, off := 0 })) (Value.pointer (some { block := w.heap.size + 1 + 1, off := 0 })) (Value.pointer (some { block := L, off := 0 })) (Value.int IntKind.i64 2) (Value.bool false) (Value.pointer (some { block := L, off := 0 })) (Value.pointer (some { block := b0, off := 0 })) (Value.pointer (some { block := b0, off := 0 })) (Value.pointer (some { block := b0, off := 3 })) (Value.iface 84 (Value.agg #[Value.string { data := #[] }, Value.float FloatKind.f64 0, Value.string { data := #[] }, Value.slice none 0 0, Value.slice (some { block := rg, off := 0 }) n rc, Value.bool false, Value.string { data := #[] }, Value.int IntKind.u8 4, Value.pointer p, Value.pointer q])) (Value.agg #[Value.string { data := #[] }, Value.float FloatKind.f64 0, Value.string { data := #[] }, Value.slice none 0 0, Value.slice (some { block := rg, off := 0 }) n rc, Value.bool false, Value.string { data := #[] }, Value.int IntKind.u8 4, Value.pointer p, Value.pointer q]) (Value.pointer (some { block := L, off := 0 })) (Value.pointer (some { block := b1, off := 0 })) (Value.pointer (some { block := b1, off := 0 })) (Value.pointer (some { block := b1, off := 3 })) (Value.iface 84 (Value.agg #[Value.string { data := #[] }, Value.float FloatKind.f64 0, Value.string { data := #[] }, Value.slice none 0 0, Value.slice (some { block := sg, off := 0 }) n sc, Value.bool false, Value.string { data := #[] }, Value.int IntKind.u8 4, Value.pointer p2, Value.pointer q2])) (Value.agg #[Value.string { data := #[] }, Value.float FloatKind.f64 0, Value.string { data := #[] }, Value.slice none 0 0, Value.slice (some { block := sg, off := 0 }) n sc, Value.bool false, Value.string { data := #[] }, Value.int IntKind.u8 4, Value.pointer p2, Value.pointer q2]) v0 v1 (.agg #[.string ⟨#[]⟩, .float .f64 0, .string ⟨#[]⟩, .slice none 0 0, .slice (some ⟨rg, 0, none⟩) n rc, .bool false, .string ⟨#[]⟩, .int .u8 4, .pointer p, .pointer q]) v0 (.agg #[.string ⟨#[]⟩, .float .f64 0, .string ⟨#[]⟩, .slice none 0 0, .slice (some ⟨sg, 0, none⟩) n sc, .bool false, .string ⟨#[]⟩, .int .u8 4, .pointer p2, .pointer q2]) v1 ∧ Arr 0 w' 84 10 v0 ((xs.map iA).map Atom.facells) ∧ Arr 0 w' 84 10 v1 ((ys.map iA).map Atom.facells) ∧ Below w0.heap.size w0 w') ?_ ?_
  · rintro _ a w2 ⟨rfl, v0, v1, rfl, ha, hb, hbl⟩
    unfold frA
    have HA := Lib.hid ha
    have HBB := Lib.hid hb
    have HB2 := Lib.hid hbl
    obtain ⟨ga, ca, rfl⟩ : ∃ ga ca, v0 = .slice (some ⟨ga, 0, none⟩) n ca := (by
      rcases ha.shape with ⟨_, h⟩ | ⟨g, c, h, _⟩
      · exact absurd (List.map_eq_nil_iff.1 h) HXN.out
      · exact ⟨g, c, by rw [h, List.length_map, List.length_map, HX.out]⟩)
    obtain ⟨gb, cb, rfl⟩ : ∃ ga ca, v1 = .slice (some ⟨ga, 0, none⟩) n ca := (by
      rcases hb.shape with ⟨_, h⟩ | ⟨g, c, h, _⟩
      · exact absurd (List.map_eq_nil_iff.1 h) HYN.out
      · exact ⟨g, c, by rw [h, List.length_map, List.length_map, HY.out]⟩)
    clear ha hb hbl
    go_wp2_with fail
    go_loopw [12, 13] (fun a i wr => ∃ k : Nat, k ≤ n ∧ i = .int .i64 k ∧ a = .float .f64 (fx (tot fD (xs.take k) (ys.take k)) 0) ∧ Below w2.heap.size w2 wr) (fun _ i _ => n - (intOf i).toNat)
    case atStart => exact ⟨0, Nat.zero_le _, rfl, congrArg _ (fx_zero 0).symm, Below.refl _ _⟩
    case round =>
      obtain ⟨k, hk, rfl, rfl, hbk⟩ := hrel
      have HBK := Lib.hid hbk
      clear hbk
      by_cases hlt : k < n
      · obtain ⟨x, hx⟩ := one_at HX.out hlt
        obtain ⟨y, hy⟩ := one_at HY.out hlt
        obtain ⟨bx, hbx⟩ : ∃ b, b = fx x 0 := ⟨_, rfl⟩
        obtain ⟨by_, hby⟩ : ∃ b, b = fx y 0 := ⟨_, rfl⟩
        have hxr := HOX.out x (List.mem_of_getElem? hx)
        have hyr := HOY.out y (List.mem_of_getElem? hy)
        have HGX : Hid (Good bx) := (by show Good bx; rw [hbx]; exact good_fx (by omega))
        have HGY : Hid (Good by_) := (by show Good by_; rw [hby]; exact good_fx (by omega))
        have hax : ((xs.map iA).map Atom.facells)[k]? = some [.string ⟨#[]⟩, .float .f64 bx, .string ⟨#[]⟩, .slice none 0 0, .slice none 0 0, .bool false, .string ⟨#[]⟩, .int .u8 1, .pointer none, .pointer none] := (by rw [List.getElem?_map, List.getElem?_map, hx, hbx]; rfl)
        have hay : ((ys.map iA).map Atom.facells)[k]? = some [.string ⟨#[]⟩, .float .f64 by_, .string ⟨#[]⟩, .slice none 0 0, .slice none 0 0, .bool false, .string ⟨#[]⟩, .int .u8 1, .pointer none, .pointer none] := (by rw [List.getElem?_map, List.getElem?_map, hy, hby]; rfl)
        have HAX := Lib.hid hax
        have HAY := Lib.hid hay
        have HA2 := Lib.hid (HA.out.keep HBK.out)
        have HBB2 := Lib.hid (HBB.out.keep HBK.out)
        have HXK := Lib.hid hx
        have HYK := Lib.hid hy
        have htot := tot_snoc fD hx hy
        have hle := tot_le fD fD_le HOX.out HOY.out (by rw [HX.out]; exact hn) k
        have hfl := fD_le x y (by omega) (by omega)
        obtain ⟨bs1, hbs1⟩ : ∃ b, b = fx (tot fD (xs.take k) (ys.take k)) 0 := ⟨_, rfl⟩
        obtain ⟨bs2, hbs2⟩ : ∃ b, b = fx (tot fD (xs.take (k + 1)) (ys.take (k + 1))) 0 := ⟨_, rfl⟩
        obtain ⟨bz, hbz⟩ : ∃ b, b = fx (fD x y) 0 := ⟨_, rfl⟩
        have hadd := add_tot (a := tot fD (xs.take k) (ys.take k)) (b := fD x y) (c := tot fD (xs.take (k + 1)) (ys.take (k + 1))) (by omega) (by omega) htot
        have hox := order_int0 (x := x) (by omega) hxr.2.2
        have hoy := order_int0 (x := y) (by omega) hyr.2.2
        rw [← hbs1, ← hbs2, ← hbz] at hadd
        rw [← hbx] at hox
        rw [← hby] at hoy
        rw [← hbs1]
        have HB2F := Lib.hid hbs2
        have hsub := sub_ints (a := x) (b := y) (c := x - y) (by omega) (by omega) hyr.2.2 rfl
        have hmul := mul_ints (a := x - y) (b := x - y) (c := fD x y) (by omega) (by omega) (by by_cases h : x - y = 0; exact .inr ⟨by omega, by omega⟩; exact .inl ⟨h, h⟩) rfl
        obtain ⟨bd, hbd⟩ : ∃ b, b = fx (x - y) 0 := ⟨_, rfl⟩
        rw [← hbx, ← hby, ← hbd] at hsub
        rw [← hbd, ← hbz] at hmul
        clear hbd
        clear htot hle hfl hbs1 hbs2 hbz
        clear hax hay hx hy hxr hyr hbx hby
        go_wp2_with fail
        refine Code.wp_mono (Q := fun e a w' => e = .normal ∧ ∃ g14 g15, a = frB (F) (Value.string ⟨#[83, 85, 77, 88, 77, 89, 50]⟩) (Value.pointer (some { block := L, off := 0 })) (Value.pointer (some { block := w.heap.size, off := 0 })) (Value.pointer (some { block := w.heap.size + 1, off := 0 })) (Value.pointer (some { block := w.heap.size + 1 + 1, off := 0 })) (Value.slice (some { block := ga, off := 0 }) n ca) (Value.slice (some { block := gb, off := 0 }) n cb) (Value.int IntKind.i64 ↑n) (.float .f64 bs1) (Value.int IntKind.i64 ↑k) (Value.pointer (some { block := L, off := 0 })) (Value.int IntKind.i64 2) (Value.bool false) (Value.pointer (some { block := L, off := 0 })) (Value.pointer (some { block := b0, off := 0 })) (Value.pointer (some { block := b0, off := 0 })) (Value.pointer (some { block := b0, off := 3 })) (Value.iface 84 (Value.agg #[Value.string { data := #[] }, Value.float FloatKind.f64 0, Value.string { data := #[] }, Value.slice none 0 0, Value.slice (some { block := rg, off := 0 }) n rc, Value.bool false, Value.string { data := #[] }, Value.int IntKind.u8 4, Value.pointer p, Value.pointer q])) (Value.agg #[Value.string { data := #[] }, Value.float FloatKind.f64 0, Value.string { data := #[] }, Value.slice none 0 0, Value.slice (some { block := rg, off := 0 }) n rc, Value.bool false, Value.string { data := #[] }, Value.int IntKind.u8 4, Value.pointer p, Value.pointer q]) (Value.pointer (some { block := L, off := 0 })) (Value.pointer (some { block := b1, off := 0 })) (Value.pointer (some { block := b1, off := 0 })) (Value.pointer (some { block := b1, off := 3 })) (Value.iface 84 (Value.agg #[Value.string { data := #[] }, Value.float FloatKind.f64 0, Value.string { data := #[] }, Value.slice none 0 0, Value.slice (some { block := sg, off := 0 }) n sc, Value.bool false, Value.string { data := #[] }, Value.int IntKind.u8 4, Value.pointer p2, Value.pointer q2])) (Value.agg #[Value.string { data := #[] }, Value.float FloatKind.f64 0, Value.string { data := #[] }, Value.slice none 0 0, Value.slice (some { block := sg, off := 0 }) n sc, Value.bool false, Value.string { data := #[] }, Value.int IntKind.u8 4, Value.pointer p2, Value.pointer q2]) (Value.agg #[Value.string { data := #[] }, Value.float FloatKind.f64 0, Value.string { data := #[] }, Value.slice none 0 0, Value.slice (some { block := rg, off := 0 }) n rc, Value.bool false, Value.string { data := #[] }, Value.int IntKind.u8 4, Value.pointer p, Value.pointer q]) (Value.slice (some { block := ga, off := 0 }) n ca) (Value.agg #[Value.string { data := #[] }, Value.float FloatKind.f64 0, Value.string { data := #[] }, Value.slice none 0 0, Value.slice (some { block := sg, off := 0 }) n sc, Value.bool false, Value.string { data := #[] }, Value.int IntKind.u8 4, Value.pointer p2, Value.pointer q2]) (Value.slice (some { block := gb, off := 0 }) n cb) (Value.slice (some { block := ga, off := 0 }) n ca) (Value.int IntKind.i64 ↑n) (Value.int IntKind.i64 ↑n) (Value.slice (some { block := gb, off := 0 }) n cb) (Value.int IntKind.i64 ↑n) (Value.bool false) (Value.int IntKind.i64 ↑k) (Value.int IntKind.i64 ↑n) (Value.bool true) (u48) (u49) (u60) (u61) (u62) (u63) (u64) (u65) (u66) (u67) (u68) (u69) (u70) (u71) (u72) (u73) (u74) (u75) (u76) (u77) (u78) (u79) (u80) (u81) (u82) (u83) (u84) (u85) (u86) (u87) (u88) (u89) (u90) (u91) (u92) (u93) (u94) (u95) (u96) (u97) (u98) (u99) (u100) (u101) (u102) (u103) (u104) (u105) (u106) (u107) (u108) (u109) (u110) (u111) (.pointer (some ⟨g14, 0, none⟩)) (.pointer (some ⟨g15, 0, none⟩)) (.slice (some ⟨ga, 0, none⟩) n ca) (.int .i64 k) (.pointer (some ⟨ga, k * 10, none⟩)) (.agg #[.string ⟨#[]⟩, .float .f64 bx, .string ⟨#[]⟩, .slice none 0 0, .slice none 0 0, .bool false, .string ⟨#[]⟩, .int .u8 1, .pointer none, .pointer none]) (.agg #[.string ⟨#[]⟩, .float .f64 bx, .string ⟨#[]⟩, .slice none 0 0, .slice none 0 0, .bool false, .string ⟨#[]⟩, .int .u8 1, .pointer none, .pointer none]) (.slice (some ⟨gb, 0, none⟩) n cb) (.int .i64 k) (.pointer (some ⟨gb, k * 10, none⟩)) (.agg #[.string ⟨#[]⟩, .float .f64 by_, .string ⟨#[]⟩, .slice none 0 0, .slice none 0 0, .bool false, .string ⟨#[]⟩, .int .u8 1, .pointer none, .pointer none]) (.agg #[.string ⟨#[]⟩, .float .f64 by_, .string ⟨#[]⟩, .slice none 0 0, .slice none 0 0, .bool false, .string ⟨#[]⟩, .int .u8 1, .pointer none, .pointer none]) ∧ Blk w' g14 84 [.string ⟨#[]⟩, .float .f64 bx, .string ⟨#[]⟩, .slice none 0 0, .slice none 0 0, .bool false, .string ⟨#[]⟩, .int .u8 1, .pointer none, .pointer none] ∧ Blk w' g15 84 [.string ⟨#[]⟩, .float .f64 by_, .string ⟨#[]⟩, .slice none 0 0, .slice none 0 0, .bool false, .string ⟨#[]⟩, .int .u8 1, .pointer none, .pointer none] ∧ Below wr.heap.size wr w') ?_ ?_
        · rintro _ a w3 ⟨rfl, g14, g15, rfl, z14, z15, hbl⟩
          unfold frB
          have l14 := z14.lt
          have l15 := z15.lt
          have e14 := z14.get 1 rfl
          have e15 := z15.get 1 rfl
          have HB3 := Lib.hid hbl
          clear z14 z15 hbl
          rcases hox with hox | hox <;> rcases hoy with hoy | hoy
          all_goals
            go_wp2_with fail
            exact ⟨⟨k + 1, by omega, by go_num, by rw [HB2F.out], HBK.out.trans (HB3.out.mono HBK.out.size)⟩, by simp [intOf]; omega⟩
        · clear HX HY HIL HOX HOY HB0
          refine wp_region_any (by kernel_rfl) ?_
          refine wpAny_inv (n := 14) (fun l a w' => ∃ x14 x15 x50 x51 x52 x53 x54 x55 x56 x57 x58 x59, a = frB (F) (Value.string ⟨#[83, 85, 77, 88, 77, 89, 50]⟩) (Value.pointer (some { block := L, off := 0 })) (Value.pointer (some { block := w.heap.size, off := 0 })) (Value.pointer (some { block := w.heap.size + 1, off := 0 })) (Value.pointer (some { block := w.heap.size + 1 + 1, off := 0 })) (Value.slice (some { block := ga, off := 0 }) n ca) (Value.slice (some { block := gb, off := 0 }) n cb) (Value.int IntKind.i64 ↑n) (.float .f64 bs1) (Value.int IntKind.i64 ↑k) (Value.pointer (some { block := L, off := 0 })) (Value.int IntKind.i64 2) (Value.bool false) (Value.pointer (some { block := L, off := 0 })) (Value.pointer (some { block := b0, off := 0 })) (Value.pointer (some { block := b0, off := 0 })) (Value.pointer (some { block := b0, off := 3 })) (Value.iface 84 (Value.agg #[Value.string { data := #[] }, Value.float FloatKind.f64 0, Value.string { data := #[] }, Value.slice none 0 0, Value.slice (some { block := rg, off := 0 }) n rc, Value.bool false, Value.string { data := #[] }, Value.int IntKind.u8 4, Value.pointer p, Value.pointer q])) (Value.agg #[Value.string { data := #[] }, Value.float FloatKind.f64 0, Value.string { data := #[] }, Value.slice none 0 0, Value.slice (some { block := rg, off := 0 }) n rc, Value.bool false, Value.string { data := #[] }, Value.int IntKind.u8 4, Value.pointer p, Value.pointer q]) (Value.pointer (some { block := L, off := 0 })) (Value.pointer (some { block := b1, off := 0 })) (Value.pointer (some { block := b1, off := 0 })) (Value.pointer (some { block := b1, off := 3 })) (Value.iface 84 (Value.agg #[Value.string { data := #[] }, Value.float FloatKind.f64 0, Value.string { data := #[] }, Value.slice none 0 0, Value.slice (some { block := sg, off := 0 }) n sc, Value.bool false, Value.string { data := #[] }, Value.int IntKind.u8 4, Value.pointer p2, Value.pointer q2])) (Value.agg #[Value.string { data := #[] }, Value.float FloatKind.f64 0, Value.string { data := #[] }, Value.slice none 0 0, Value.slice (some { block := sg, off := 0 }) n sc, Value.bool false, Value.string { data := #[] }, Value.int IntKind.u8 4, Value.pointer p2, Value.pointer q2]) (Value.agg #[Value.string { data := #[] }, Value.float FloatKind.f64 0, Value.string { data := #[] }, Value.slice none 0 0, Value.slice (some { block := rg, off := 0 }) n rc, Value.bool false, Value.string { data := #[] }, Value.int IntKind.u8 4, Value.pointer p, Value.pointer q]) (Value.slice (some { block := ga, off := 0 }) n ca) (Value.agg #[Value.string { data := #[] }, Value.float FloatKind.f64 0, Value.string { data := #[] }, Value.slice none 0 0, Value.slice (some { block := sg, off := 0 }) n sc, Value.bool false, Value.string { data := #[] }, Value.int IntKind.u8 4, Value.pointer p2, Value.pointer q2]) (Value.slice (some { block := gb, off := 0 }) n cb) (Value.slice (some { block := ga, off := 0 }) n ca) (Value.int IntKind.i64 ↑n) (Value.int IntKind.i64 ↑n) (Value.slice (some { block := gb, off := 0 }) n cb) (Value.int IntKind.i64 ↑n) (Value.bool false) (Value.int IntKind.i64 ↑k) (Value.int IntKind.i64 ↑n) (Value.bool true) (u48) (u49) (u60) (u61) (u62) (u63) (u64) (u65) (u66) (u67) (u68) (u69) (u70) (u71) (u72) (u73) (u74) (u75) (u76) (u77) (u78) (u79) (u80) (u81) (u82) (u83) (u84) (u85) (u86) (u87) (u88) (u89) (u90) (u91) (u92) (u93) (u94) (u95) (u96) (u97) (u98) (u99) (u100) (u101) (u102) (u103) (u104) (u105) (u106) (u107) (u108) (u109) (u110) (u111) x14 x15 x50 x51 x52 x53 x54 x55 x56 x57 x58 x59 ∧ RunB (.slice (some ⟨ga, 0, none⟩) n ca) (.slice (some ⟨gb, 0, none⟩) n cb) (.pointer (some ⟨ga, k * 10, none⟩)) (.pointer (some ⟨gb, k * 10, none⟩)) k bx by_ wr x14 x15 x50 x51 x52 x53 x54 x55 x56 x57 x58 x59 l w') ?_ ?_ _ _ _ _ (by rfl) ?_ (by decide)
          · rintro l a w i hl ⟨x14, x15, x50, x51, x52, x53, x54, x55, x56, x57, x58, x59, rfl, J⟩ hi
            have hrs := ready_spec hi
            have hi14 : i < 14 := hrs.1
            have hoff := off1 hrs.2.1
            have hix : i = 0 ∨ i = 1 ∨ i = 2 ∨ i = 3 ∨ i = 4 ∨ i = 5 ∨ i = 6 ∨ i = 7 ∨ i = 8 ∨ i = 9 ∨ i = 10 ∨ i = 11 ∨ i = 12 ∨ i = 13 := by omega
            clear hi hi14
            rcases hix with rfl | rfl | rfl | rfl | rfl | rfl | rfl | rfl | rfl | rfl | rfl | rfl | rfl | rfl
            · refine wpOp_step rfl (fun K hK => ?_)
              unfold frB
              go_simp
              refine hK _ _ ?_
              exact ⟨_, _, _, _, _, _, _, _, _, _, _, _, rfl, ⟨J.bel, fun _ => rfl, fun h => J.r1 (gl h (by decide)), fun h => J.r2 (gl h (by decide)), fun h => J.r3 (gl h (by decide)), fun h => J.r4 (gl h (by decide)), fun h => J.r5 (gl h (by decide)), fun h => J.r6 (gl h (by decide)), fun h => J.r7 (gl h (by decide)), fun h => J.r8 (gl h (by decide)), fun h => J.r9 (gl h (by decide)), fun h => (J.r10 (gl h (by decide))).keep (Below.refl _ _) (fun h => gl h (by decide)), fun h => (J.r11 (gl h (by decide))).keep (Below.refl _ _) (fun h => gl h (by decide)), fun h => ⟨up (J.r12 (gl h (by decide))).1, up (J.r12 (gl h (by decide))).2⟩, fun h => ⟨up (J.r13 (gl h (by decide))).1, up (J.r13 (gl h (by decide))).2⟩, fun h1 h2 => J.d10_11 (gl h1 (by decide)) (gl h2 (by decide))⟩⟩
            · refine wpOp_step rfl (fun K hK => ?_)
              unfold frB
              go_simp
              refine hK _ _ ?_
              exact ⟨_, _, _, _, _, _, _, _, _, _, _, _, rfl, ⟨J.bel, fun h => J.r0 (gl h (by decide)), fun _ => rfl, fun h => J.r2 (gl h (by decide)), fun h => J.r3 (gl h (by decide)), fun h => J.r4 (gl h (by decide)), fun h => J.r5 (gl h (by decide)), fun h => J.r6 (gl h (by decide)), fun h => J.r7 (gl h (by decide)), fun h => J.r8 (gl h (by decide)), fun h => J.r9 (gl h (by decide)), fun h => (J.r10 (gl h (by decide))).keep (Below.refl _ _) (fun h => gl h (by decide)), fun h => (J.r11 (gl h (by decide))).keep (Below.refl _ _) (fun h => gl h (by decide)), fun h => ⟨up (J.r12 (gl h (by decide))).1, up (J.r12 (gl h (by decide))).2⟩, fun h => ⟨up (J.r13 (gl h (by decide))).1, up (J.r13 (gl h (by decide))).2⟩, fun h1 h2 => J.d10_11 (gl h1 (by decide)) (gl h2 (by decide))⟩⟩
            · have e0 := J.r0 (dep_of (hrs.2.2 _ rfl) 0 rfl rfl)
              subst e0
              have e1 := J.r1 (dep_of (hrs.2.2 _ rfl) 1 rfl rfl)
              subst e1
              refine wpOp_step rfl (fun K hK => ?_)
              unfold frB
              go_simp
              refine hK _ _ ?_
              exact ⟨_, _, _, _, _, _, _, _, _, _, _, _, rfl, ⟨J.bel, fun h => J.r0 (gl h (by decide)), fun h => J.r1 (gl h (by decide)), fun _ => rfl, fun h => J.r3 (gl h (by decide)), fun h => J.r4 (gl h (by decide)), fun h => J.r5 (gl h (by decide)), fun h => J.r6 (gl h (by decide)), fun h => J.r7 (gl h (by decide)), fun h => J.r8 (gl h (by decide)), fun h => J.r9 (gl h (by decide)), fun h => (J.r10 (gl h (by decide))).keep (Below.refl _ _) (fun h => gl h (by decide)), fun h => (J.r11 (gl h (by decide))).keep (Below.refl _ _) (fun h => gl h (by decide)), fun h => ⟨up (J.r12 (gl h (by decide))).1, up (J.r12 (gl h (by decide))).2⟩, fun h => ⟨up (J.r13 (gl h (by decide))).1, up (J.r13 (gl h (by decide))).2⟩, fun h1 h2 => J.d10_11 (gl h1 (by decide)) (gl h2 (by decide))⟩⟩
            · have e2 := J.r2 (dep_of (hrs.2.2 _ rfl) 0 rfl rfl)
              subst e2
              have hk := HA2.out.keep J.bel
              have c0 := hk.cell0 HAX.out (u := .string ⟨#[]⟩) rfl
              have c1 := hk.cell HAX.out (j := 1) (u := .float .f64 bx) rfl
              have c2 := hk.cell HAX.out (j := 2) (u := .string ⟨#[]⟩) rfl
              have c3 := hk.cell HAX.out (j := 3) (u := .slice none 0 0) rfl
              have c4 := hk.cell HAX.out (j := 4) (u := .slice none 0 0) rfl
              have c5 := hk.cell HAX.out (j := 5) (u := .bool false) rfl
              have c6 := hk.cell HAX.out (j := 6) (u := .string ⟨#[]⟩) rfl
              have c7 := hk.cell HAX.out (j := 7) (u := .int .u8 1) rfl
              have c8 := hk.cell HAX.out (j := 8) (u := .pointer none) rfl
              have c9 := hk.cell HAX.out (j := 9) (u := .pointer none) rfl
              clear hk
              refine wpOp_step rfl (fun K hK => ?_)
              unfold frB
              go_simp
              refine hK _ _ ?_
              exact ⟨_, _, _, _, _, _, _, _, _, _, _, _, rfl, ⟨J.bel, fun h => J.r0 (gl h (by decide)), fun h => J.r1 (gl h (by decide)), fun h => J.r2 (gl h (by decide)), fun _ => rfl, fun h => J.r4 (gl h (by decide)), fun h => J.r5 (gl h (by decide)), fun h => J.r6 (gl h (by decide)), fun h => J.r7 (gl h (by decide)), fun h => J.r8 (gl h (by decide)), fun h => J.r9 (gl h (by decide)), fun h => (J.r10 (gl h (by decide))).keep (Below.refl _ _) (fun h => gl h (by decide)), fun h => (J.r11 (gl h (by decide))).keep (Below.refl _ _) (fun h => gl h (by decide)), fun h => ⟨up (J.r12 (gl h (by decide))).1, up (J.r12 (gl h (by decide))).2⟩, fun h => ⟨up (J.r13 (gl h (by decide))).1, up (J.r13 (gl h (by decide))).2⟩, fun h1 h2 => J.d10_11 (gl h1 (by decide)) (gl h2 (by decide))⟩⟩
            · have e3 := J.r3 (dep_of (hrs.2.2 _ rfl) 0 rfl rfl)
              subst e3
              refine wpOp_step rfl (fun K hK => ?_)
              unfold frB
              go_simp
              refine (toNum_lit bx HGX.out w).mono ?_
              rintro e w' ⟨rfl, hb⟩
              dsimp only
              refine hK _ _ ?_
              exact ⟨_, _, _, _, _, _, _, _, _, _, _, _, rfl, ⟨J.bel.trans (hb.mono J.bel.size), fun h => J.r0 (gl h (by decide)), fun h => J.r1 (gl h (by decide)), fun h => J.r2 (gl h (by decide)), fun h => J.r3 (gl h (by decide)), fun _ => rfl, fun h => J.r5 (gl h (by decide)), fun h => J.r6 (gl h (by decide)), fun h => J.r7 (gl h (by decide)), fun h => J.r8 (gl h (by decide)), fun h => J.r9 (gl h (by decide)), fun h => by obtain ⟨g, old, h1, h2, h3, h4, h5, h6⟩ := (J.r10 (gl h (by decide))).keep (st' := False) hb False.elim; exact ⟨g, old, h1, h2, h3, h4, h5, fun hs => absurd (J.r12 (gl hs (by decide))).1 hoff⟩, fun h => (J.r11 (gl h (by decide))).keep hb (fun h => gl h (by decide)), fun h => ⟨up (J.r12 (gl h (by decide))).1, up (J.r12 (gl h (by decide))).2⟩, fun h => ⟨up (J.r13 (gl h (by decide))).1, up (J.r13 (gl h (by decide))).2⟩, fun h1 h2 => J.d10_11 (gl h1 (by decide)) (gl h2 (by decide))⟩⟩
            · refine wpOp_step rfl (fun K hK => ?_)
              unfold frB
              go_simp
              refine hK _ _ ?_
              exact ⟨_, _, _, _, _, _, _, _, _, _, _, _, rfl, ⟨J.bel, fun h => J.r0 (gl h (by decide)), fun h => J.r1 (gl h (by decide)), fun h => J.r2 (gl h (by decide)), fun h => J.r3 (gl h (by decide)), fun h => J.r4 (gl h (by decide)), fun _ => rfl, fun h => J.r6 (gl h (by decide)), fun h => J.r7 (gl h (by decide)), fun h => J.r8 (gl h (by decide)), fun h => J.r9 (gl h (by decide)), fun h => (J.r10 (gl h (by decide))).keep (Below.refl _ _) (fun h => gl h (by decide)), fun h => (J.r11 (gl h (by decide))).keep (Below.refl _ _) (fun h => gl h (by decide)), fun h => ⟨up (J.r12 (gl h (by decide))).1, up (J.r12 (gl h (by decide))).2⟩, fun h => ⟨up (J.r13 (gl h (by decide))).1, up (J.r13 (gl h (by decide))).2⟩, fun h1 h2 => J.d10_11 (gl h1 (by decide)) (gl h2 (by decide))⟩⟩
            · refine wpOp_step rfl (fun K hK => ?_)
              unfold frB
              go_simp
              refine hK _ _ ?_
              exact ⟨_, _, _, _, _, _, _, _, _, _, _, _, rfl, ⟨J.bel, fun h => J.r0 (gl h (by decide)), fun h => J.r1 (gl h (by decide)), fun h => J.r2 (gl h (by decide)), fun h => J.r3 (gl h (by decide)), fun h => J.r4 (gl h (by decide)), fun h => J.r5 (gl h (by decide)), fun _ => rfl, fun h => J.r7 (gl h (by decide)), fun h => J.r8 (gl h (by decide)), fun h => J.r9 (gl h (by decide)), fun h => (J.r10 (gl h (by decide))).keep (Below.refl _ _) (fun h => gl h (by decide)), fun h => (J.r11 (gl h (by decide))).keep (Below.refl _ _) (fun h => gl h (by decide)), fun h => ⟨up (J.r12 (gl h (by decide))).1, up (J.r12 (gl h (by decide))).2⟩, fun h => ⟨up (J.r13 (gl h (by decide))).1, up (J.r13 (gl h (by decide))).2⟩, fun h1 h2 => J.d10_11 (gl h1 (by decide)) (gl h2 (by decide))⟩⟩
            · have e5 := J.r5 (dep_of (hrs.2.2 _ rfl) 0 rfl rfl)
              subst e5
              have e6 := J.r6 (dep_of (hrs.2.2 _ rfl) 1 rfl rfl)
              subst e6
              refine wpOp_step rfl (fun K hK => ?_)
              unfold frB
              go_simp
              refine hK _ _ ?_
              exact ⟨_, _, _, _, _, _, _, _, _, _, _, _, rfl, ⟨J.bel, fun h => J.r0 (gl h (by decide)), fun h => J.r1 (gl h (by decide)), fun h => J.r2 (gl h (by decide)), fun h => J.r3 (gl h (by decide)), fun h => J.r4 (gl h (by decide)), fun h => J.r5 (gl h (by decide)), fun h => J.r6 (gl h (by decide)), fun _ => rfl, fun h => J.r8 (gl h (by decide)), fun h => J.r9 (gl h (by decide)), fun h => (J.r10 (gl h (by decide))).keep (Below.refl _ _) (fun h => gl h (by decide)), fun h => (J.r11 (gl h (by decide))).keep (Below.refl _ _) (fun h => gl h (by decide)), fun h => ⟨up (J.r12 (gl h (by decide))).1, up (J.r12 (gl h (by decide))).2⟩, fun h => ⟨up (J.r13 (gl h (by decide))).1, up (J.r13 (gl h (by decide))).2⟩, fun h1 h2 => J.d10_11 (gl h1 (by decide)) (gl h2 (by decide))⟩⟩
            · have e7 := J.r7 (dep_of (hrs.2.2 _ rfl) 0 rfl rfl)
              subst e7
              have hk := HBB2.out.keep J.bel
              have c0 := hk.cell0 HAY.out (u := .string ⟨#[]⟩) rfl
              have c1 := hk.cell HAY.out (j := 1) (u := .float .f64 by_) rfl
              have c2 := hk.cell HAY.out (j := 2) (u := .string ⟨#[]⟩) rfl
              have c3 := hk.cell HAY.out (j := 3) (u := .slice none 0 0) rfl
              have c4 := hk.cell HAY.out (j := 4) (u := .slice none 0 0) rfl
              have c5 := hk.cell HAY.out (j := 5) (u := .bool false) rfl
              have c6 := hk.cell HAY.out (j := 6) (u := .string ⟨#[]⟩) rfl
              have c7 := hk.cell HAY.out (j := 7) (u := .int .u8 1) rfl
              have c8 := hk.cell HAY.out (j := 8) (u := .pointer none) rfl
              have c9 := hk.cell HAY.out (j := 9) (u := .pointer none) rfl
              clear hk
              refine wpOp_step rfl (fun K hK => ?_)
              unfold frB
              go_simp
              refine hK _ _ ?_
              exact ⟨_, _, _, _, _, _, _, _, _, _, _, _, rfl, ⟨J.bel, fun h => J.r0 (gl h (by decide)), fun h => J.r1 (gl h (by decide)), fun h => J.r2 (gl h (by decide)), fun h => J.r3 (gl h (by decide)), fun h => J.r4 (gl h (by decide)), fun h => J.r5 (gl h (by decide)), fun h => J.r6 (gl h (by decide)), fun h => J.r7 (gl h (by decide)), fun _ => rfl, fun h => J.r9 (gl h (by decide)), fun h => (J.r10 (gl h (by decide))).keep (Below.refl _ _) (fun h => gl h (by decide)), fun h => (J.r11 (gl h (by decide))).keep (Below.refl _ _) (fun h => gl h (by decide)), fun h => ⟨up (J.r12 (gl h (by decide))).1, up (J.r12 (gl h (by decide))).2⟩, fun h => ⟨up (J.r13 (gl h (by decide))).1, up (J.r13 (gl h (by decide))).2⟩, fun h1 h2 => J.d10_11 (gl h1 (by decide)) (gl h2 (by decide))⟩⟩
            · have e8 := J.r8 (dep_of (hrs.2.2 _ rfl) 0 rfl rfl)
              subst e8
              refine wpOp_step rfl (fun K hK => ?_)
              unfold frB
              go_simp
              refine (toNum_lit by_ HGY.out w).mono ?_
              rintro e w' ⟨rfl, hb⟩
              dsimp only
              refine hK _ _ ?_
              exact ⟨_, _, _, _, _, _, _, _, _, _, _, _, rfl, ⟨J.bel.trans (hb.mono J.bel.size), fun h => J.r0 (gl h (by decide)), fun h => J.r1 (gl h (by decide)), fun h => J.r2 (gl h (by decide)), fun h => J.r3 (gl h (by decide)), fun h => J.r4 (gl h (by decide)), fun h => J.r5 (gl h (by decide)), fun h => J.r6 (gl h (by decide)), fun h => J.r7 (gl h (by decide)), fun h => J.r8 (gl h (by decide)), fun _ => rfl, fun h => (J.r10 (gl h (by decide))).keep hb (fun h => gl h (by decide)), fun h => by obtain ⟨g, old, h1, h2, h3, h4, h5, h6⟩ := (J.r11 (gl h (by decide))).keep (st' := False) hb False.elim; exact ⟨g, old, h1, h2, h3, h4, h5, fun hs => absurd (J.r13 (gl hs (by decide))).1 hoff⟩, fun h => ⟨up (J.r12 (gl h (by decide))).1, up (J.r12 (gl h (by decide))).2⟩, fun h => ⟨up (J.r13 (gl h (by decide))).1, up (J.r13 (gl h (by decide))).2⟩, fun h1 h2 => J.d10_11 (gl h1 (by decide)) (gl h2 (by decide))⟩⟩
            · refine wpOp_step rfl (fun K hK => ?_)
              unfold frB
              go_simp
              refine hK _ _ ?_
              exact ⟨_, _, _, _, _, _, _, _, _, _, _, _, rfl, ⟨J.bel.alloc J.bel.size _, fun h => J.r0 (gl h (by decide)), fun h => J.r1 (gl h (by decide)), fun h => J.r2 (gl h (by decide)), fun h => J.r3 (gl h (by decide)), fun h => J.r4 (gl h (by decide)), fun h => J.r5 (gl h (by decide)), fun h => J.r6 (gl h (by decide)), fun h => J.r7 (gl h (by decide)), fun h => J.r8 (gl h (by decide)), fun h => J.r9 (gl h (by decide)), fun _ => ⟨w.heap.size, [.string ⟨#[]⟩, .float .f64 0, .string ⟨#[]⟩, .slice none 0 0, .slice none 0 0, .bool false, .string ⟨#[]⟩, .int .u8 0, .pointer none, .pointer none], rfl, J.bel.size, by simp, rfl, Blk.new w 84 [.string ⟨#[]⟩, .float .f64 0, .string ⟨#[]⟩, .slice none 0 0, .slice none 0 0, .bool false, .string ⟨#[]⟩, .int .u8 0, .pointer none, .pointer none], fun hs => absurd (J.r12 (gl hs (by decide))).2 hoff⟩, fun h => (J.r11 (gl h (by decide))).keep ((Below.refl _ _).alloc (Nat.le_refl _) _) (fun h => gl h (by decide)), fun h => ⟨up (J.r12 (gl h (by decide))).1, up (J.r12 (gl h (by decide))).2⟩, fun h => ⟨up (J.r13 (gl h (by decide))).1, up (J.r13 (gl h (by decide))).2⟩, fun _ h2 e => ((J.r11 (gl h2 (by decide))).ne (Nat.le_refl _)) e.symm⟩⟩
            · refine wpOp_step rfl (fun K hK => ?_)
              unfold frB
              go_simp
              refine hK _ _ ?_
              exact ⟨_, _, _, _, _, _, _, _, _, _, _, _, rfl, ⟨J.bel.alloc J.bel.size _, fun h => J.r0 (gl h (by decide)), fun h => J.r1 (gl h (by decide)), fun h => J.r2 (gl h (by decide)), fun h => J.r3 (gl h (by decide)), fun h => J.r4 (gl h (by decide)), fun h => J.r5 (gl h (by decide)), fun h => J.r6 (gl h (by decide)), fun h => J.r7 (gl h (by decide)), fun h => J.r8 (gl h (by decide)), fun h => J.r9 (gl h (by decide)), fun h => (J.r10 (gl h (by decide))).keep ((Below.refl _ _).alloc (Nat.le_refl _) _) (fun h => gl h (by decide)), fun _ => ⟨w.heap.size, [.string ⟨#[]⟩, .float .f64 0, .string ⟨#[]⟩, .slice none 0 0, .slice none 0 0, .bool false, .string ⟨#[]⟩, .int .u8 0, .pointer none, .pointer none], rfl, J.bel.size, by simp, rfl, Blk.new w 84 [.string ⟨#[]⟩, .float .f64 0, .string ⟨#[]⟩, .slice none 0 0, .slice none 0 0, .bool false, .string ⟨#[]⟩, .int .u8 0, .pointer none, .pointer none], fun hs => absurd (J.r13 (gl hs (by decide))).2 hoff⟩, fun h => ⟨up (J.r12 (gl h (by decide))).1, up (J.r12 (gl h (by decide))).2⟩, fun h => ⟨up (J.r13 (gl h (by decide))).1, up (J.r13 (gl h (by decide))).2⟩, fun h1 _ => (J.r10 (gl h1 (by decide))).ne (Nat.le_refl _)⟩⟩
            · have hC : On1 l 4 := dep_of (hrs.2.2 _ rfl) 1 rfl rfl
              have hA : On1 l 10 := dep_of (hrs.2.2 _ rfl) 0 rfl rfl
              have e4 := J.r4 hC
              subst e4
              obtain ⟨g, old, rfl, hg, hg2, hol, hbk, _⟩ := J.r10 hA
              refine wpOp_step rfl (fun K hK => ?_)
              refine step_row (by rfl) 84 (.tmp 14) (.tmp 54) (by rfl) g 84 old [.string ⟨#[]⟩, .float .f64 bx, .string ⟨#[]⟩, .slice none 0 0, .slice none 0 0, .bool false, .string ⟨#[]⟩, .int .u8 1, .pointer none, .pointer none] (by rfl) (by rfl) hbk size84 hol rfl wr.heap.size hg ?_
              intro w' hr' hb' hk'
              refine hK _ _ ?_
              exact ⟨_, _, _, _, _, _, _, _, _, _, _, _, rfl, ⟨J.bel.trans hb', fun h => J.r0 (gl h (by decide)), fun h => J.r1 (gl h (by decide)), fun h => J.r2 (gl h (by decide)), fun h => J.r3 (gl h (by decide)), fun h => J.r4 (gl h (by decide)), fun h => J.r5 (gl h (by decide)), fun h => J.r6 (gl h (by decide)), fun h => J.r7 (gl h (by decide)), fun h => J.r8 (gl h (by decide)), fun h => J.r9 (gl h (by decide)), fun _ => ⟨g, _, rfl, hg, hr'.lt, rfl, hr', fun _ => rfl⟩, fun h => (J.r11 (gl h (by decide))).far hk' (fun e => J.d10_11 hA (gl h (by decide)) e.symm) (fun h => gl h (by decide)), fun _ => ⟨up hC, up hA⟩, fun h => ⟨up (J.r13 (gl h (by decide))).1, up (J.r13 (gl h (by decide))).2⟩, fun h1 h2 => J.d10_11 (gl h1 (by decide)) (gl h2 (by decide))⟩⟩
            · have hC : On1 l 9 := dep_of (hrs.2.2 _ rfl) 1 rfl rfl
              have hA : On1 l 11 := dep_of (hrs.2.2 _ rfl) 0 rfl rfl
              have e9 := J.r9 hC
              subst e9
              obtain ⟨g, old, rfl, hg, hg2, hol, hbk, _⟩ := J.r11 hA
              refine wpOp_step rfl (fun K hK => ?_)
              refine step_row (by rfl) 84 (.tmp 15) (.tmp 59) (by rfl) g 84 old [.string ⟨#[]⟩, .float .f64 by_, .string ⟨#[]⟩, .slice none 0 0, .slice none 0 0, .bool false, .string ⟨#[]⟩, .int .u8 1, .pointer none, .pointer none] (by rfl) (by rfl) hbk size84 hol rfl wr.heap.size hg ?_
              intro w' hr' hb' hk'
              refine hK _ _ ?_
              exact ⟨_, _, _, _, _, _, _, _, _, _, _, _, rfl, ⟨J.bel.trans hb', fun h => J.r0 (gl h (by decide)), fun h => J.r1 (gl h (by decide)), fun h => J.r2 (gl h (by decide)), fun h => J.r3 (gl h (by decide)), fun h => J.r4 (gl h (by decide)), fun h => J.r5 (gl h (by decide)), fun h => J.r6 (gl h (by decide)), fun h => J.r7 (gl h (by decide)), fun h => J.r8 (gl h (by decide)), fun h => J.r9 (gl h (by decide)), fun h => (J.r10 (gl h (by decide))).far hk' (J.d10_11 (gl h (by decide)) hA) (fun h => gl h (by decide)), fun _ => ⟨g, _, rfl, hg, hr'.lt, rfl, hr', fun _ => rfl⟩, fun h => ⟨up (J.r12 (gl h (by decide))).1, up (J.r12 (gl h (by decide))).2⟩, fun _ => ⟨up hC, up hA⟩, fun h1 h2 => J.d10_11 (gl h1 (by decide)) (gl h2 (by decide))⟩⟩
          · rintro l a w hl ⟨x14, x15, x50, x51, x52, x53, x54, x55, x56, x57, x58, x59, rfl, J⟩ hd
            have h0 : On1 l 0 := on_alln hl (by omega) (not_ready hd (i := 0) rfl (by decide) (by simp [Region.binds]))
            have q0 : l[0]?.getD false = true := by have := h0; unfold On1 at this; rwa [Array.getD_eq_getD_getElem?] at this
            have h1 : On1 l 1 := on_alln hl (by omega) (not_ready hd (i := 1) rfl (by decide) (by simp [Region.binds]))
            have q1 : l[1]?.getD false = true := by have := h1; unfold On1 at this; rwa [Array.getD_eq_getD_getElem?] at this
            have h2 : On1 l 2 := on_alln hl (by omega) (not_ready hd (i := 2) rfl (by decide) (by simp [Region.binds, q0, q1]))
            have q2 : l[2]?.getD false = true := by have := h2; unfold On1 at this; rwa [Array.getD_eq_getD_getElem?] at this
            have h3 : On1 l 3 := on_alln hl (by omega) (not_ready hd (i := 3) rfl (by decide) (by simp [Region.binds, q2]))
            have q3 : l[3]?.getD false = true := by have := h3; unfold On1 at this; rwa [Array.getD_eq_getD_getElem?] at this
            have h4 : On1 l 4 := on_alln hl (by omega) (not_ready hd (i := 4) rfl (by decide) (by simp [Region.binds, q3]))
            have q4 : l[4]?.getD false = true := by have := h4; unfold On1 at this; rwa [Array.getD_eq_getD_getElem?] at this
            have h5 : On1 l 5 := on_alln hl (by omega) (not_ready hd (i := 5) rfl (by decide) (by simp [Region.binds]))
            have q5 : l[5]?.getD false = true := by have := h5; unfold On1 at this; rwa [Array.getD_eq_getD_getElem?] at this
            have h6 : On1 l 6 := on_alln hl (by omega) (not_ready hd (i := 6) rfl (by decide) (by simp [Region.binds]))
            have q6 : l[6]?.getD false = true := by have := h6; unfold On1 at this; rwa [Array.getD_eq_getD_getElem?] at this
            have h7 : On1 l 7 := on_alln hl (by omega) (not_ready hd (i := 7) rfl (by decide) (by simp [Region.binds, q5, q6]))
            have q7 : l[7]?.getD false = true := by have := h7; unfold On1 at this; rwa [Array.getD_eq_getD_getElem?] at this
            have h8 : On1 l 8 := on_alln hl (by omega) (not_ready hd (i := 8) rfl (by decide) (by simp [Region.binds, q7]))
            have q8 : l[8]?.getD false = true := by have := h8; unfold On1 at this; rwa [Array.getD_eq_getD_getElem?] at this
            have h9 : On1 l 9 := on_alln hl (by omega) (not_ready hd (i := 9) rfl (by decide) (by simp [Region.binds, q4, q8]))
            have q9 : l[9]?.getD false = true := by have := h9; unfold On1 at this; rwa [Array.getD_eq_getD_getElem?] at this
            have h10 : On1 l 10 := on_alln hl (by omega) (not_ready hd (i := 10) rfl (by decide) (by simp [Region.binds]))
            have q10 : l[10]?.getD false = true := by have := h10; unfold On1 at this; rwa [Array.getD_eq_getD_getElem?] at this
            have h11 : On1 l 11 := on_alln hl (by omega) (not_ready hd (i := 11) rfl (by decide) (by simp [Region.binds]))
            have q11 : l[11]?.getD false = true := by have := h11; unfold On1 at this; rwa [Array.getD_eq_getD_getElem?] at this
            have h12 : On1 l 12 := on_alln hl (by omega) (not_ready hd (i := 12) rfl (by decide) (by simp [Region.binds, q0, q1, q2, q3, q4, q9, q10, q11]))
            have q12 : l[12]?.getD false = true := by have := h12; unfold On1 at this; rwa [Array.getD_eq_getD_getElem?] at this
            have h13 : On1 l 13 := on_alln hl (by omega) (not_ready hd (i := 13) rfl (by decide) (by simp [Region.binds, q0, q1, q2, q3, q4, q5, q6, q7, q8, q9, q10, q11, q12]))
            have q13 : l[13]?.getD false = true := by have := h13; unfold On1 at this; rwa [Array.getD_eq_getD_getElem?] at this
            have e50 := J.r0 h0
            have e51 := J.r1 h1
            have e52 := J.r2 h2
            have e53 := J.r3 h3
            have e54 := J.r4 h4
            have e55 := J.r5 h5
            have e56 := J.r6 h6
            have e57 := J.r7 h7
            have e58 := J.r8 h8
            have e59 := J.r9 h9
            obtain ⟨g14, f14, z14, b14⟩ := Bk.fin ((J.r10 h10).keep (Below.refl _ _) (fun _ => h12)) e54
            obtain ⟨g15, f15, z15, b15⟩ := Bk.fin ((J.r11 h11).keep (Below.refl _ _) (fun _ => h13)) e59
            subst e50 e51 e52 e53 e54 e55 e56 e57 e58 e59 f14 f15
            exact ⟨rfl, g14, g15, rfl, z14, z15, J.bel⟩
          · refine ⟨u14, u15, u50, u51, u52, u53, u54, u55, u56, u57, u58, u59, rfl, ⟨⟨rfl, rfl, rfl, Nat.le_refl _, fun _ _ => rfl⟩, fun h => absurd h (by decide), fun h => absurd h (by decide), fun h => absurd h (by decide), fun h => absurd h (by decide), fun h => absurd h (by decide), fun h => absurd h (by decide), fun h => absurd h (by decide), fun h => absurd h (by decide), fun h => absurd h (by decide), fun h => absurd h (by decide), fun h => absurd h (by decide), fun h => absurd h (by decide), fun h => absurd h (by decide), fun h => absurd h (by decide), fun h => absurd h (by decide)⟩⟩
      · have hkn : k = n := by omega
        clear hk
        have hle := tot_le fD fD_le HOX.out HOY.out (by rw [HX.out]; exact hn) n
        obtain ⟨S, hS⟩ : ∃ b, b = fx (tot fD (xs.take n) (ys.take n)) 0 := ⟨_, rfl⟩
        have HGD : Hid (Good S) := (by show Good S; rw [hS]; exact good_fx (by omega))
        have HSS := Lib.hid hS
        have HRK := Lib.hid (((HK0.out.below HB2.out l0k)).below HBK.out (HK0.out.below HB2.out l0k).lt)
        subst hkn
        rw [← hS]
        clear hS hle
        go_wp2_with fail
        refine (newNum_any S _ HGD.out).mono ?_
        rintro e w6 ⟨rfl, hb6⟩
        have HB6 : Hid (Below w.heap.size w w6) := ((HB0.out.trans (HB2.out.mono HB0.out.size)).trans (HBK.out.mono (Nat.le_trans HB0.out.size HB2.out.size))).trans (hb6.mono (Nat.le_trans HB0.out.size (Nat.le_trans HB2.out.size HBK.out.size)))
        have HR6 := Lib.hid (HRK.out.below hb6 HRK.out.lt)
        clear hb6
        go_wp2_with (refine store_res rfl (.tmp 6) (.tmp 113) rfl w.heap.size [.string ⟨#[]⟩, .float .f64 0, .string ⟨#[]⟩, .slice none 0 0, .slice none 0 0, .bool false, .string ⟨#[]⟩, .int .u8 0, .pointer none, .pointer none] (.num S) rfl rfl HR6.out rfl w.heap.size (Nat.le_refl _) ?_; intro w7 hr7 hb7)
        exact bodyPost_ret (ret_res rfl _ _ w.heap.size (.num S) rfl hr7) rfl ⟨_, rfl, by rw [HSS.out, ← HX.out, List.take_length, HX.out, ← HY.out, List.take_length], HB6.out.trans hb7⟩
  · clear HIL HX HY HOX HOY
    refine wp_region_any (by kernel_rfl) ?_
    refine wpAny_inv (n := 6) (fun l a w' => ∃ x9 x10 x34 x35 x36 x37, a = frA (F) (Value.string ⟨#[83, 85, 77, 88, 77, 89, 50]⟩) (Value.pointer (some { block := L, off := 0 })) (Value.pointer (some { block := w.heap.size, off := 0 })) (Value.pointer (some { block := w.heap.size + 1, off := 0 })) (Value.pointer (some { block := w.heap.size + 1 + 1, off := 0 })) (Value.pointer (some { block := L, off := 0 })) (Value.int IntKind.i64 2) (Value.bool false) (Value.pointer (some { block := L, off := 0 })) (Value.pointer (some { block := b0, off := 0 })) (Value.pointer (some { block := b0, off := 0 })) (Value.pointer (some { block := b0, off := 3 })) (Value.iface 84 (Value.agg #[Value.string { data := #[] }, Value.float FloatKind.f64 0, Value.string { data := #[] }, Value.slice none 0 0, Value.slice (some { block := rg, off := 0 }) n rc, Value.bool false, Value.string { data := #[] }, Value.int IntKind.u8 4, Value.pointer p, Value.pointer q])) (Value.agg #[Value.string { data := #[] }, Value.float FloatKind.f64 0, Value.string { data := #[] }, Value.slice none 0 0, Value.slice (some { block := rg, off := 0 }) n rc, Value.bool false, Value.string { data := #[] }, Value.int IntKind.u8 4, Value.pointer p, Value.pointer q]) (Value.pointer (some { block := L, off := 0 })) (Value.pointer (some { block := b1, off := 0 })) (Value.pointer (some { block := b1, off := 0 })) (Value.pointer (some { block := b1, off := 3 })) (Value.iface 84 (Value.agg #[Value.string { data := #[] }, Value.float FloatKind.f64 0, Value.string { data := #[] }, Value.slice none 0 0, Value.slice (some { block := sg, off := 0 }) n sc, Value.bool false, Value.string { data := #[] }, Value.int IntKind.u8 4, Value.pointer p2, Value.pointer q2])) (Value.agg #[Value.string { data := #[] }, Value.float FloatKind.f64 0, Value.string { data := #[] }, Value.slice none 0 0, Value.slice (some { block := sg, off := 0 }) n sc, Value.bool false, Value.string { data := #[] }, Value.int IntKind.u8 4, Value.pointer p2, Value.pointer q2]) x9 x10 x34 x35 x36 x37 ∧ RunA (.agg #[.string ⟨#[]⟩, .float .f64 0, .string ⟨#[]⟩, .slice none 0 0, .slice (some ⟨rg, 0, none⟩) n rc, .bool false, .string ⟨#[]⟩, .int .u8 4, .pointer p, .pointer q]) (.agg #[.string ⟨#[]⟩, .float .f64 0, .string ⟨#[]⟩, .slice none 0 0, .slice (some ⟨sg, 0, none⟩) n sc, .bool false, .string ⟨#[]⟩, .int .u8 4, .pointer p2, .pointer q2]) ((xs.map iA).map Atom.facells) ((ys.map iA).map Atom.facells) w0 x9 x10 x34 x35 x36 x37 l w') ?_ ?_ _ _ _ _ (by rfl) ?_ (by decide)
    · rintro l a w i hl ⟨x9, x10, x34, x35, x36, x37, rfl, J⟩ hi
      have hrs := ready_spec hi
      have hi6 : i < 6 := hrs.1
      have hoff := off1 hrs.2.1
      have hix : i = 0 ∨ i = 1 ∨ i = 2 ∨ i = 3 ∨ i = 4 ∨ i = 5 := by omega
      clear hi hi6
      rcases hix with rfl | rfl | rfl | rfl | rfl | rfl
      · have hk := HK1.out.below J.bel l1k
        have c0 := hk.get 0 rfl
        have c1 := hk.get 1 rfl
        have c2 := hk.get 2 rfl
        have c3 := hk.get 3 rfl
        have c4 := hk.get 4 rfl
        have c5 := hk.get 5 rfl
        have c6 := hk.get 6 rfl
        have c7 := hk.get 7 rfl
        have c8 := hk.get 8 rfl
        have c9 := hk.get 9 rfl
        clear hk
        refine wpOp_step rfl (fun K hK => ?_)
        unfold frA
        go_simp
        refine hK _ _ ?_
        exact ⟨_, _, _, _, _, _, rfl, ⟨J.bel, fun _ => rfl, fun h => J.r1 (gl h (by decide)), fun h => J.r2 (gl h (by decide)), fun h => J.r3 (gl h (by decide)), fun h => ⟨up (J.r4 (gl h (by decide))).1, (J.r4 (gl h (by decide))).2⟩, fun h => ⟨up (J.r5 (gl h (by decide))).1, (J.r5 (gl h (by decide))).2⟩⟩⟩
      · have e0 := J.r0 (dep_of (hrs.2.2 _ rfl) 0 rfl rfl)
        subst e0
        refine wpOp_step rfl (fun K hK => ?_)
        unfold frA
        go_simp
        refine (toList_mat (xs.map iA) HXL.out HXN.out _ p q w ((HT.out.keep HB0.out).keep J.bel)).mono ?_
        rintro e w' ⟨v', rfl, ha, hb⟩
        dsimp only
        refine hK _ _ ?_
        exact ⟨_, _, _, _, _, _, rfl, ⟨J.bel.trans (hb.mono J.bel.size), fun h => J.r0 (gl h (by decide)), fun _ => ha.base (Nat.zero_le _), fun h => J.r2 (gl h (by decide)), fun h => (J.r3 (gl h (by decide))).keep hb, fun h => absurd (J.r4 (gl h (by decide))).1 hoff, fun h => ⟨up (J.r5 (gl h (by decide))).1, (J.r5 (gl h (by decide))).2⟩⟩⟩
      · have hk := HK2.out.below J.bel l2k
        have c0 := hk.get 0 rfl
        have c1 := hk.get 1 rfl
        have c2 := hk.get 2 rfl
        have c3 := hk.get 3 rfl
        have c4 := hk.get 4 rfl
        have c5 := hk.get 5 rfl
        have c6 := hk.get 6 rfl
        have c7 := hk.get 7 rfl
        have c8 := hk.get 8 rfl
        have c9 := hk.get 9 rfl
        clear hk
        refine wpOp_step rfl (fun K hK => ?_)
        unfold frA
        go_simp
        refine hK _ _ ?_
        exact ⟨_, _, _, _, _, _, rfl, ⟨J.bel, fun h => J.r0 (gl h (by decide)), fun h => J.r1 (gl h (by decide)), fun _ => rfl, fun h => J.r3 (gl h (by decide)), fun h => ⟨up (J.r4 (gl h (by decide))).1, (J.r4 (gl h (by decide))).2⟩, fun h => ⟨up (J.r5 (gl h (by decide))).1, (J.r5 (gl h (by decide))).2⟩⟩⟩
      · have e2 := J.r2 (dep_of (hrs.2.2 _ rfl) 0 rfl rfl)
        subst e2
        refine wpOp_step rfl (fun K hK => ?_)
        unfold frA
        go_simp
        refine (toList_mat (ys.map iA) HYL.out HYN.out _ p2 q2 w ((HU.out.keep HB0.out).keep J.bel)).mono ?_
        rintro e w' ⟨v', rfl, ha, hb⟩
        dsimp only
        refine hK _ _ ?_
        exact ⟨_, _, _, _, _, _, rfl, ⟨J.bel.trans (hb.mono J.bel.size), fun h => J.r0 (gl h (by decide)), fun h => (J.r1 (gl h (by decide))).keep hb, fun h => J.r2 (gl h (by decide)), fun _ => ha.base (Nat.zero_le _), fun h => ⟨up (J.r4 (gl h (by decide))).1, (J.r4 (gl h (by decide))).2⟩, fun h => absurd (J.r5 (gl h (by decide))).1 hoff⟩⟩
      · have hC : On1 l 1 := dep_of (hrs.2.2 _ rfl) 0 rfl rfl
        refine wpOp_step rfl (fun K hK => ?_)
        unfold frA
        go_simp
        refine hK _ _ ?_
        exact ⟨_, _, _, _, _, _, rfl, ⟨J.bel, fun h => J.r0 (gl h (by decide)), fun h => J.r1 (gl h (by decide)), fun h => J.r2 (gl h (by decide)), fun h => J.r3 (gl h (by decide)), fun _ => ⟨up hC, rfl⟩, fun h => ⟨up (J.r5 (gl h (by decide))).1, (J.r5 (gl h (by decide))).2⟩⟩⟩
      · have hC : On1 l 3 := dep_of (hrs.2.2 _ rfl) 0 rfl rfl
        refine wpOp_step rfl (fun K hK => ?_)
        unfold frA
        go_simp
        refine hK _ _ ?_
        exact ⟨_, _, _, _, _, _, rfl, ⟨J.bel, fun h => J.r0 (gl h (by decide)), fun h => J.r1 (gl h (by decide)), fun h => J.r2 (gl h (by decide)), fun h => J.r3 (gl h (by decide)), fun h => ⟨up (J.r4 (gl h (by decide))).1, (J.r4 (gl h (by decide))).2⟩, fun _ => ⟨up hC, rfl⟩⟩⟩
    · rintro l a w hl ⟨x9, x10, x34, x35, x36, x37, rfl, J⟩ hd
      have h0 : On1 l 0 := on_alln hl (by omega) (not_ready hd (i := 0) rfl (by decide) (by simp [Region.binds]))
      have q0 : l[0]?.getD false = true := by have := h0; unfold On1 at this; rwa [Array.getD_eq_getD_getElem?] at this
      have h1 : On1 l 1 := on_alln hl (by omega) (not_ready hd (i := 1) rfl (by decide) (by simp [Region.binds, q0]))
      have q1 : l[1]?.getD false = true := by have := h1; unfold On1 at this; rwa [Array.getD_eq_getD_getElem?] at this
      have h2 : On1 l 2 := on_alln hl (by omega) (not_ready hd (i := 2) rfl (by decide) (by simp [Region.binds]))
      have q2 : l[2]?.getD false = true := by have := h2; unfold On1 at this; rwa [Array.getD_eq_getD_getElem?] at this
      have h3 : On1 l 3 := on_alln hl (by omega) (not_ready hd (i := 3) rfl (by decide) (by simp [Region.binds, q1, q2]))
      have q3 : l[3]?.getD false = true := by have := h3; unfold On1 at this; rwa [Array.getD_eq_getD_getElem?] at this
      have h4 : On1 l 4 := on_alln hl (by omega) (not_ready hd (i := 4) rfl (by decide) (by simp [Region.binds, q0, q1, q3]))
      have q4 : l[4]?.getD false = true := by have := h4; unfold On1 at this; rwa [Array.getD_eq_getD_getElem?] at this
      have h5 : On1 l 5 := on_alln hl (by omega) (not_ready hd (i := 5) rfl (by decide) (by simp [Region.binds, q0, q1, q2, q3, q4]))
      have q5 : l[5]?.getD false = true := by have := h5; unfold On1 at this; rwa [Array.getD_eq_getD_getElem?] at this
      obtain ⟨_, e9⟩ := J.r4 h4
      obtain ⟨_, e10⟩ := J.r5 h5
      have e34 := J.r0 h0
      have e36 := J.r2 h2
      subst e9 e10 e34 e36
      exact ⟨rfl, _, _, rfl, J.r1 h1, J.r3 h3, J.bel⟩
    · refine ⟨undef, undef, undef, undef, undef, undef, rfl, ⟨⟨rfl, rfl, rfl, Nat.le_refl _, fun _ _ => rfl⟩, fun h => absurd h (by decide), fun h => absurd h (by decide), fun h => absurd h (by decide), fun h => absurd h (by decide), fun h => absurd h (by decide), fun h => absurd h (by decide)⟩⟩
set_option maxRecDepth 20000 in
set_option maxHeartbeats 8000000 in
theorem sumx_P (xs ys : List Int) (n : Nat) (hx : xs.length = n) (hy : ys.length = n) (h0 : 0 < n) (hn : n ≤ 50) (okx : SmallInts xs) (oky : SmallInts ys) (F : Value) (B L b0 b1 rg rc sg sc : Nat) (p q p2 q2 : Option Addr) (w : World)
    (hil : IsList B w L [b0, b1] [.iface 84 (.agg #[.string ⟨#[]⟩, .float .f64 0, .string ⟨#[]⟩, .slice none 0 0, .slice (some ⟨rg, 0, none⟩) n rc, .bool false, .string ⟨#[]⟩, .int .u8 4, .pointer p, .pointer q]), .iface 84 (.agg #[.string ⟨#[]⟩, .float .f64 0, .string ⟨#[]⟩, .slice none 0 0, .slice (some ⟨sg, 0, none⟩) n sc, .bool false, .string ⟨#[]⟩, .int .u8 4, .pointer p2, .pointer q2])]) (ht : Tab 0 w 79 84 10 (.slice (some ⟨rg, 0, none⟩) n rc) ((xs.map iA).map fun a => [a.facells])) (hu : Tab 0 w 79 84 10 (.slice (some ⟨sg, 0, none⟩) n sc) ((ys.map iA).map fun a => [a.facells])) :
    Calls Tryz.prog 106 #[F, .string ⟨#[83, 85, 77, 88, 50, 80, 89, 50]⟩, .pointer (some ⟨L, 0, none⟩)] w (Gives (fun r => r = .num (fx (tot fP xs ys) 0)) w) := by
  obtain ⟨c0, l0⟩ := hil.at3 0 rfl rfl
  obtain ⟨c1, l1⟩ := hil.at3 1 rfl rfl
  have m0 := lt_k l0
  have m1 := lt_k l1
  have HIL := Lib.hid hil
  have HT := Lib.hid ht
  have HU := Lib.hid hu
  have HX := Lib.hid hx
  have HY := Lib.hid hy
  have HOX := Lib.hid okx
  have HOY := Lib.hid oky
  have HXL := Lib.hid (show (xs.map iA).length ≤ 100 by rw [List.length_map]; omega)
  have HYL := Lib.hid (show (ys.map iA).length ≤ 100 by rw [List.length_map]; omega)
  have HXN := Lib.hid (show xs.map iA ≠ [] by intro h; rw [List.map_eq_nil_iff] at h; rw [h] at hx; simp at hx; omega)
  have HYN := Lib.hid (show ys.map iA ≠ [] by intro h; rw [List.map_eq_nil_iff] at h; rw [h] at hy; simp at hy; omega)
  clear hil ht hu hx hy okx oky
  go_enter Tryz.func106, Tryz.ntmps106
  go_wp2_with (first | (go_at_call 110; refine (len2 _ _ _ _ _ _ _ (HIL.out.keep (by go_grown))).mono ?_; rintro e w2 ⟨rfl, rfl⟩) | (go_at_call 112; refine (front_any _ _ _ _ _ _ _ (HIL.out.keep (by go_grown))).mono ?_; rintro e w2 ⟨rfl, rfl⟩) | (go_at_call 134; refine (back2 _ _ _ _ _ _ _ (HIL.out.keep (by go_grown))).mono ?_; rintro e w2 ⟨rfl, rfl⟩))
  clear c0 c1 m0 m1
  refine abs_wp (fun w' => Blk w' w.heap.size 84 [.string ⟨#[]⟩, .float .f64 0, .string ⟨#[]⟩, .slice none 0 0, .slice none 0 0, .bool false, .string ⟨#[]⟩, .int .u8 0, .pointer none, .pointer none] ∧ Blk w' (w.heap.size + 1) 84 [.string ⟨#[]⟩, .float .f64 0, .string ⟨#[]⟩, .slice none 0 0, .slice (some ⟨rg, 0, none⟩) n rc, .bool false, .string ⟨#[]⟩, .int .u8 4, .pointer p, .pointer q] ∧ Blk w' (w.heap.size + 1 + 1) 84 [.string ⟨#[]⟩, .float .f64 0, .string ⟨#[]⟩, .slice none 0 0, .slice (some ⟨sg, 0, none⟩) n sc, .bool false, .string ⟨#[]⟩, .int .u8 4, .pointer p2, .pointer q2] ∧ Below w.heap.size w w') ⟨((Blk.new w 84 _).alloc _).alloc _, (blk_at (by simp) (Blk.new (w.alloc _) 84 _)).alloc _, blk_at (by simp) (Blk.new ((w.alloc _).alloc _) 84 _), by go_grown⟩ ?_
  rintro w0 ⟨hk0, hk1, hk2, hb0⟩
  have HK0 := Lib.hid hk0
  have HK1 := Lib.hid hk1
  have HK2 := Lib.hid hk2
  have HB0 := Lib.hid hb0
  have l0k := hk0.lt
  have l1k := hk1.lt
  have l2k := hk2.lt
  clear hk0 hk1 hk2 hb0 l0 l1
  refine Code.wp_mono (Q := fun e a w' => e = .normal ∧ ∃ v0 v1, a = frA (F) (Value.string ⟨#[83, 85, 77, 88, 50, 80, 89, 50]⟩) (Value.pointer (some { block := L, off := 0 })) (Value.pointer (some { block := w.heap.size, off := 0 })) (Value.pointer (some { block := w.heap.size + 1, off := 0 })) (Value.pointer (some { block := w.heap.size + 1 + 1, off := 0 })) (Value.pointer (some { block := L, off := 0 })) (Value.int IntKind.i64 2) (Value.bool false) (Value.pointer (some { block := L, off := 0 })) (Value.pointer (some { block := b0, off := 0 })) (Value.pointer (some { block := b0, off := 0 })) (Value.pointer (some { block := b0, off := 3 })) (Value.iface 84 (Value.agg #[Value.string { data := #[] }, Value.float FloatKind.f64 0, Value.string { data := #[] }, Value.slice none 0 0, Value.slice (some { block := rg, off := 0 }) n rc, Value.bool false, Value.string { data := #[] }, Value.int IntKind.u8 4, Value.pointer p, Value.pointer q])) (Value.agg #[Value.string { data := #[] }, Value.float FloatKind.f64 0, Value.string { data := #[] }, Value.slice none 0 0, Value.slice (some { block := rg, off := 0 }) n rc, Value.bool false, Value.string { data := #[] }, Value.int IntKind.u8 4, Value.pointer p, Value.pointer q]) (Value.pointer (some { block := L, off := 0 })) (Value.pointer (some { block := b1, off := 0 })) (Value.pointer (some { block := b1, off := 0 })) (Value.pointer (some { block := b1, off := 3 })) (Value.iface 84 (Value.agg #[Value.string { data := #[] }, Value.float FloatKind.f64 0, Value.string { data := #[] }, Value.slice none 0 0, Value.slice (some { block := sg, off := 0 }) n sc, Value.bool false, Value.string { data := #[] }, Value.int IntKind.u8 4, Value.pointer p2, Value.pointer q2])) (Value.agg #[Value.string { data := #[] }, Value.float FloatKind.f64 0, Value.string { data := #[] }, Value.slice none 0 0, Value.slice (some { block := sg, off := 0 }) n sc, Value.bool false, Value.string { data := #[] }, Value.int IntKind.u8 4, Value.pointer p2, Value.pointer q2]) v0 v1 (.agg #[.string ⟨#[]⟩, .float .f64 0, .string ⟨#[]⟩, .slice none 0 0, .slice (some ⟨rg, 0, none⟩) n rc, .bool false, .string ⟨#[]⟩, .int .u8 4, .pointer p, .pointer q]) v0 (.agg #[.string ⟨#[]⟩, .float .f64 0, .string ⟨#[]⟩, .slice none 0 0, .slice (some ⟨sg, 0, none⟩) n sc, .bool false, .string ⟨#[]⟩, .int .u8 4, .pointer p2, .pointer q2]) v1 ∧ Arr 0 w' 84 10 v0 ((xs.map iA).map Atom.facells) ∧ Arr 0 w' 84 10 v1 ((ys.map iA).map Atom.facells) ∧ Below w0.heap.size w0 w') ?_ ?_
  · rintro _ a w2 ⟨rfl, v0, v1, rfl, ha, hb, hbl⟩
    unfold frA
    have HA := Lib.hid ha
    have HBB := Lib.hid hb
    have HB2 := Lib.hid hbl
    obtain ⟨ga, ca, rfl⟩ : ∃ ga ca, v0 = .slice (some ⟨ga, 0, none⟩) n ca := (by
      rcases ha.shape with ⟨_, h⟩ | ⟨g, c, h, _⟩
      · exact absurd (List.map_eq_nil_iff.1 h) HXN.out
      · exact ⟨g, c, by rw [h, List.length_map, List.length_map, HX.out]⟩)
    obtain ⟨gb, cb, rfl⟩ : ∃ ga ca, v1 = .slice (some ⟨ga, 0, none⟩) n ca := (by
      rcases hb.shape with ⟨_, h⟩ | ⟨g, c, h, _⟩
      · exact absurd (List.map_eq_nil_iff.1 h) HYN.out
      · exact ⟨g, c, by rw [h, List.length_map, List.length_map, HY.out]⟩)
    clear ha hb hbl
    go_wp2_with fail
    go_loopw [12, 13] (fun a i wr => ∃ k : Nat, k ≤ n ∧ i = .int .i64 k ∧ a = .float .f64 (fx (tot fP (xs.take k) (ys.take k)) 0) ∧ Below w2.heap.size w2 wr) (fun _ i _ => n - (intOf i).toNat)
    case atStart => exact ⟨0, Nat.zero_le _, rfl, congrArg _ (fx_zero 0).symm, Below.refl _ _⟩
    case round =>
      obtain ⟨k, hk, rfl, rfl, hbk⟩ := hrel
      have HBK := Lib.hid hbk
      clear hbk
      by_cases hlt : k < n
      · obtain ⟨x, hx⟩ := one_at HX.out hlt
        obtain ⟨y, hy⟩ := one_at HY.out hlt
        obtain ⟨bx, hbx⟩ : ∃ b, b = fx x 0 := ⟨_, rfl⟩
        obtain ⟨by_, hby⟩ : ∃ b, b = fx y 0 := ⟨_, rfl⟩
        have hxr := HOX.out x (List.mem_of_getElem? hx)
        have hyr := HOY.out y (List.mem_of_getElem? hy)
        have HGX : Hid (Good bx) := (by show Good bx; rw [hbx]; exact good_fx (by omega))
        have HGY : Hid (Good by_) := (by show Good by_; rw [hby]; exact good_fx (by omega))
        have hax : ((xs.map iA).map Atom.facells)[k]? = some [.string ⟨#[]⟩, .float .f64 bx, .string ⟨#[]⟩, .slice none 0 0, .slice none 0 0, .bool false, .string ⟨#[]⟩, .int .u8 1, .pointer none, .pointer none] := (by rw [List.getElem?_map, List.getElem?_map, hx, hbx]; rfl)
        have hay : ((ys.map iA).map Atom.facells)[k]? = some [.string ⟨#[]⟩, .float .f64 by_, .string ⟨#[]⟩, .slice none 0 0, .slice none 0 0, .bool false, .string ⟨#[]⟩, .int .u8 1, .pointer none, .pointer none] := (by rw [List.getElem?_map, List.getElem?_map, hy, hby]; rfl)
        have HAX := Lib.hid hax
        have HAY := Lib.hid hay
        have HA2 := Lib.hid (HA.out.keep HBK.out)
        have HBB2 := Lib.hid (HBB.out.keep HBK.out)
        have HXK := Lib.hid hx
        have HYK := Lib.hid hy
        have htot := tot_snoc fP hx hy
        have hle := tot_le fP fP_le HOX.out HOY.out (by rw [HX.out]; exact hn) k
        have hfl := fP_le x y (by omega) (by omega)
        obtain ⟨bs1, hbs1⟩ : ∃ b, b = fx (tot fP (xs.take k) (ys.take k)) 0 := ⟨_, rfl⟩
        obtain ⟨bs2, hbs2⟩ : ∃ b, b = fx (tot fP (xs.take (k + 1)) (ys.take (k + 1))) 0 := ⟨_, rfl⟩
        obtain ⟨bz, hbz⟩ : ∃ b, b = fx (fP x y) 0 := ⟨_, rfl⟩
        have hadd := add_tot (a := tot fP (xs.take k) (ys.take k)) (b := fP x y) (c := tot fP (xs.take (k + 1)) (ys.take (k + 1))) (by omega) (by omega) htot
        have hox := order_int0 (x := x) (by omega) hxr.2.2
        have hoy := order_int0 (x := y) (by omega) hyr.2.2
        rw [← hbs1, ← hbs2, ← hbz] at hadd
        rw [← hbx] at hox
        rw [← hby] at hoy
        rw [← hbs1]
        have HB2F := Lib.hid hbs2
        have hmx := mul_ints (a := x) (b := x) (c := x * x) (by omega) (by omega) (.inl ⟨hxr.2.2, hxr.2.2⟩) rfl
        have hmy := mul_ints (a := y) (b := y) (c := y * y) (by omega) (by omega) (.inl ⟨hyr.2.2, hyr.2.2⟩) rfl
        have qx := sq_999 (x := x) (by omega)
        have qy := sq_999 (x := y) (by omega)
        have hop := add_ints (a := x * x) (b := y * y) (c := fP x y) (by omega) (by omega) rfl
        obtain ⟨bxx, hbxx⟩ : ∃ b, b = fx (x * x) 0 := ⟨_, rfl⟩
        obtain ⟨byy, hbyy⟩ : ∃ b, b = fx (y * y) 0 := ⟨_, rfl⟩
        rw [← hbx, ← hbxx] at hmx
        rw [← hby, ← hbyy] at hmy
        rw [← hbxx, ← hbyy, ← hbz] at hop
        clear hbxx hbyy qx qy
        clear htot hle hfl hbs1 hbs2 hbz
        clear hax hay hx hy hxr hyr hbx hby
        go_wp2_with fail
        refine Code.wp_mono (Q := fun e a w' => e = .normal ∧ ∃ g14 g15, a = frB (F) (Value.string ⟨#[83, 85, 77, 88, 50, 80, 89, 50]⟩) (Value.pointer (some { block := L, off := 0 })) (Value.pointer (some { block := w.heap.size, off := 0 })) (Value.pointer (some { block := w.heap.size + 1, off := 0 })) (Value.pointer (some { block := w.heap.size + 1 + 1, off := 0 })) (Value.slice (some { block := ga, off := 0 }) n ca) (Value.slice (some { block := gb, off := 0 }) n cb) (Value.int IntKind.i64 ↑n) (.float .f64 bs1) (Value.int IntKind.i64 ↑k) (Value.pointer (some { block := L, off := 0 })) (Value.int IntKind.i64 2) (Value.bool false) (Value.pointer (some { block := L, off := 0 })) (Value.pointer (some { block := b0, off := 0 })) (Value.pointer (some { block := b0, off := 0 })) (Value.pointer (some { block := b0, off := 3 })) (Value.iface 84 (Value.agg #[Value.string { data := #[] }, Value.float FloatKind.f64 0, Value.string { data := #[] }, Value.slice none 0 0, Value.slice (some { block := rg, off := 0 }) n rc, Value.bool false, Value.string { data := #[] }, Value.int IntKind.u8 4, Value.pointer p, Value.pointer q])) (Value.agg #[Value.string { data := #[] }, Value.float FloatKind.f64 0, Value.string { data := #[] }, Value.slice none 0 0, Value.slice (some { block := rg, off := 0 }) n rc, Value.bool false, Value.string { data := #[] }, Value.int IntKind.u8 4, Value.pointer p, Value.pointer q]) (Value.pointer (some { block := L, off := 0 })) (Value.pointer (some { block := b1, off := 0 })) (Value.pointer (some { block := b1, off := 0 })) (Value.pointer (some { block := b1, off := 3 })) (Value.iface 84 (Value.agg #[Value.string { data := #[] }, Value.float FloatKind.f64 0, Value.string { data := #[] }, Value.slice none 0 0, Value.slice (some { block := sg, off := 0 }) n sc, Value.bool false, Value.string { data := #[] }, Value.int IntKind.u8 4, Value.pointer p2, Value.pointer q2])) (Value.agg #[Value.string { data := #[] }, Value.float FloatKind.f64 0, Value.string { data := #[] }, Value.slice none 0 0, Value.slice (some { block := sg, off := 0 }) n sc, Value.bool false, Value.string { data := #[] }, Value.int IntKind.u8 4, Value.pointer p2, Value.pointer q2]) (Value.agg #[Value.string { data := #[] }, Value.float FloatKind.f64 0, Value.string { data := #[] }, Value.slice none 0 0, Value.slice (some { block := rg, off := 0 }) n rc, Value.bool false, Value.string { data := #[] }, Value.int IntKind.u8 4, Value.pointer p, Value.pointer q]) (Value.slice (some { block := ga, off := 0 }) n ca) (Value.agg #[Value.string { data := #[] }, Value.float FloatKind.f64 0, Value.string { data := #[] }, Value.slice none 0 0, Value.slice (some { block := sg, off := 0 }) n sc, Value.bool false, Value.string { data := #[] }, Value.int IntKind.u8 4, Value.pointer p2, Value.pointer q2]) (Value.slice (some { block := gb, off := 0 }) n cb) (Value.slice (some { block := ga, off := 0 }) n ca) (Value.int IntKind.i64 ↑n) (Value.int IntKind.i64 ↑n) (Value.slice (some { block := gb, off := 0 }) n cb) (Value.int IntKind.i64 ↑n) (Value.bool false) (Value.int IntKind.i64 ↑k) (Value.int IntKind.i64 ↑n) (Value.bool true) (u48) (u49) (u60) (u61) (u62) (u63) (u64) (u65) (u66) (u67) (u68) (u69) (u70) (u71) (u72) (u73) (u74) (u75) (u76) (u77) (u78) (u79) (u80) (u81) (u82) (u83) (u84) (u85) (u86) (u87) (u88) (u89) (u90) (u91) (u92) (u93) (u94) (u95) (u96) (u97) (u98) (u99) (u100) (u101) (u102) (u103) (u104) (u105) (u106) (u107) (u108) (u109) (u110) (u111) (.pointer (some ⟨g14, 0, none⟩)) (.pointer (some ⟨g15, 0, none⟩)) (.slice (some ⟨ga, 0, none⟩) n ca) (.int .i64 k) (.pointer (some ⟨ga, k * 10, none⟩)) (.agg #[.string ⟨#[]⟩, .float .f64 bx, .string ⟨#[]⟩, .slice none 0 0, .slice none 0 0, .bool false, .string ⟨#[]⟩, .int .u8 1, .pointer none, .pointer none]) (.agg #[.string ⟨#[]⟩, .float .f64 bx, .string ⟨#[]⟩, .slice none 0 0, .slice none 0 0, .bool false, .string ⟨#[]⟩, .int .u8 1, .pointer none, .pointer none]) (.slice (some ⟨gb, 0, none⟩) n cb) (.int .i64 k) (.pointer (some ⟨gb, k * 10, none⟩)) (.agg #[.string ⟨#[]⟩, .float .f64 by_, .string ⟨#[]⟩, .slice none 0 0, .slice none 0 0, .bool false, .string ⟨#[]⟩, .int .u8 1, .pointer none, .pointer none]) (.agg #[.string ⟨#[]⟩, .float .f64 by_, .string ⟨#[]⟩, .slice none 0 0, .slice none 0 0, .bool false, .string ⟨#[]⟩, .int .u8 1, .pointer none, .pointer none]) ∧ Blk w' g14 84 [.string ⟨#[]⟩, .float .f64 bx, .string ⟨#[]⟩, .slice none 0 0, .slice none 0 0, .bool false, .string ⟨#[]⟩, .int .u8 1, .pointer none, .pointer none] ∧ Blk w' g15 84 [.string ⟨#[]⟩, .float .f64 by_, .string ⟨#[]⟩, .slice none 0 0, .slice none 0 0, .bool false, .string ⟨#[]⟩, .int .u8 1, .pointer none, .pointer none] ∧ Below wr.heap.size wr w') ?_ ?_
        · rintro _ a w3 ⟨rfl, g14, g15, rfl, z14, z15, hbl⟩
          unfold frB
          have l14 := z14.lt
          have l15 := z15.lt
          have e14 := z14.get 1 rfl
          have e15 := z15.get 1 rfl
          have HB3 := Lib.hid hbl
          clear z14 z15 hbl
          rcases hox with hox | hox <;> rcases hoy with hoy | hoy
          all_goals
            go_wp2_with fail
            exact ⟨⟨k + 1, by omega, by go_num, by rw [HB2F.out], HBK.out.trans (HB3.out.mono HBK.out.size)⟩, by simp [intOf]; omega⟩
        · clear HX HY HIL HOX HOY HB0
          refine wp_region_any (by kernel_rfl) ?_
          refine wpAny_inv (n := 14) (fun l a w' => ∃ x14 x15 x50 x51 x52 x53 x54 x55 x56 x57 x58 x59, a = frB (F) (Value.string ⟨#[83, 85, 77, 88, 50, 80, 89, 50]⟩) (Value.pointer (some { block := L, off := 0 })) (Value.pointer (some { block := w.heap.size, off := 0 })) (Value.pointer (some { block := w.heap.size + 1, off := 0 })) (Value.pointer (some { block := w.heap.size + 1 + 1, off := 0 })) (Value.slice (some { block := ga, off := 0 }) n ca) (Value.slice (some { block := gb, off := 0 }) n cb) (Value.int IntKind.i64 ↑n) (.float .f64 bs1) (Value.int IntKind.i64 ↑k) (Value.pointer (some { block := L, off := 0 })) (Value.int IntKind.i64 2) (Value.bool false) (Value.pointer (some { block := L, off := 0 })) (Value.pointer (some { block := b0, off := 0 })) (Value.pointer (some { block := b0, off := 0 })) (Value.pointer (some { block := b0, off := 3 })) (Value.iface 84 (Value.agg #[Value.string { data := #[] }, Value.float FloatKind.f64 0, Value.string { data := #[] }, Value.slice none 0 0, Value.slice (some { block := rg, off := 0 }) n rc, Value.bool false, Value.string { data := #[] }, Value.int IntKind.u8 4, Value.pointer p, Value.pointer q])) (Value.agg #[Value.string { data := #[] }, Value.float FloatKind.f64 0, Value.string { data := #[] }, Value.slice none 0 0, Value.slice (some { block := rg, off := 0 }) n rc, Value.bool false, Value.string { data := #[] }, Value.int IntKind.u8 4, Value.pointer p, Value.pointer q]) (Value.pointer (some { block := L, off := 0 })) (Value.pointer (some { block := b1, off := 0 })) (Value.pointer (some { block := b1, off := 0 })) (Value.pointer (some { block := b1, off := 3 })) (Value.iface 84 (Value.agg #[Value.string { data := #[] }, Value.float FloatKind.f64 0, Value.string { data := #[] }, Value.slice none 0 0, Value.slice (some { block := sg, off := 0 }) n sc, Value.bool false, Value.string { data := #[] }, Value.int IntKind.u8 4, Value.pointer p2, Value.pointer q2])) (Value.agg #[Value.string { data := #[] }, Value.float FloatKind.f64 0, Value.string { data := #[] }, Value.slice none 0 0, Value.slice (some { block := sg, off := 0 }) n sc, Value.bool false, Value.string { data := #[] }, Value.int IntKind.u8 4, Value.pointer p2, Value.pointer q2]) (Value.agg #[Value.string { data := #[] }, Value.float FloatKind.f64 0, Value.string { data := #[] }, Value.slice none 0 0, Value.slice (some { block := rg, off := 0 }) n rc, Value.bool false, Value.string { data := #[] }, Value.int IntKind.u8 4, Value.pointer p, Value.pointer q]) (Value.slice (some { block := ga, off := 0 }) n ca) (Value.agg #[Value.string { data := #[] }, Value.float FloatKind.f64 0, Value.string { data := #[] }, Value.slice none 0 0, Value.slice (some { block := sg, off := 0 }) n sc, Value.bool false, Value.string { data := #[] }, Value.int IntKind.u8 4, Value.pointer p2, Value.pointer q2]) (Value.slice (some { block := gb, off := 0 }) n cb) (Value.slice (some { block := ga, off := 0 }) n ca) (Value.int IntKind.i64 ↑n) (Value.int IntKind.i64 ↑n) (Value.slice (some { block := gb, off := 0 }) n cb) (Value.int IntKind.i64 ↑n) (Value.bool false) (Value.int IntKind.i64 ↑k) (Value.int IntKind.i64 ↑n) (Value.bool true) (u48) (u49) (u60) (u61) (u62) (u63) (u64) (u65) (u66) (u67) (u68) (u69) (u70) (u71) (u72) (u73) (u74) (u75) (u76) (u77) (u78) (u79) (u80) (u81) (u82) (u83) (u84) (u85) (u86) (u87) (u88) (u89) (u90) (u91) (u92) (u93) (u94) (u95) (u96) (u97) (u98) (u99) (u100) (u101) (u102) (u103) (u104) (u105) (u106) (u107) (u108) (u109) (u110) (u111) x14 x15 x50 x51 x52 x53 x54 x55 x56 x57 x58 x59 ∧ RunB (.slice (some ⟨ga, 0, none⟩) n ca) (.slice (some ⟨gb, 0, none⟩) n cb) (.pointer (some ⟨ga, k * 10, none⟩)) (.pointer (some ⟨gb, k * 10, none⟩)) k bx by_ wr x14 x15 x50 x51 x52 x53 x54 x55 x56 x57 x58 x59 l w') ?_ ?_ _ _ _ _ (by rfl) ?_ (by decide)
          · rintro l a w i hl ⟨x14, x15, x50, x51, x52, x53, x54, x55, x56, x57, x58, x59, rfl, J⟩ hi
            have hrs := ready_spec hi
            have hi14 : i < 14 := hrs.1
            have hoff := off1 hrs.2.1
            have hix : i = 0 ∨ i = 1 ∨ i = 2 ∨ i = 3 ∨ i = 4 ∨ i = 5 ∨ i = 6 ∨ i = 7 ∨ i = 8 ∨ i = 9 ∨ i = 10 ∨ i = 11 ∨ i = 12 ∨ i = 13 := by omega
            clear hi hi14
            rcases hix with rfl | rfl | rfl | rfl | rfl | rfl | rfl | rfl | rfl | rfl | rfl | rfl | rfl | rfl
            · refine wpOp_step rfl (fun K hK => ?_)
              unfold frB
              go_simp
              refine hK _ _ ?_
              exact ⟨_, _, _, _, _, _, _, _, _, _, _, _, rfl, ⟨J.bel, fun _ => rfl, fun h => J.r1 (gl h (by decide)), fun h => J.r2 (gl h (by decide)), fun h => J.r3 (gl h (by decide)), fun h => J.r4 (gl h (by decide)), fun h => J.r5 (gl h (by decide)), fun h => J.r6 (gl h (by decide)), fun h => J.r7 (gl h (by decide)), fun h => J.r8 (gl h (by decide)), fun h => J.r9 (gl h (by decide)), fun h => (J.r10 (gl h (by decide))).keep (Below.refl _ _) (fun h => gl h (by decide)), fun h => (J.r11 (gl h (by decide))).keep (Below.refl _ _) (fun h => gl h (by decide)), fun h => ⟨up (J.r12 (gl h (by decide))).1, up (J.r12 (gl h (by decide))).2⟩, fun h => ⟨up (J.r13 (gl h (by decide))).1, up (J.r13 (gl h (by decide))).2⟩, fun h1 h2 => J.d10_11 (gl h1 (by decide)) (gl h2 (by decide))⟩⟩
            · refine wpOp_step rfl (fun K hK => ?_)
              unfold frB
              go_simp
              refine hK _ _ ?_
              exact ⟨_, _, _, _, _, _, _, _, _, _, _, _, rfl, ⟨J.bel, fun h => J.r0 (gl h (by decide)), fun _ => rfl, fun h => J.r2 (gl h (by decide)), fun h => J.r3 (gl h (by decide)), fun h => J.r4 (gl h (by decide)), fun h => J.r5 (gl h (by decide)), fun h => J.r6 (gl h (by decide)), fun h => J.r7 (gl h (by decide)), fun h => J.r8 (gl h (by decide)), fun h => J.r9 (gl h (by decide)), fun h => (J.r10 (gl h (by decide))).keep (Below.refl _ _) (fun h => gl h (by decide)), fun h => (J.r11 (gl h (by decide))).keep (Below.refl _ _) (fun h => gl h (by decide)), fun h => ⟨up (J.r12 (gl h (by decide))).1, up (J.r12 (gl h (by decide))).2⟩, fun h => ⟨up (J.r13 (gl h (by decide))).1, up (J.r13 (gl h (by decide))).2⟩, fun h1 h2 => J.d10_11 (gl h1 (by decide)) (gl h2 (by decide))⟩⟩
            · have e0 := J.r0 (dep_of (hrs.2.2 _ rfl) 0 rfl rfl)
              subst e0
              have e1 := J.r1 (dep_of (hrs.2.2 _ rfl) 1 rfl rfl)
              subst e1
              refine wpOp_step rfl (fun K hK => ?_)
              unfold frB
              go_simp
              refine hK _ _ ?_
              exact ⟨_, _, _, _, _, _, _, _, _, _, _, _, rfl, ⟨J.bel, fun h => J.r0 (gl h (by decide)), fun h => J.r1 (gl h (by decide)), fun _ => rfl, fun h => J.r3 (gl h (by decide)), fun h => J.r4 (gl h (by decide)), fun h => J.r5 (gl h (by decide)), fun h => J.r6 (gl h (by decide)), fun h => J.r7 (gl h (by decide)), fun h => J.r8 (gl h (by decide)), fun h => J.r9 (gl h (by decide)), fun h => (J.r10 (gl h (by decide))).keep (Below.refl _ _) (fun h => gl h (by decide)), fun h => (J.r11 (gl h (by decide))).keep (Below.refl _ _) (fun h => gl h (by decide)), fun h => ⟨up (J.r12 (gl h (by decide))).1, up (J.r12 (gl h (by decide))).2⟩, fun h => ⟨up (J.r13 (gl h (by decide))).1, up (J.r13 (gl h (by decide))).2⟩, fun h1 h2 => J.d10_11 (gl h1 (by decide)) (gl h2 (by decide))⟩⟩
            · have e2 := J.r2 (dep_of (hrs.2.2 _ rfl) 0 rfl rfl)
              subst e2
              have hk := HA2.out.keep J.bel
              have c0 := hk.cell0 HAX.out (u := .string ⟨#[]⟩) rfl
              have c1 := hk.cell HAX.out (j := 1) (u := .float .f64 bx) rfl
              have c2 := hk.cell HAX.out (j := 2) (u := .string ⟨#[]⟩) rfl
              have c3 := hk.cell HAX.out (j := 3) (u := .slice none 0 0) rfl
              have c4 := hk.cell HAX.out (j := 4) (u := .slice none 0 0) rfl
              have c5 := hk.cell HAX.out (j := 5) (u := .bool false) rfl
              have c6 := hk.cell HAX.out (j := 6) (u := .string ⟨#[]⟩) rfl
              have c7 := hk.cell HAX.out (j := 7) (u := .int .u8 1) rfl
              have c8 := hk.cell HAX.out (j := 8) (u := .pointer none) rfl
              have c9 := hk.cell HAX.out (j := 9) (u := .pointer none) rfl
              clear hk
              refine wpOp_step rfl (fun K hK => ?_)
              unfold frB
              go_simp
              refine hK _ _ ?_
              exact ⟨_, _, _, _, _, _, _, _, _, _, _, _, rfl, ⟨J.bel, fun h => J.r0 (gl h (by decide)), fun h => J.r1 (gl h (by decide)), fun h => J.r2 (gl h (by decide)), fun _ => rfl, fun h => J.r4 (gl h (by decide)), fun h => J.r5 (gl h (by decide)), fun h => J.r6 (gl h (by decide)), fun h => J.r7 (gl h (by decide)), fun h => J.r8 (gl h (by decide)), fun h => J.r9 (gl h (by decide)), fun h => (J.r10 (gl h (by decide))).keep (Below.refl _ _) (fun h => gl h (by decide)), fun h => (J.r11 (gl h (by decide))).keep (Below.refl _ _) (fun h => gl h (by decide)), fun h => ⟨up (J.r12 (gl h (by decide))).1, up (J.r12 (gl h (by decide))).2⟩, fun h => ⟨up (J.r13 (gl h (by decide))).1, up (J.r13 (gl h (by decide))).2⟩, fun h1 h2 => J.d10_11 (gl h1 (by decide)) (gl h2 (by decide))⟩⟩
            · have e3 := J.r3 (dep_of (hrs.2.2 _ rfl) 0 rfl rfl)
              subst e3
              refine wpOp_step rfl (fun K hK => ?_)
              unfold frB
              go_simp
              refine (toNum_lit bx HGX.out w).mono ?_
              rintro e w' ⟨rfl, hb⟩
              dsimp only
              refine hK _ _ ?_
              exact ⟨_, _, _, _, _, _, _, _, _, _, _, _, rfl, ⟨J.bel.trans (hb.mono J.bel.size), fun h => J.r0 (gl h (by decide)), fun h => J.r1 (gl h (by decide)), fun h => J.r2 (gl h (by decide)), fun h => J.r3 (gl h (by decide)), fun _ => rfl, fun h => J.r5 (gl h (by decide)), fun h => J.r6 (gl h (by decide)), fun h => J.r7 (gl h (by decide)), fun h => J.r8 (gl h (by decide)), fun h => J.r9 (gl h (by decide)), fun h => by obtain ⟨g, old, h1, h2, h3, h4, h5, h6⟩ := (J.r10 (gl h (by decide))).keep (st' := False) hb False.elim; exact ⟨g, old, h1, h2, h3, h4, h5, fun hs => absurd (J.r12 (gl hs (by decide))).1 hoff⟩, fun h => (J.r11 (gl h (by decide))).keep hb (fun h => gl h (by decide)), fun h => ⟨up (J.r12 (gl h (by decide))).1, up (J.r12 (gl h (by decide))).2⟩, fun h => ⟨up (J.r13 (gl h (by decide))).1, up (J.r13 (gl h (by decide))).2⟩, fun h1 h2 => J.d10_11 (gl h1 (by decide)) (gl h2 (by decide))⟩⟩
            · refine wpOp_step rfl (fun K hK => ?_)
              unfold frB
              go_simp
              refine hK _ _ ?_
              exact ⟨_, _, _, _, _, _, _, _, _, _, _, _, rfl, ⟨J.bel, fun h => J.r0 (gl h (by decide)), fun h => J.r1 (gl h (by decide)), fun h => J.r2 (gl h (by decide)), fun h => J.r3 (gl h (by decide)), fun h => J.r4 (gl h (by decide)), fun _ => rfl, fun h => J.r6 (gl h (by decide)), fun h => J.r7 (gl h (by decide)), fun h => J.r8 (gl h (by decide)), fun h => J.r9 (gl h (by decide)), fun h => (J.r10 (gl h (by decide))).keep (Below.refl _ _) (fun h => gl h (by decide)), fun h => (J.r11 (gl h (by decide))).keep (Below.refl _ _) (fun h => gl h (by decide)), fun h => ⟨up (J.r12 (gl h (by decide))).1, up (J.r12 (gl h (by decide))).2⟩, fun h => ⟨up (J.r13 (gl h (by decide))).1, up (J.r13 (gl h (by decide))).2⟩, fun h1 h2 => J.d10_11 (gl h1 (by decide)) (gl h2 (by decide))⟩⟩
            · refine wpOp_step rfl (fun K hK => ?_)
              unfold frB
              go_simp
              refine hK _ _ ?_
              exact ⟨_, _, _, _, _, _, _, _, _, _, _, _, rfl, ⟨J.bel, fun h => J.r0 (gl h (by decide)), fun h => J.r1 (gl h (by decide)), fun h => J.r2 (gl h (by decide)), fun h => J.r3 (gl h (by decide)), fun h => J.r4 (gl h (by decide)), fun h => J.r5 (gl h (by decide)), fun _ => rfl, fun h => J.r7 (gl h (by decide)), fun h => J.r8 (gl h (by decide)), fun h => J.r9 (gl h (by decide)), fun h => (J.r10 (gl h (by decide))).keep (Below.refl _ _) (fun h => gl h (by decide)), fun h => (J.r11 (gl h (by decide))).keep (Below.refl _ _) (fun h => gl h (by decide)), fun h => ⟨up (J.r12 (gl h (by decide))).1, up (J.r12 (gl h (by decide))).2⟩, fun h => ⟨up (J.r13 (gl h (by decide))).1, up (J.r13 (gl h (by decide))).2⟩, fun h1 h2 => J.d10_11 (gl h1 (by decide)) (gl h2 (by decide))⟩⟩
            · have e5 := J.r5 (dep_of (hrs.2.2 _ rfl) 0 rfl rfl)
              subst e5
              have e6 := J.r6 (dep_of (hrs.2.2 _ rfl) 1 rfl rfl)
              subst e6
              refine wpOp_step rfl (fun K hK => ?_)
              unfold frB
              go_simp
              refine hK _ _ ?_
              exact ⟨_, _, _, _, _, _, _, _, _, _, _, _, rfl, ⟨J.bel, fun h => J.r0 (gl h (by decide)), fun h => J.r1 (gl h (by decide)), fun h => J.r2 (gl h (by decide)), fun h => J.r3 (gl h (by decide)), fun h => J.r4 (gl h (by decide)), fun h => J.r5 (gl h (by decide)), fun h => J.r6 (gl h (by decide)), fun _ => rfl, fun h => J.r8 (gl h (by decide)), fun h => J.r9 (gl h (by decide)), fun h => (J.r10 (gl h (by decide))).keep (Below.refl _ _) (fun h => gl h (by decide)), fun h => (J.r11 (gl h (by decide))).keep (Below.refl _ _) (fun h => gl h (by decide)), fun h => ⟨up (J.r12 (gl h (by decide))).1, up (J.r12 (gl h (by decide))).2⟩, fun h => ⟨up (J.r13 (gl h (by decide))).1, up (J.r13 (gl h (by decide))).2⟩, fun h1 h2 => J.d10_11 (gl h1 (by decide)) (gl h2 (by decide))⟩⟩
            · have e7 := J.r7 (dep_of (hrs.2.2 _ rfl) 0 rfl rfl)
              subst e7
              have hk := HBB2.out.keep J.bel
              have c0 := hk.cell0 HAY.out (u := .string ⟨#[]⟩) rfl
              have c1 := hk.cell HAY.out (j := 1) (u := .float .f64 by_) rfl
              have c2 := hk.cell HAY.out (j := 2) (u := .string ⟨#[]⟩) rfl
              have c3 := hk.cell HAY.out (j := 3) (u := .slice none 0 0) rfl
              have c4 := hk.cell HAY.out (j := 4) (u := .slice none 0 0) rfl
              have c5 := hk.cell HAY.out (j := 5) (u := .bool false) rfl
              have c6 := hk.cell HAY.out (j := 6) (u := .string ⟨#[]⟩) rfl
              have c7 := hk.cell HAY.out (j := 7) (u := .int .u8 1) rfl
              have c8 := hk.cell HAY.out (j := 8) (u := .pointer none) rfl
              have c9 := hk.cell HAY.out (j := 9) (u := .pointer none) rfl
              clear hk
              refine wpOp_step rfl (fun K hK => ?_)
              unfold frB
              go_simp
              refine hK _ _ ?_
              exact ⟨_, _, _, _, _, _, _, _, _, _, _, _, rfl, ⟨J.bel, fun h => J.r0 (gl h (by decide)), fun h => J.r1 (gl h (by decide)), fun h => J.r2 (gl h (by decide)), fun h => J.r3 (gl h (by decide)), fun h => J.r4 (gl h (by decide)), fun h => J.r5 (gl h (by decide)), fun h => J.r6 (gl h (by decide)), fun h => J.r7 (gl h (by decide)), fun _ => rfl, fun h => J.r9 (gl h (by decide)), fun h => (J.r10 (gl h (by decide))).keep (Below.refl _ _) (fun h => gl h (by decide)), fun h => (J.r11 (gl h (by decide))).keep (Below.refl _ _) (fun h => gl h (by decide)), fun h => ⟨up (J.r12 (gl h (by decide))).1, up (J.r12 (gl h (by decide))).2⟩, fun h => ⟨up (J.r13 (gl h (by decide))).1, up (J.r13 (gl h (by decide))).2⟩, fun h1 h2 => J.d10_11 (gl h1 (by decide)) (gl h2 (by decide))⟩⟩
            · have e8 := J.r8 (dep_of (hrs.2.2 _ rfl) 0 rfl rfl)
              subst e8
              refine wpOp_step rfl (fun K hK => ?_)
              unfold frB
              go_simp
              refine (toNum_lit by_ HGY.out w).mono ?_
              rintro e w' ⟨rfl, hb⟩
              dsimp only
              refine hK _ _ ?_
              exact ⟨_, _, _, _, _, _, _, _, _, _, _, _, rfl, ⟨J.bel.trans (hb.mono J.bel.size), fun h => J.r0 (gl h (by decide)), fun h => J.r1 (gl h (by decide)), fun h => J.r2 (gl h (by decide)), fun h => J.r3 (gl h (by decide)), fun h => J.r4 (gl h (by decide)), fun h => J.r5 (gl h (by decide)), fun h => J.r6 (gl h (by decide)), fun h => J.r7 (gl h (by decide)), fun h => J.r8 (gl h (by decide)), fun _ => rfl, fun h => (J.r10 (gl h (by decide))).keep hb (fun h => gl h (by decide)), fun h => by obtain ⟨g, old, h1, h2, h3, h4, h5, h6⟩ := (J.r11 (gl h (by decide))).keep (st' := False) hb False.elim; exact ⟨g, old, h1, h2, h3, h4, h5, fun hs => absurd (J.r13 (gl hs (by decide))).1 hoff⟩, fun h => ⟨up (J.r12 (gl h (by decide))).1, up (J.r12 (gl h (by decide))).2⟩, fun h => ⟨up (J.r13 (gl h (by decide))).1, up (J.r13 (gl h (by decide))).2⟩, fun h1 h2 => J.d10_11 (gl h1 (by decide)) (gl h2 (by decide))⟩⟩
            · refine wpOp_step rfl (fun K hK => ?_)
              unfold frB
              go_simp
              refine hK _ _ ?_
              exact ⟨_, _, _, _, _, _, _, _, _, _, _, _, rfl, ⟨J.bel.alloc J.bel.size _, fun h => J.r0 (gl h (by decide)), fun h => J.r1 (gl h (by decide)), fun h => J.r2 (gl h (by decide)), fun h => J.r3 (gl h (by decide)), fun h => J.r4 (gl h (by decide)), fun h => J.r5 (gl h (by decide)), fun h => J.r6 (gl h (by decide)), fun h => J.r7 (gl h (by decide)), fun h => J.r8 (gl h (by decide)), fun h => J.r9 (gl h (by decide)), fun _ => ⟨w.heap.size, [.string ⟨#[]⟩, .float .f64 0, .string ⟨#[]⟩, .slice none 0 0, .slice none 0 0, .bool false, .string ⟨#[]⟩, .int .u8 0, .pointer none, .pointer none], rfl, J.bel.size, by simp, rfl, Blk.new w 84 [.string ⟨#[]⟩, .float .f64 0, .string ⟨#[]⟩, .slice none 0 0, .slice none 0 0, .bool false, .string ⟨#[]⟩, .int .u8 0, .pointer none, .pointer none], fun hs => absurd (J.r12 (gl hs (by decide))).2 hoff⟩, fun h => (J.r11 (gl h (by decide))).keep ((Below.refl _ _).alloc (Nat.le_refl _) _) (fun h => gl h (by decide)), fun h => ⟨up (J.r12 (gl h (by decide))).1, up (J.r12 (gl h (by decide))).2⟩, fun h => ⟨up (J.r13 (gl h (by decide))).1, up (J.r13 (gl h (by decide))).2⟩, fun _ h2 e => ((J.r11 (gl h2 (by decide))).ne (Nat.le_refl _)) e.symm⟩⟩
            · refine wpOp_step rfl (fun K hK => ?_)
              unfold frB
              go_simp
              refine hK _ _ ?_
              exact ⟨_, _, _, _, _, _, _, _, _, _, _, _, rfl, ⟨J.bel.alloc J.bel.size _, fun h => J.r0 (gl h (by decide)), fun h => J.r1 (gl h (by decide)), fun h => J.r2 (gl h (by decide)), fun h => J.r3 (gl h (by decide)), fun h => J.r4 (gl h (by decide)), fun h => J.r5 (gl h (by decide)), fun h => J.r6 (gl h (by decide)), fun h => J.r7 (gl h (by decide)), fun h => J.r8 (gl h (by decide)), fun h => J.r9 (gl h (by decide)), fun h => (J.r10 (gl h (by decide))).keep ((Below.refl _ _).alloc (Nat.le_refl _) _) (fun h => gl h (by decide)), fun _ => ⟨w.heap.size, [.string ⟨#[]⟩, .float .f64 0, .string ⟨#[]⟩, .slice none 0 0, .slice none 0 0, .bool false, .string ⟨#[]⟩, .int .u8 0, .pointer none, .pointer none], rfl, J.bel.size, by simp, rfl, Blk.new w 84 [.string ⟨#[]⟩, .float .f64 0, .string ⟨#[]⟩, .slice none 0 0, .slice none 0 0, .bool false, .string ⟨#[]⟩, .int .u8 0, .pointer none, .pointer none], fun hs => absurd (J.r13 (gl hs (by decide))).2 hoff⟩, fun h => ⟨up (J.r12 (gl h (by decide))).1, up (J.r12 (gl h (by decide))).2⟩, fun h => ⟨up (J.r13 (gl h (by decide))).1, up (J.r13 (gl h (by decide))).2⟩, fun h1 _ => (J.r10 (gl h1 (by decide))).ne (Nat.le_refl _)⟩⟩
            · have hC : On1 l 4 := dep_of (hrs.2.2 _ rfl) 1 rfl rfl
              have hA : On1 l 10 := dep_of (hrs.2.2 _ rfl) 0 rfl rfl
              have e4 := J.r4 hC
              subst e4
              obtain ⟨g, old, rfl, hg, hg2, hol, hbk, _⟩ := J.r10 hA
              refine wpOp_step rfl (fun K hK => ?_)
              refine step_row (by rfl) 84 (.tmp 14) (.tmp 54) (by rfl) g 84 old [.string ⟨#[]⟩, .float .f64 bx, .string ⟨#[]⟩, .slice none 0 0, .slice none 0 0, .bool false, .string ⟨#[]⟩, .int .u8 1, .pointer none, .pointer none] (by rfl) (by rfl) hbk size84 hol rfl wr.heap.size hg ?_
              intro w' hr' hb' hk'
              refine hK _ _ ?_
              exact ⟨_, _, _, _, _, _, _, _, _, _, _, _, rfl, ⟨J.bel.trans hb', fun h => J.r0 (gl h (by decide)), fun h => J.r1 (gl h (by decide)), fun h => J.r2 (gl h (by decide)), fun h => J.r3 (gl h (by decide)), fun h => J.r4 (gl h (by decide)), fun h => J.r5 (gl h (by decide)), fun h => J.r6 (gl h (by decide)), fun h => J.r7 (gl h (by decide)), fun h => J.r8 (gl h (by decide)), fun h => J.r9 (gl h (by decide)), fun _ => ⟨g, _, rfl, hg, hr'.lt, rfl, hr', fun _ => rfl⟩, fun h => (J.r11 (gl h (by decide))).far hk' (fun e => J.d10_11 hA (gl h (by decide)) e.symm) (fun h => gl h (by decide)), fun _ => ⟨up hC, up hA⟩, fun h => ⟨up (J.r13 (gl h (by decide))).1, up (J.r13 (gl h (by decide))).2⟩, fun h1 h2 => J.d10_11 (gl h1 (by decide)) (gl h2 (by decide))⟩⟩
            · have hC : On1 l 9 := dep_of (hrs.2.2 _ rfl) 1 rfl rfl
              have hA : On1 l 11 := dep_of (hrs.2.2 _ rfl) 0 rfl rfl
              have e9 := J.r9 hC
              subst e9
              obtain ⟨g, old, rfl, hg, hg2, hol, hbk, _⟩ := J.r11 hA
              refine wpOp_step rfl (fun K hK => ?_)
              refine step_row (by rfl) 84 (.tmp 15) (.tmp 59) (by rfl) g 84 old [.string ⟨#[]⟩, .float .f64 by_, .string ⟨#[]⟩, .slice none 0 0, .slice none 0 0, .bool false, .string ⟨#[]⟩, .int .u8 1, .pointer none, .pointer none] (by rfl) (by rfl) hbk size84 hol rfl wr.heap.size hg ?_
              intro w' hr' hb' hk'
              refine hK _ _ ?_
              exact ⟨_, _, _, _, _, _, _, _, _, _, _, _, rfl, ⟨J.bel.trans hb', fun h => J.r0 (gl h (by decide)), fun h => J.r1 (gl h (by decide)), fun h => J.r2 (gl h (by decide)), fun h => J.r3 (gl h (by decide)), fun h => J.r4 (gl h (by decide)), fun h => J.r5 (gl h (by decide)), fun h => J.r6 (gl h (by decide)), fun h => J.r7 (gl h (by decide)), fun h => J.r8 (gl h (by decide)), fun h => J.r9 (gl h (by decide)), fun h => (J.r10 (gl h (by decide))).far hk' (J.d10_11 (gl h (by decide)) hA) (fun h => gl h (by decide)), fun _ => ⟨g, _, rfl, hg, hr'.lt, rfl, hr', fun _ => rfl⟩, fun h => ⟨up (J.r12 (gl h (by decide))).1, up (J.r12 (gl h (by decide))).2⟩, fun _ => ⟨up hC, up hA⟩, fun h1 h2 => J.d10_11 (gl h1 (by decide)) (gl h2 (by decide))⟩⟩
          · rintro l a w hl ⟨x14, x15, x50, x51, x52, x53, x54, x55, x56, x57, x58, x59, rfl, J⟩ hd
            have h0 : On1 l 0 := on_alln hl (by omega) (not_ready hd (i := 0) rfl (by decide) (by simp [Region.binds]))
            have q0 : l[0]?.getD false = true := by have := h0; unfold On1 at this; rwa [Array.getD_eq_getD_getElem?] at this
            have h1 : On1 l 1 := on_alln hl (by omega) (not_ready hd (i := 1) rfl (by decide) (by simp [Region.binds]))
            have q1 : l[1]?.getD false = true := by have := h1; unfold On1 at this; rwa [Array.getD_eq_getD_getElem?] at this
            have h2 : On1 l 2 := on_alln hl (by omega) (not_ready hd (i := 2) rfl (by decide) (by simp [Region.binds, q0, q1]))
            have q2 : l[2]?.getD false = true := by have := h2; unfold On1 at this; rwa [Array.getD_eq_getD_getElem?] at this
            have h3 : On1 l 3 := on_alln hl (by omega) (not_ready hd (i := 3) rfl (by decide) (by simp [Region.binds, q2]))
            have q3 : l[3]?.getD false = true := by have := h3; unfold On1 at this; rwa [Array.getD_eq_getD_getElem?] at this
            have h4 : On1 l 4 := on_alln hl (by omega) (not_ready hd (i := 4) rfl (by decide) (by simp [Region.binds, q3]))
            have q4 : l[4]?.getD false = true := by have := h4; unfold On1 at this; rwa [Array.getD_eq_getD_getElem?] at this
            have h5 : On1 l 5 := on_alln hl (by omega) (not_ready hd (i := 5) rfl (by decide) (by simp [Region.binds]))
            have q5 : l[5]?.getD false = true := by have := h5; unfold On1 at this; rwa [Array.getD_eq_getD_getElem?] at this
            have h6 : On1 l 6 := on_alln hl (by omega) (not_ready hd (i := 6) rfl (by decide) (by simp [Region.binds]))
            have q6 : l[6]?.getD false = true := by have := h6; unfold On1 at this; rwa [Array.getD_eq_getD_getElem?] at this
            have h7 : On1 l 7 := on_alln hl (by omega) (not_ready hd (i := 7) rfl (by decide) (by simp [Region.binds, q5, q6]))
            have q7 : l[7]?.getD false = true := by have := h7; unfold On1 at this; rwa [Array.getD_eq_getD_getElem?] at this
            have h8 : On1 l 8 := on_alln hl (by omega) (not_ready hd (i := 8) rfl (by decide) (by simp [Region.binds, q7]))
            have q8 : l[8]?.getD false = true := by have := h8; unfold On1 at this; rwa [Array.getD_eq_getD_getElem?] at this
            have h9 : On1 l 9 := on_alln hl (by omega) (not_ready hd (i := 9) rfl (by decide) (by simp [Region.binds, q4, q8]))
            have q9 : l[9]?.getD false = true := by have := h9; unfold On1 at this; rwa [Array.getD_eq_getD_getElem?] at this
            have h10 : On1 l 10 := on_alln hl (by omega) (not_ready hd (i := 10) rfl (by decide) (by simp [Region.binds]))
            have q10 : l[10]?.getD false = true := by have := h10; unfold On1 at this; rwa [Array.getD_eq_getD_getElem?] at this
            have h11 : On1 l 11 := on_alln hl (by omega) (not_ready hd (i := 11) rfl (by decide) (by simp [Region.binds]))
            have q11 : l[11]?.getD false = true := by have := h11; unfold On1 at this; rwa [Array.getD_eq_getD_getElem?] at this
            have h12 : On1 l 12 := on_alln hl (by omega) (not_ready hd (i := 12) rfl (by decide) (by simp [Region.binds, q0, q1, q2, q3, q4, q9, q10, q11]))
            have q12 : l[12]?.getD false = true := by have := h12; unfold On1 at this; rwa [Array.getD_eq_getD_getElem?] at this
            have h13 : On1 l 13 := on_alln hl (by omega) (not_ready hd (i := 13) rfl (by decide) (by simp [Region.binds, q0, q1, q2, q3, q4, q5, q6, q7, q8, q9, q10, q11, q12]))
            have q13 : l[13]?.getD false = true := by have := h13; unfold On1 at this; rwa [Array.getD_eq_getD_getElem?] at this
            have e50 := J.r0 h0
            have e51 := J.r1 h1
            have e52 := J.r2 h2
            have e53 := J.r3 h3
            have e54 := J.r4 h4
            have e55 := J.r5 h5
            have e56 := J.r6 h6
            have e57 := J.r7 h7
            have e58 := J.r8 h8
            have e59 := J.r9 h9
            obtain ⟨g14, f14, z14, b14⟩ := Bk.fin ((J.r10 h10).keep (Below.refl _ _) (fun _ => h12)) e54
            obtain ⟨g15, f15, z15, b15⟩ := Bk.fin ((J.r11 h11).keep (Below.refl _ _) (fun _ => h13)) e59
            subst e50 e51 e52 e53 e54 e55 e56 e57 e58 e59 f14 f15
            exact ⟨rfl, g14, g15, rfl, z14, z15, J.bel⟩
          · refine ⟨u14, u15, u50, u51, u52, u53, u54, u55, u56, u57, u58, u59, rfl, ⟨⟨rfl, rfl, rfl, Nat.le_refl _, fun _ _ => rfl⟩, fun h => absurd h (by decide), fun h => absurd h (by decide), fun h => absurd h (by decide), fun h => absurd h (by decide), fun h => absurd h (by decide), fun h => absurd h (by decide), fun h => absurd h (by decide), fun h => absurd h (by decide), fun h => absurd h (by decide), fun h => absurd h (by decide), fun h => absurd h (by decide), fun h => absurd h (by decide), fun h => absurd h (by decide), fun h => absurd h (by decide), fun h => absurd h (by decide)⟩⟩
      · have hkn : k = n := by omega
        clear hk
        have hle := tot_le fP fP_le HOX.out HOY.out (by rw [HX.out]; exact hn) n
        obtain ⟨S, hS⟩ : ∃ b, b = fx (tot fP (xs.take n) (ys.take n)) 0 := ⟨_, rfl⟩
        have HGD : Hid (Good S) := (by show Good S; rw [hS]; exact good_fx (by omega))
        have HSS := Lib.hid hS
        have HRK := Lib.hid (((HK0.out.below HB2.out l0k)).below HBK.out (HK0.out.below HB2.out l0k).lt)
        subst hkn
        rw [← hS]
        clear hS hle
        go_wp2_with fail
        refine (newNum_any S _ HGD.out).mono ?_
        rintro e w6 ⟨rfl, hb6⟩
        have HB6 : Hid (Below w.heap.size w w6) := ((HB0.out.trans (HB2.out.mono HB0.out.size)).trans (HBK.out.mono (Nat.le_trans HB0.out.size HB2.out.size))).trans (hb6.mono (Nat.le_trans HB0.out.size (Nat.le_trans HB2.out.size HBK.out.size)))
        have HR6 := Lib.hid (HRK.out.below hb6 HRK.out.lt)
        clear hb6
        go_wp2_with (refine store_res rfl (.tmp 6) (.tmp 113) rfl w.heap.size [.string ⟨#[]⟩, .float .f64 0, .string ⟨#[]⟩, .slice none 0 0, .slice none 0 0, .bool false, .string ⟨#[]⟩, .int .u8 0, .pointer none, .pointer none] (.num S) rfl rfl HR6.out rfl w.heap.size (Nat.le_refl _) ?_; intro w7 hr7 hb7)
        exact bodyPost_ret (ret_res rfl _ _ w.heap.size (.num S) rfl hr7) rfl ⟨_, rfl, by rw [HSS.out, ← HX.out, List.take_length, HX.out, ← HY.out, List.take_length], HB6.out.trans hb7⟩
  · clear HIL HX HY HOX HOY
    refine wp_region_any (by kernel_rfl) ?_
    refine wpAny_inv (n := 6) (fun l a w' => ∃ x9 x10 x34 x35 x36 x37, a = frA (F) (Value.string ⟨#[83, 85, 77, 88, 50, 80, 89, 50]⟩) (Value.pointer (some { block := L, off := 0 })) (Value.pointer (some { block := w.heap.size, off := 0 })) (Value.pointer (some { block := w.heap.size + 1, off := 0 })) (Value.pointer (some { block := w.heap.size + 1 + 1, off := 0 })) (Value.pointer (some { block := L, off := 0 })) (Value.int IntKind.i64 2) (Value.bool false) (Value.pointer (some { block := L, off := 0 })) (Value.pointer (some { block := b0, off := 0 })) (Value.pointer (some { block := b0, off := 0 })) (Value.pointer (some { block := b0, off := 3 })) (Value.iface 84 (Value.agg #[Value.string { data := #[] }, Value.float FloatKind.f64 0, Value.string { data := #[] }, Value.slice none 0 0, Value.slice (some { block := rg, off := 0 }) n rc, Value.bool false, Value.string { data := #[] }, Value.int IntKind.u8 4, Value.pointer p, Value.pointer q])) (Value.agg #[Value.string { data := #[] }, Value.float FloatKind.f64 0, Value.string { data := #[] }, Value.slice none 0 0, Value.slice (some { block := rg, off := 0 }) n rc, Value.bool false, Value.string { data := #[] }, Value.int IntKind.u8 4, Value.pointer p, Value.pointer q]) (Value.pointer (some { block := L, off := 0 })) (Value.pointer (some { block := b1, off := 0 })) (Value.pointer (some { block := b1, off := 0 })) (Value.pointer (some { block := b1, off := 3 })) (Value.iface 84 (Value.agg #[Value.string { data := #[] }, Value.float FloatKind.f64 0, Value.string { data := #[] }, Value.slice none 0 0, Value.slice (some { block := sg, off := 0 }) n sc, Value.bool false, Value.string { data := #[] }, Value.int IntKind.u8 4, Value.pointer p2, Value.pointer q2])) (Value.agg #[Value.string { data := #[] }, Value.float FloatKind.f64 0, Value.string { data := #[] }, Value.slice none 0 0, Value.slice (some { block := sg, off := 0 }) n sc, Value.bool false, Value.string { data := #[] }, Value.int IntKind.u8 4, Value.pointer p2, Value.pointer q2]) x9 x10 x34 x35 x36 x37 ∧ RunA (.agg #[.string ⟨#[]⟩, .float .f64 0, .string ⟨#[]⟩, .slice none 0 0, .slice (some ⟨rg, 0, none⟩) n rc, .bool false, .string ⟨#[]⟩, .int .u8 4, .pointer p, .pointer q]) (.agg #[.string ⟨#[]⟩, .float .f64 0, .string ⟨#[]⟩, .slice none 0 0, .slice (some ⟨sg, 0, none⟩) n sc, .bool false, .string ⟨#[]⟩, .int .u8 4, .pointer p2, .pointer q2]) ((xs.map iA).map Atom.facells) ((ys.map iA).map Atom.facells) w0 x9 x10 x34 x35 x36 x37 l w') ?_ ?_ _ _ _ _ (by rfl) ?_ (by decide)
    · rintro l a w i hl ⟨x9, x10, x34, x35, x36, x37, rfl, J⟩ hi
      have hrs := ready_spec hi
      have hi6 : i < 6 := hrs.1
      have hoff := off1 hrs.2.1
      have hix : i = 0 ∨ i = 1 ∨ i = 2 ∨ i = 3 ∨ i = 4 ∨ i = 5 := by omega
      clear hi hi6
      rcases hix with rfl | rfl | rfl | rfl | rfl | rfl
      · have hk := HK1.out.below J.bel l1k
        have c0 := hk.get 0 rfl
        have c1 := hk.get 1 rfl
        have c2 := hk.get 2 rfl
        have c3 := hk.get 3 rfl
        have c4 := hk.get 4 rfl
        have c5 := hk.get 5 rfl
        have c6 := hk.get 6 rfl
        have c7 := hk.get 7 rfl
        have c8 := hk.get 8 rfl
        have c9 := hk.get 9 rfl
        clear hk
        refine wpOp_step rfl (fun K hK => ?_)
        unfold frA
        go_simp
        refine hK _ _ ?_
        exact ⟨_, _, _, _, _, _, rfl, ⟨J.bel, fun _ => rfl, fun h => J.r1 (gl h (by decide)), fun h => J.r2 (gl h (by decide)), fun h => J.r3 (gl h (by decide)), fun h => ⟨up (J.r4 (gl h (by decide))).1, (J.r4 (gl h (by decide))).2⟩, fun h => ⟨up (J.r5 (gl h (by decide))).1, (J.r5 (gl h (by decide))).2⟩⟩⟩
      · have e0 := J.r0 (dep_of (hrs.2.2 _ rfl) 0 rfl rfl)
        subst e0
        refine wpOp_step rfl (fun K hK => ?_)
        unfold frA
        go_simp
        refine (toList_mat (xs.map iA) HXL.out HXN.out _ p q w ((HT.out.keep HB0.out).keep J.bel)).mono ?_
        rintro e w' ⟨v', rfl, ha, hb⟩
        dsimp only
        refine hK _ _ ?_
        exact ⟨_, _, _, _, _, _, rfl, ⟨J.bel.trans (hb.mono J.bel.size), fun h => J.r0 (gl h (by decide)), fun _ => ha.base (Nat.zero_le _), fun h => J.r2 (gl h (by decide)), fun h => (J.r3 (gl h (by decide))).keep hb, fun h => absurd (J.r4 (gl h (by decide))).1 hoff, fun h => ⟨up (J.r5 (gl h (by decide))).1, (J.r5 (gl h (by decide))).2⟩⟩⟩
      · have hk := HK2.out.below J.bel l2k
        have c0 := hk.get 0 rfl
        have c1 := hk.get 1 rfl
        have c2 := hk.get 2 rfl
        have c3 := hk.get 3 rfl
        have c4 := hk.get 4 rfl
        have c5 := hk.get 5 rfl
        have c6 := hk.get 6 rfl
        have c7 := hk.get 7 rfl
        have c8 := hk.get 8 rfl
        have c9 := hk.get 9 rfl
        clear hk
        refine wpOp_step rfl (fun K hK => ?_)
        unfold frA
        go_simp
        refine hK _ _ ?_
        exact ⟨_, _, _, _, _, _, rfl, ⟨J.bel, fun h => J.r0 (gl h (by decide)), fun h => J.r1 (gl h (by decide)), fun _ => rfl, fun h => J.r3 (gl h (by decide)), fun h => ⟨up (J.r4 (gl h (by decide))).1, (J.r4 (gl h (by decide))).2⟩, fun h => ⟨up (J.r5 (gl h (by decide))).1, (J.r5 (gl h (by decide))).2⟩⟩⟩
      · have e2 := J.r2 (dep_of (hrs.2.2 _ rfl) 0 rfl rfl)
        subst e2
        refine wpOp_step rfl (fun K hK => ?_)
        unfold frA
        go_simp
        refine (toList_mat (ys.map iA) HYL.out HYN.out _ p2 q2 w ((HU.out.keep HB0.out).keep J.bel)).mono ?_
        rintro e w' ⟨v', rfl, ha, hb⟩
        dsimp only
        refine hK _ _ ?_
        exact ⟨_, _, _, _, _, _, rfl, ⟨J.bel.trans (hb.mono J.bel.size), fun h => J.r0 (gl h (by decide)), fun h => (J.r1 (gl h (by decide))).keep hb, fun h => J.r2 (gl h (by decide)), fun _ => ha.base (Nat.zero_le _), fun h => ⟨up (J.r4 (gl h (by decide))).1, (J.r4 (gl h (by decide))).2⟩, fun h => absurd (J.r5 (gl h (by decide))).1 hoff⟩⟩
      · have hC : On1 l 1 := dep_of (hrs.2.2 _ rfl) 0 rfl rfl
        refine wpOp_step rfl (fun K hK => ?_)
        unfold frA
        go_simp
        refine hK _ _ ?_
        exact ⟨_, _, _, _, _, _, rfl, ⟨J.bel, fun h => J.r0 (gl h (by decide)), fun h => J.r1 (gl h (by decide)), fun h => J.r2 (gl h (by decide)), fun h => J.r3 (gl h (by decide)), fun _ => ⟨up hC, rfl⟩, fun h => ⟨up (J.r5 (gl h (by decide))).1, (J.r5 (gl h (by decide))).2⟩⟩⟩
      · have hC : On1 l 3 := dep_of (hrs.2.2 _ rfl) 0 rfl rfl
        refine wpOp_step rfl (fun K hK => ?_)
        unfold frA
        go_simp
        refine hK _ _ ?_
        exact ⟨_, _, _, _, _, _, rfl, ⟨J.bel, fun h => J.r0 (gl h (by decide)), fun h => J.r1 (gl h (by decide)), fun h => J.r2 (gl h (by decide)), fun h => J.r3 (gl h (by decide)), fun h => ⟨up (J.r4 (gl h (by decide))).1, (J.r4 (gl h (by decide))).2⟩, fun _ => ⟨up hC, rfl⟩⟩⟩
    · rintro l a w hl ⟨x9, x10, x34, x35, x36, x37, rfl, J⟩ hd
      have h0 : On1 l 0 := on_alln hl (by omega) (not_ready hd (i := 0) rfl (by decide) (by simp [Region.binds]))
      have q0 : l[0]?.getD false = true := by have := h0; unfold On1 at this; rwa [Array.getD_eq_getD_getElem?] at this
      have h1 : On1 l 1 := on_alln hl (by omega) (not_ready hd (i := 1) rfl (by decide) (by simp [Region.binds, q0]))
      have q1 : l[1]?.getD false = true := by have := h1; unfold On1 at this; rwa [Array.getD_eq_getD_getElem?] at this
      have h2 : On1 l 2 := on_alln hl (by omega) (not_ready hd (i := 2) rfl (by decide) (by simp [Region.binds]))
      have q2 : l[2]?.getD false = true := by have := h2; unfold On1 at this; rwa [Array.getD_eq_getD_getElem?] at this
      have h3 : On1 l 3 := on_alln hl (by omega) (not_ready hd (i := 3) rfl (by decide) (by simp [Region.binds, q1, q2]))
      have q3 : l[3]?.getD false = true := by have := h3; unfold On1 at this; rwa [Array.getD_eq_getD_getElem?] at this
      have h4 : On1 l 4 := on_alln hl (by omega) (not_ready hd (i := 4) rfl (by decide) (by simp [Region.binds, q0, q1, q3]))
      have q4 : l[4]?.getD false = true := by have := h4; unfold On1 at this; rwa [Array.getD_eq_getD_getElem?] at this
      have h5 : On1 l 5 := on_alln hl (by omega) (not_ready hd (i := 5) rfl (by decide) (by simp [Region.binds, q0, q1, q2, q3, q4]))
      have q5 : l[5]?.getD false = true := by have := h5; unfold On1 at this; rwa [Array.getD_eq_getD_getElem?] at this
      obtain ⟨_, e9⟩ := J.r4 h4
      obtain ⟨_, e10⟩ := J.r5 h5
      have e34 := J.r0 h0
      have e36 := J.r2 h2
      subst e9 e10 e34 e36
      exact ⟨rfl, _, _, rfl, J.r1 h1, J.r3 h3, J.bel⟩
    · refine ⟨undef, undef, undef, undef, undef, undef, rfl, ⟨⟨rfl, rfl, rfl, Nat.le_refl _, fun _ _ => rfl⟩, fun h => absurd h (by decide), fun h => absurd h (by decide), fun h => absurd h (by decide), fun h => absurd h (by decide), fun h => absurd h (by decide), fun h => absurd h (by decide)⟩⟩
set_option maxRecDepth 20000 in
set_option maxHeartbeats 8000000 in
theorem sumx_M (xs ys : List Int) (n : Nat) (hx : xs.length = n) (hy : ys.length = n) (h0 : 0 < n) (hn : n ≤ 50) (okx : SmallInts xs) (oky : SmallInts ys) (F : Value) (B L b0 b1 rg rc sg sc : Nat) (p q p2 q2 : Option Addr) (w : World)
    (hil : IsList B w L [b0, b1] [.iface 84 (.agg #[.string ⟨#[]⟩, .float .f64 0, .string ⟨#[]⟩, .slice none 0 0, .slice (some ⟨rg, 0, none⟩) n rc, .bool false, .string ⟨#[]⟩, .int .u8 4, .pointer p, .pointer q]), .iface 84 (.agg #[.string ⟨#[]⟩, .float .f64 0, .string ⟨#[]⟩, .slice none 0 0, .slice (some ⟨sg, 0, none⟩) n sc, .bool false, .string ⟨#[]⟩, .int .u8 4, .pointer p2, .pointer q2])]) (ht : Tab 0 w 79 84 10 (.slice (some ⟨rg, 0, none⟩) n rc) ((xs.map iA).map fun a => [a.facells])) (hu : Tab 0 w 79 84 10 (.slice (some ⟨sg, 0, none⟩) n sc) ((ys.map iA).map fun a => [a.facells])) :
    Calls Tryz.prog 106 #[F, .string ⟨#[83, 85, 77, 88, 50, 77, 89, 50]⟩, .pointer (some ⟨L, 0, none⟩)] w (Gives (fun r => r = .num (fx (tot fM xs ys) 0)) w) := by
  obtain ⟨c0, l0⟩ := hil.at3 0 rfl rfl
  obtain ⟨c1, l1⟩ := hil.at3 1 rfl rfl
  have m0 := lt_k l0
  have m1 := lt_k l1
  have HIL := Lib.hid hil
  have HT := Lib.hid ht
  have HU := Lib.hid hu
  have HX := Lib.hid hx
  have HY := Lib.hid hy
  have HOX := Lib.hid okx
  have HOY := Lib.hid oky
  have HXL := Lib.hid (show (xs.map iA).length ≤ 100 by rw [List.length_map]; omega)
  have HYL := Lib.hid (show (ys.map iA).length ≤ 100 by rw [List.length_map]; omega)
  have HXN := Lib.hid (show xs.map iA ≠ [] by intro h; rw [List.map_eq_nil_iff] at h; rw [h] at hx; simp at hx; omega)
  have HYN := Lib.hid (show ys.map iA ≠ [] by intro h; rw [List.map_eq_nil_iff] at h; rw [h] at hy; simp at hy; omega)
  clear hil ht hu hx hy okx oky
  go_enter Tryz.func106, Tryz.ntmps106
  go_wp2_with (first | (go_at_call 110; refine (len2 _ _ _ _ _ _ _ (HIL.out.keep (by go_grown))).mono ?_; rintro e w2 ⟨rfl, rfl⟩) | (go_at_call 112; refine (front_any _ _ _ _ _ _ _ (HIL.out.keep (by go_grown))).mono ?_; rintro e w2 ⟨rfl, rfl⟩) | (go_at_call 134; refine (back2 _ _ _ _ _ _ _ (HIL.out.keep (by go_grown))).mono ?_; rintro e w2 ⟨rfl, rfl⟩))
  clear c0 c1 m0 m1
  refine abs_wp (fun w' => Blk w' w.heap.size 84 [.string ⟨#[]⟩, .float .f64 0, .string ⟨#[]⟩, .slice none 0 0, .slice none 0 0, .bool false, .string ⟨#[]⟩, .int .u8 0, .pointer none, .pointer none] ∧ Blk w' (w.heap.size + 1) 84 [.string ⟨#[]⟩, .float .f64 0, .string ⟨#[]⟩, .slice none 0 0, .slice (some ⟨rg, 0, none⟩) n rc, .bool false, .string ⟨#[]⟩, .int .u8 4, .pointer p, .pointer q] ∧ Blk w' (w.heap.size + 1 + 1) 84 [.string ⟨#[]⟩, .float .f64 0, .string ⟨#[]⟩, .slice none 0 0, .slice (some ⟨sg, 0, none⟩) n sc, .bool false, .string ⟨#[]⟩, .int .u8 4, .pointer p2, .pointer q2] ∧ Below w.heap.size w w') ⟨((Blk.new w 84 _).alloc _).alloc _, (blk_at (by simp) (Blk.new (w.alloc _) 84 _)).alloc _, blk_at (by simp) (Blk.new ((w.alloc _).alloc _) 84 _), by go_grown⟩ ?_
  rintro w0 ⟨hk0, hk1, hk2, hb0⟩
  have HK0 := Lib.hid hk0
  have HK1 := Lib.hid hk1
  have HK2 := Lib.hid hk2
  have HB0 := Lib.hid hb0
  have l0k := hk0.lt
  have l1k := hk1.lt
  have l2k := hk2.lt
  clear hk0 hk1 hk2 hb0 l0 l1
  refine Code.wp_mono (Q := fun e a w' => e = .normal ∧ ∃ v0 v1, a = frA (F) (Value.string ⟨#[83, 85, 77, 88, 50, 77, 89, 50]⟩) (Value.pointer (some { block := L, off := 0 })) (Value.pointer (some { block := w.heap.size, off := 0 })) (Value.pointer (some { block := w.heap.size + 1, off := 0 })) (Value.pointer (some { block := w.heap.size + 1 + 1, off := 0 })) (Value.pointer (some { block := L, off := 0 })) (Value.int IntKind.i64 2) (Value.bool false) (Value.pointer (some { block := L, off := 0 })) (Value.pointer (some { block := b0, off := 0 })) (Value.pointer (some { block := b0, off := 0 })) (Value.pointer (some { block := b0, off := 3 })) (Value.iface 84 (Value.agg #[Value.string { data := #[] }, Value.float FloatKind.f64 0, Value.string { data := #[] }, Value.slice none 0 0, Value.slice (some { block := rg, off := 0 }) n rc, Value.bool false, Value.string { data := #[] }, Value.int IntKind.u8 4, Value.pointer p, Value.pointer q])) (Value.agg #[Value.string { data := #[] }, Value.float FloatKind.f64 0, Value.string { data := #[] }, Value.slice none 0 0, Value.slice (some { block := rg, off := 0 }) n rc, Value.bool false, Value.string { data := #[] }, Value.int IntKind.u8 4, Value.pointer p, Value.pointer q]) (Value.pointer (some { block := L, off := 0 })) (Value.pointer (some { block := b1, off := 0 })) (Value.pointer (some { block := b1, off := 0 })) (Value.pointer (some { block := b1, off := 3 })) (Value.iface 84 (Value.agg #[Value.string { data := #[] }, Value.float FloatKind.f64 0, Value.string { data := #[] }, Value.slice none 0 0, Value.slice (some { block := sg, off := 0 }) n sc, Value.bool false, Value.string { data := #[] }, Value.int IntKind.u8 4, Value.pointer p2, Value.pointer q2])) (Value.agg #[Value.string { data := #[] }, Value.float FloatKind.f64 0, Value.string { data := #[] }, Value.slice none 0 0, Value.slice (some { block := sg, off := 0 }) n sc, Value.bool false, Value.string { data := #[] }, Value.int IntKind.u8 4, Value.pointer p2, Value.pointer q2]) v0 v1 (.agg #[.string ⟨#[]⟩, .float .f64 0, .string ⟨#[]⟩, .slice none 0 0, .slice (some ⟨rg, 0, none⟩) n rc, .bool false, .string ⟨#[]⟩, .int .u8 4, .pointer p, .pointer q]) v0 (.agg #[.string ⟨#[]⟩, .float .f64 0, .string ⟨#[]⟩, .slice none 0 0, .slice (some ⟨sg, 0, none⟩) n sc, .bool false, .string ⟨#[]⟩, .int .u8 4, .pointer p2, .pointer q2]) v1 ∧ Arr 0 w' 84 10 v0 ((xs.map iA).map Atom.facells) ∧ Arr 0 w' 84 10 v1 ((ys.map iA).map Atom.facells) ∧ Below w0.heap.size w0 w') ?_ ?_
  · rintro _ a w2 ⟨rfl, v0, v1, rfl, ha, hb, hbl⟩
    unfold frA
    have HA := Lib.hid ha
    have HBB := Lib.hid hb
    have HB2 := Lib.hid hbl
    obtain ⟨ga, ca, rfl⟩ : ∃ ga ca, v0 = .slice (some ⟨ga, 0, none⟩) n ca := (by
      rcases ha.shape with ⟨_, h⟩ | ⟨g, c, h, _⟩
      · exact absurd (List.map_eq_nil_iff.1 h) HXN.out
      · exact ⟨g, c, by rw [h, List.length_map, List.length_map, HX.out]⟩)
    obtain ⟨gb, cb, rfl⟩ : ∃ ga ca, v1 = .slice (some ⟨ga, 0, none⟩) n ca := (by
      rcases hb.shape with ⟨_, h⟩ | ⟨g, c, h, _⟩
      · exact absurd (List.map_eq_nil_iff.1 h) HYN.out
      · exact ⟨g, c, by rw [h, List.length_map, List.length_map, HY.out]⟩)
    clear ha hb hbl
    go_wp2_with fail
    go_loopw [12, 13] (fun a i wr => ∃ k : Nat, k ≤ n ∧ i = .int .i64 k ∧ a = .float .f64 (fx (tot fM (xs.take k) (ys.take k)) 0) ∧ Below w2.heap.size w2 wr) (fun _ i _ => n - (intOf i).toNat)
    case atStart => exact ⟨0, Nat.zero_le _, rfl, congrArg _ (fx_zero 0).symm, Below.refl _ _⟩
    case round =>
      obtain ⟨k, hk, rfl, rfl, hbk⟩ := hrel
      have HBK := Lib.hid hbk
      clear hbk
      by_cases hlt : k < n
      · obtain ⟨x, hx⟩ := one_at HX.out hlt
        obtain ⟨y, hy⟩ := one_at HY.out hlt
        obtain ⟨bx, hbx⟩ : ∃ b, b = fx x 0 := ⟨_, rfl⟩
        obtain ⟨by_, hby⟩ : ∃ b, b = fx y 0 := ⟨_, rfl⟩
        have hxr := HOX.out x (List.mem_of_getElem? hx)
        have hyr := HOY.out y (List.mem_of_getElem? hy)
        have HGX : Hid (Good bx) := (by show Good bx; rw [hbx]; exact good_fx (by omega))
        have HGY : Hid (Good by_) := (by show Good by_; rw [hby]; exact good_fx (by omega))
        have hax : ((xs.map iA).map Atom.facells)[k]? = some [.string ⟨#[]⟩, .float .f64 bx, .string ⟨#[]⟩, .slice none 0 0, .slice none 0 0, .bool false, .string ⟨#[]⟩, .int .u8 1, .pointer none, .pointer none] := (by rw [List.getElem?_map, List.getElem?_map, hx, hbx]; rfl)
        have hay : ((ys.map iA).map Atom.facells)[k]? = some [.string ⟨#[]⟩, .float .f64 by_, .string ⟨#[]⟩, .slice none 0 0, .slice none 0 0, .bool false, .string ⟨#[]⟩, .int .u8 1, .pointer none, .pointer none] := (by rw [List.getElem?_map, List.getElem?_map, hy, hby]; rfl)
        have HAX := Lib.hid hax
        have HAY := Lib.hid hay
        have HA2 := Lib.hid (HA.out.keep HBK.out)
        have HBB2 := Lib.hid (HBB.out.keep HBK.out)
        have HXK := Lib.hid hx
        have HYK := Lib.hid hy
        have htot := tot_snoc fM hx hy
        have hle := tot_le fM fM_le HOX.out HOY.out (by rw [HX.out]; exact hn) k
        have hfl := fM_le x y (by omega) (by omega)
        obtain ⟨bs1, hbs1⟩ : ∃ b, b = fx (tot fM (xs.take k) (ys.take k)) 0 := ⟨_, rfl⟩
        obtain ⟨bs2, hbs2⟩ : ∃ b, b = fx (tot fM (xs.take (k + 1)) (ys.take (k + 1))) 0 := ⟨_, rfl⟩
        obtain ⟨bz, hbz⟩ : ∃ b, b = fx (fM x y) 0 := ⟨_, rfl⟩
        have hadd := add_tot (a := tot fM (xs.take k) (ys.take k)) (b := fM x y) (c := tot fM (xs.take (k + 1)) (ys.take (k + 1))) (by omega) (by omega) htot
        have hox := order_int0 (x := x) (by omega) hxr.2.2
        have hoy := order_int0 (x := y) (by omega) hyr.2.2
        rw [← hbs1, ← hbs2, ← hbz] at hadd
        rw [← hbx] at hox
        rw [← hby] at hoy
        rw [← hbs1]
        have HB2F := Lib.hid hbs2
        have hmx := mul_ints (a := x) (b := x) (c := x * x) (by omega) (by omega) (.inl ⟨hxr.2.2, hxr.2.2⟩) rfl
        have hmy := mul_ints (a := y) (b := y) (c := y * y) (by omega) (by omega) (.inl ⟨hyr.2.2, hyr.2.2⟩) rfl
        have qx := sq_999 (x := x) (by omega)
        have qy := sq_999 (x := y) (by omega)
        have hop := sub_ints (a := x * x) (b := y * y) (c := fM x y) (by omega) (by omega) (Int.mul_ne_zero hyr.2.2 hyr.2.2) rfl
        obtain ⟨bxx, hbxx⟩ : ∃ b, b = fx (x * x) 0 := ⟨_, rfl⟩
        obtain ⟨byy, hbyy⟩ : ∃ b, b = fx (y * y) 0 := ⟨_, rfl⟩
        rw [← hbx, ← hbxx] at hmx
        rw [← hby, ← hbyy] at hmy
        rw [← hbxx, ← hbyy, ← hbz] at hop
        clear hbxx hbyy qx qy
        clear htot hle hfl hbs1 hbs2 hbz
        clear hax hay hx hy hxr hyr hbx hby
        go_wp2_with fail
        refine Code.wp_mono (Q := fun e a w' => e = .normal ∧ ∃ g14 g15, a = frB (F) (Value.string ⟨#[83, 85, 77, 88, 50, 77, 89, 50]⟩) (Value.pointer (some { block := L, off := 0 })) (Value.pointer (some { block := w.heap.size, off := 0 })) (Value.pointer (some { block := w.heap.size + 1, off := 0 })) (Value.pointer (some { block := w.heap.size + 1 + 1, off := 0 })) (Value.slice (some { block := ga, off := 0 }) n ca) (Value.slice (some { block := gb, off := 0 }) n cb) (Value.int IntKind.i64 ↑n) (.float .f64 bs1) (Value.int IntKind.i64 ↑k) (Value.pointer (some { block := L, off := 0 })) (Value.int IntKind.i64 2) (Value.bool false) (Value.pointer (some { block := L, off := 0 })) (Value.pointer (some { block := b0, off := 0 })) (Value.pointer (some { block := b0, off := 0 })) (Value.pointer (some { block := b0, off := 3 })) (Value.iface 84 (Value.agg #[Value.string { data := #[] }, Value.float FloatKind.f64 0, Value.string { data := #[] }, Value.slice none 0 0, Value.slice (some { block := rg, off := 0 }) n rc, Value.bool false, Value.string { data := #[] }, Value.int IntKind.u8 4, Value.pointer p, Value.pointer q])) (Value.agg #[Value.string { data := #[] }, Value.float FloatKind.f64 0, Value.string { data := #[] }, Value.slice none 0 0, Value.slice (some { block := rg, off := 0 }) n rc, Value.bool false, Value.string { data := #[] }, Value.int IntKind.u8 4, Value.pointer p, Value.pointer q]) (Value.pointer (some { block := L, off := 0 })) (Value.pointer (some { block := b1, off := 0 })) (Value.pointer (some { block := b1, off := 0 })) (Value.pointer (some { block := b1, off := 3 })) (Value.iface 84 (Value.agg #[Value.string { data := #[] }, Value.float FloatKind.f64 0, Value.string { data := #[] }, Value.slice none 0 0, Value.slice (some { block := sg, off := 0 }) n sc, Value.bool false, Value.string { data := #[] }, Value.int IntKind.u8 4, Value.pointer p2, Value.pointer q2])) (Value.agg #[Value.string { data := #[] }, Value.float FloatKind.f64 0, Value.string { data := #[] }, Value.slice none 0 0, Value.slice (some { block := sg, off := 0 }) n sc, Value.bool false, Value.string { data := #[] }, Value.int IntKind.u8 4, Value.pointer p2, Value.pointer q2]) (Value.agg #[Value.string { data := #[] }, Value.float FloatKind.f64 0, Value.string { data := #[] }, Value.slice none 0 0, Value.slice (some { block := rg, off := 0 }) n rc, Value.bool false, Value.string { data := #[] }, Value.int IntKind.u8 4, Value.pointer p, Value.pointer q]) (Value.slice (some { block := ga, off := 0 }) n ca) (Value.agg #[Value.string { data := #[] }, Value.float FloatKind.f64 0, Value.string { data := #[] }, Value.slice none 0 0, Value.slice (some { block := sg, off := 0 }) n sc, Value.bool false, Value.string { data := #[] }, Value.int IntKind.u8 4, Value.pointer p2, Value.pointer q2]) (Value.slice (some { block := gb, off := 0 }) n cb) (Value.slice (some { block := ga, off := 0 }) n ca) (Value.int IntKind.i64 ↑n) (Value.int IntKind.i64 ↑n) (Value.slice (some { block := gb, off := 0 }) n cb) (Value.int IntKind.i64 ↑n) (Value.bool false) (Value.int IntKind.i64 ↑k) (Value.int IntKind.i64 ↑n) (Value.bool true) (u48) (u49) (u60) (u61) (u62) (u63) (u64) (u65) (u66) (u67) (u68) (u69) (u70) (u71) (u72) (u73) (u74) (u75) (u76) (u77) (u78) (u79) (u80) (u81) (u82) (u83) (u84) (u85) (u86) (u87) (u88) (u89) (u90) (u91) (u92) (u93) (u94) (u95) (u96) (u97) (u98) (u99) (u100) (u101) (u102) (u103) (u104) (u105) (u106) (u107) (u108) (u109) (u110) (u111) (.pointer (some ⟨g14, 0, none⟩)) (.pointer (some ⟨g15, 0, none⟩)) (.slice (some ⟨ga, 0, none⟩) n ca) (.int .i64 k) (.pointer (some ⟨ga, k * 10, none⟩)) (.agg #[.string ⟨#[]⟩, .float .f64 bx, .string ⟨#[]⟩, .slice none 0 0, .slice none 0 0, .bool false, .string ⟨#[]⟩, .int .u8 1, .pointer none, .pointer none]) (.agg #[.string ⟨#[]⟩, .float .f64 bx, .string ⟨#[]⟩, .slice none 0 0, .slice none 0 0, .bool false, .string ⟨#[]⟩, .int .u8 1, .pointer none, .pointer none]) (.slice (some ⟨gb, 0, none⟩) n cb) (.int .i64 k) (.pointer (some ⟨gb, k * 10, none⟩)) (.agg #[.string ⟨#[]⟩, .float .f64 by_, .string ⟨#[]⟩, .slice none 0 0, .slice none 0 0, .bool false, .string ⟨#[]⟩, .int .u8 1, .pointer none, .pointer none]) (.agg #[.string ⟨#[]⟩, .float .f64 by_, .string ⟨#[]⟩, .slice none 0 0, .slice none 0 0, .bool false, .string ⟨#[]⟩, .int .u8 1, .pointer none, .pointer none]) ∧ Blk w' g14 84 [.string ⟨#[]⟩, .float .f64 bx, .string ⟨#[]⟩, .slice none 0 0, .slice none 0 0, .bool false, .string ⟨#[]⟩, .int .u8 1, .pointer none, .pointer none] ∧ Blk w' g15 84 [.string ⟨#[]⟩, .float .f64 by_, .string ⟨#[]⟩, .slice none 0 0, .slice none 0 0, .bool false, .string ⟨#[]⟩, .int .u8 1, .pointer none, .pointer none] ∧ Below wr.heap.size wr w') ?_ ?_
        · rintro _ a w3 ⟨rfl, g14, g15, rfl, z14, z15, hbl⟩
          unfold frB
          have l14 := z14.lt
          have l15 := z15.lt
          have e14 := z14.get 1 rfl
          have e15 := z15.get 1 rfl
          have HB3 := Lib.hid hbl
          clear z14 z15 hbl
          rcases hox with hox | hox <;> rcases hoy with hoy | hoy
          all_goals
            go_wp2_with fail
            exact ⟨⟨k + 1, by omega, by go_num, by rw [HB2F.out], HBK.out.trans (HB3.out.mono HBK.out.size)⟩, by simp [intOf]; omega⟩
        · clear HX HY HIL HOX HOY HB0
          refine wp_region_any (by kernel_rfl) ?_
          refine wpAny_inv (n := 14) (fun l a w' => ∃ x14 x15 x50 x51 x52 x53 x54 x55 x56 x57 x58 x59, a = frB (F) (Value.string ⟨#[83, 85, 77, 88, 50, 77, 89, 50]⟩) (Value.pointer (some { block := L, off := 0 })) (Value.pointer (some { block := w.heap.size, off := 0 })) (Value.pointer (some { block := w.heap.size + 1, off := 0 })) (Value.pointer (some { block := w.heap.size + 1 + 1, off := 0 })) (Value.slice (some { block := ga, off := 0 }) n ca) (Value.slice (some { block := gb, off := 0 }) n cb) (Value.int IntKind.i64 ↑n) (.float .f64 bs1) (Value.int IntKind.i64 ↑k) (Value.pointer (some { block := L, off := 0 })) (Value.int IntKind.i64 2) (Value.bool false) (Value.pointer (some { block := L, off := 0 })) (Value.pointer (some { block := b0, off := 0 })) (Value.pointer (some { block := b0, off := 0 })) (Value.pointer (some { block := b0, off := 3 })) (Value.iface 84 (Value.agg #[Value.string { data := #[] }, Value.float FloatKind.f64 0, Value.string { data := #[] }, Value.slice none 0 0, Value.slice (some { block := rg, off := 0 }) n rc, Value.bool false, Value.string { data := #[] }, Value.int IntKind.u8 4, Value.pointer p, Value.pointer q])) (Value.agg #[Value.string { data := #[] }, Value.float FloatKind.f64 0, Value.string { data := #[] }, Value.slice none 0 0, Value.slice (some { block := rg, off := 0 }) n rc, Value.bool false, Value.string { data := #[] }, Value.int IntKind.u8 4, Value.pointer p, Value.pointer q]) (Value.pointer (some { block := L, off := 0 })) (Value.pointer (some { block := b1, off := 0 })) (Value.pointer (some { block := b1, off := 0 })) (Value.pointer (some { block := b1, off := 3 })) (Value.iface 84 (Value.agg #[Value.string { data := #[] }, Value.float FloatKind.f64 0, Value.string { data := #[] }, Value.slice none 0 0, Value.slice (some { block := sg, off := 0 }) n sc, Value.bool false, Value.string { data := #[] }, Value.int IntKind.u8 4, Value.pointer p2, Value.pointer q2])) (Value.agg #[Value.string { data := #[] }, Value.float FloatKind.f64 0, Value.string { data := #[] }, Value.slice none 0 0, Value.slice (some { block := sg, off := 0 }) n sc, Value.bool false, Value.string { data := #[] }, Value.int IntKind.u8 4, Value.pointer p2, Value.pointer q2]) (Value.agg #[Value.string { data := #[] }, Value.float FloatKind.f64 0, Value.string { data := #[] }, Value.slice none 0 0, Value.slice (some { block := rg, off := 0 }) n rc, Value.bool false, Value.string { data := #[] }, Value.int IntKind.u8 4, Value.pointer p, Value.pointer q]) (Value.slice (some { block := ga, off := 0 }) n ca) (Value.agg #[Value.string { data := #[] }, Value.float FloatKind.f64 0, Value.string { data := #[] }, Value.slice none 0 0, Value.slice (some { block := sg, off := 0 }) n sc, Value.bool false, Value.string { data := #[] }, Value.int IntKind.u8 4, Value.pointer p2, Value.pointer q2]) (Value.slice (some { block := gb, off := 0 }) n cb) (Value.slice (some { block := ga, off := 0 }) n ca) (Value.int IntKind.i64 ↑n) (Value.int IntKind.i64 ↑n) (Value.slice (some { block := gb, off := 0 }) n cb) (Value.int IntKind.i64 ↑n) (Value.bool false) (Value.int IntKind.i64 ↑k) (Value.int IntKind.i64 ↑n) (Value.bool true) (u48) (u49) (u60) (u61) (u62) (u63) (u64) (u65) (u66) (u67) (u68) (u69) (u70) (u71) (u72) (u73) (u74) (u75) (u76) (u77) (u78) (u79) (u80) (u81) (u82) (u83) (u84) (u85) (u86) (u87) (u88) (u89) (u90) (u91) (u92) (u93) (u94) (u95) (u96) (u97) (u98) (u99) (u100) (u101) (u102) (u103) (u104) (u105) (u106) (u107) (u108) (u109) (u110) (u111) x14 x15 x50 x51 x52 x53 x54 x55 x56 x57 x58 x59 ∧ RunB (.slice (some ⟨ga, 0, none⟩) n ca) (.slice (some ⟨gb, 0, none⟩) n cb) (.pointer (some ⟨ga, k * 10, none⟩)) (.pointer (some ⟨gb, k * 10, none⟩)) k bx by_ wr x14 x15 x50 x51 x52 x53 x54 x55 x56 x57 x58 x59 l w') ?_ ?_ _ _ _ _ (by rfl) ?_ (by decide)
          · rintro l a w i hl ⟨x14, x15, x50, x51, x52, x53, x54, x55, x56, x57, x58, x59, rfl, J⟩ hi
            have hrs := ready_spec hi
            have hi14 : i < 14 := hrs.1
            have hoff := off1 hrs.2.1
            have hix : i = 0 ∨ i = 1 ∨ i = 2 ∨ i = 3 ∨ i = 4 ∨ i = 5 ∨ i = 6 ∨ i = 7 ∨ i = 8 ∨ i = 9 ∨ i = 10 ∨ i = 11 ∨ i = 12 ∨ i = 13 := by omega
            clear hi hi14
            rcases hix with rfl | rfl | rfl | rfl | rfl | rfl | rfl | rfl | rfl | rfl | rfl | rfl | rfl | rfl
            · refine wpOp_step rfl (fun K hK => ?_)
              unfold frB
              go_simp
              refine hK _ _ ?_
              exact ⟨_, _, _, _, _, _, _, _, _, _, _, _, rfl, ⟨J.bel, fun _ => rfl, fun h => J.r1 (gl h (by decide)), fun h => J.r2 (gl h (by decide)), fun h => J.r3 (gl h (by decide)), fun h => J.r4 (gl h (by decide)), fun h => J.r5 (gl h (by decide)), fun h => J.r6 (gl h (by decide)), fun h => J.r7 (gl h (by decide)), fun h => J.r8 (gl h (by decide)), fun h => J.r9 (gl h (by decide)), fun h => (J.r10 (gl h (by decide))).keep (Below.refl _ _) (fun h => gl h (by decide)), fun h => (J.r11 (gl h (by decide))).keep (Below.refl _ _) (fun h => gl h (by decide)), fun h => ⟨up (J.r12 (gl h (by decide))).1, up (J.r12 (gl h (by decide))).2⟩, fun h => ⟨up (J.r13 (gl h (by decide))).1, up (J.r13 (gl h (by decide))).2⟩, fun h1 h2 => J.d10_11 (gl h1 (by decide)) (gl h2 (by decide))⟩⟩
            · refine wpOp_step rfl (fun K hK => ?_)
              unfold frB
              go_simp
              refine hK _ _ ?_
              exact ⟨_, _, _, _, _, _, _, _, _, _, _, _, rfl, ⟨J.bel, fun h => J.r0 (gl h (by decide)), fun _ => rfl, fun h => J.r2 (gl h (by decide)), fun h => J.r3 (gl h (by decide)), fun h => J.r4 (gl h (by decide)), fun h => J.r5 (gl h (by decide)), fun h => J.r6 (gl h (by decide)), fun h => J.r7 (gl h (by decide)), fun h => J.r8 (gl h (by decide)), fun h => J.r9 (gl h (by decide)), fun h => (J.r10 (gl h (by decide))).keep (Below.refl _ _) (fun h => gl h (by decide)), fun h => (J.r11 (gl h (by decide))).keep (Below.refl _ _) (fun h => gl h (by decide)), fun h => ⟨up (J.r12 (gl h (by decide))).1, up (J.r12 (gl h (by decide))).2⟩, fun h => ⟨up (J.r13 (gl h (by decide))).1, up (J.r13 (gl h (by decide))).2⟩, fun h1 h2 => J.d10_11 (gl h1 (by decide)) (gl h2 (by decide))⟩⟩
            · have e0 := J.r0 (dep_of (hrs.2.2 _ rfl) 0 rfl rfl)
              subst e0
              have e1 := J.r1 (dep_of (hrs.2.2 _ rfl) 1 rfl rfl)
              subst e1
              refine wpOp_step rfl (fun K hK => ?_)
              unfold frB
              go_simp
              refine hK _ _ ?_
              exact ⟨_, _, _, _, _, _, _, _, _, _, _, _, rfl, ⟨J.bel, fun h => J.r0 (gl h (by decide)), fun h => J.r1 (gl h (by decide)), fun _ => rfl, fun h => J.r3 (gl h (by decide)), fun h => J.r4 (gl h (by decide)), fun h => J.r5 (gl h (by decide)), fun h => J.r6 (gl h (by decide)), fun h => J.r7 (gl h (by decide)), fun h => J.r8 (gl h (by decide)), fun h => J.r9 (gl h (by decide)), fun h => (J.r10 (gl h (by decide))).keep (Below.refl _ _) (fun h => gl h (by decide)), fun h => (J.r11 (gl h (by decide))).keep (Below.refl _ _) (fun h => gl h (by decide)), fun h => ⟨up (J.r12 (gl h (by decide))).1, up (J.r12 (gl h (by decide))).2⟩, fun h => ⟨up (J.r13 (gl h (by decide))).1, up (J.r13 (gl h (by decide))).2⟩, fun h1 h2 => J.d10_11 (gl h1 (by decide)) (gl h2 (by decide))⟩⟩
            · have e2 := J.r2 (dep_of (hrs.2.2 _ rfl) 0 rfl rfl)
              subst e2
              have hk := HA2.out.keep J.bel
              have c0 := hk.cell0 HAX.out (u := .string ⟨#[]⟩) rfl
              have c1 := hk.cell HAX.out (j := 1) (u := .float .f64 bx) rfl
              have c2 := hk.cell HAX.out (j := 2) (u := .string ⟨#[]⟩) rfl
              have c3 := hk.cell HAX.out (j := 3) (u := .slice none 0 0) rfl
              have c4 := hk.cell HAX.out (j := 4) (u := .slice none 0 0) rfl
              have c5 := hk.cell HAX.out (j := 5) (u := .bool false) rfl
              have c6 := hk.cell HAX.out (j := 6) (u := .string ⟨#[]⟩) rfl
              have c7 := hk.cell HAX.out (j := 7) (u := .int .u8 1) rfl
              have c8 := hk.cell HAX.out (j := 8) (u := .pointer none) rfl
              have c9 := hk.cell HAX.out (j := 9) (u := .pointer none) rfl
              clear hk
              refine wpOp_step rfl (fun K hK => ?_)
              unfold frB
              go_simp
              refine hK _ _ ?_
              exact ⟨_, _, _, _, _, _, _, _, _, _, _, _, rfl, ⟨J.bel, fun h => J.r0 (gl h (by decide)), fun h => J.r1 (gl h (by decide)), fun h => J.r2 (gl h (by decide)), fun _ => rfl, fun h => J.r4 (gl h (by decide)), fun h => J.r5 (gl h (by decide)), fun h => J.r6 (gl h (by decide)), fun h => J.r7 (gl h (by decide)), fun h => J.r8 (gl h (by decide)), fun h => J.r9 (gl h (by decide)), fun h => (J.r10 (gl h (by decide))).keep (Below.refl _ _) (fun h => gl h (by decide)), fun h => (J.r11 (gl h (by decide))).keep (Below.refl _ _) (fun h => gl h (by decide)), fun h => ⟨up (J.r12 (gl h (by decide))).1, up (J.r12 (gl h (by decide))).2⟩, fun h => ⟨up (J.r13 (gl h (by decide))).1, up (J.r13 (gl h (by decide))).2⟩, fun h1 h2 => J.d10_11 (gl h1 (by decide)) (gl h2 (by decide))⟩⟩
            · have e3 := J.r3 (dep_of (hrs.2.2 _ rfl) 0 rfl rfl)
              subst e3
              refine wpOp_step rfl (fun K hK => ?_)
              unfold frB
              go_simp
              refine (toNum_lit bx HGX.out w).mono ?_
              rintro e w' ⟨rfl, hb⟩
              dsimp only
              refine hK _ _ ?_
              exact ⟨_, _, _, _, _, _, _, _, _, _, _, _, rfl, ⟨J.bel.trans (hb.mono J.bel.size), fun h => J.r0 (gl h (by decide)), fun h => J.r1 (gl h (by decide)), fun h => J.r2 (gl h (by decide)), fun h => J.r3 (gl h (by decide)), fun _ => rfl, fun h => J.r5 (gl h (by decide)), fun h => J.r6 (gl h (by decide)), fun h => J.r7 (gl h (by decide)), fun h => J.r8 (gl h (by decide)), fun h => J.r9 (gl h (by decide)), fun h => by obtain ⟨g, old, h1, h2, h3, h4, h5, h6⟩ := (J.r10 (gl h (by decide))).keep (st' := False) hb False.elim; exact ⟨g, old, h1, h2, h3, h4, h5, fun hs => absurd (J.r12 (gl hs (by decide))).1 hoff⟩, fun h => (J.r11 (gl h (by decide))).keep hb (fun h => gl h (by decide)), fun h => ⟨up (J.r12 (gl h (by decide))).1, up (J.r12 (gl h (by decide))).2⟩, fun h => ⟨up (J.r13 (gl h (by decide))).1, up (J.r13 (gl h (by decide))).2⟩, fun h1 h2 => J.d10_11 (gl h1 (by decide)) (gl h2 (by decide))⟩⟩
            · refine wpOp_step rfl (fun K hK => ?_)
              unfold frB
              go_simp
              refine hK _ _ ?_
              exact ⟨_, _, _, _, _, _, _, _, _, _, _, _, rfl, ⟨J.bel, fun h => J.r0 (gl h (by decide)), fun h => J.r1 (gl h (by decide)), fun h => J.r2 (gl h (by decide)), fun h => J.r3 (gl h (by decide)), fun h => J.r4 (gl h (by decide)), fun _ => rfl, fun h => J.r6 (gl h (by decide)), fun h => J.r7 (gl h (by decide)), fun h => J.r8 (gl h (by decide)), fun h => J.r9 (gl h (by decide)), fun h => (J.r10 (gl h (by decide))).keep (Below.refl _ _) (fun h => gl h (by decide)), fun h => (J.r11 (gl h (by decide))).keep (Below.refl _ _) (fun h => gl h (by decide)), fun h => ⟨up (J.r12 (gl h (by decide))).1, up (J.r12 (gl h (by decide))).2⟩, fun h => ⟨up (J.r13 (gl h (by decide))).1, up (J.r13 (gl h (by decide))).2⟩, fun h1 h2 => J.d10_11 (gl h1 (by decide)) (gl h2 (by decide))⟩⟩
            · refine wpOp_step rfl (fun K hK => ?_)
              unfold frB
              go_simp
              refine hK _ _ ?_
              exact ⟨_, _, _, _, _, _, _, _, _, _, _, _, rfl, ⟨J.bel, fun h => J.r0 (gl h (by decide)), fun h => J.r1 (gl h (by decide)), fun h => J.r2 (gl h (by decide)), fun h => J.r3 (gl h (by decide)), fun h => J.r4 (gl h (by decide)), fun h => J.r5 (gl h (by decide)), fun _ => rfl, fun h => J.r7 (gl h (by decide)), fun h => J.r8 (gl h (by decide)), fun h => J.r9 (gl h (by decide)), fun h => (J.r10 (gl h (by decide))).keep (Below.refl _ _) (fun h => gl h (by decide)), fun h => (J.r11 (gl h (by decide))).keep (Below.refl _ _) (fun h => gl h (by decide)), fun h => ⟨up (J.r12 (gl h (by decide))).1, up (J.r12 (gl h (by decide))).2⟩, fun h => ⟨up (J.r13 (gl h (by decide))).1, up (J.r13 (gl h (by decide))).2⟩, fun h1 h2 => J.d10_11 (gl h1 (by decide)) (gl h2 (by decide))⟩⟩
            · have e5 := J.r5 (dep_of (hrs.2.2 _ rfl) 0 rfl rfl)
              subst e5
              have e6 := J.r6 (dep_of (hrs.2.2 _ rfl) 1 rfl rfl)
              subst e6
              refine wpOp_step rfl (fun K hK => ?_)
              unfold frB
              go_simp
              refine hK _ _ ?_
              exact ⟨_, _, _, _, _, _, _, _, _, _, _, _, rfl, ⟨J.bel, fun h => J.r0 (gl h (by decide)), fun h => J.r1 (gl h (by decide)), fun h => J.r2 (gl h (by decide)), fun h => J.r3 (gl h (by decide)), fun h => J.r4 (gl h (by decide)), fun h => J.r5 (gl h (by decide)), fun h => J.r6 (gl h (by decide)), fun _ => rfl, fun h => J.r8 (gl h (by decide)), fun h => J.r9 (gl h (by decide)), fun h => (J.r10 (gl h (by decide))).keep (Below.refl _ _) (fun h => gl h (by decide)), fun h => (J.r11 (gl h (by decide))).keep (Below.refl _ _) (fun h => gl h (by decide)), fun h => ⟨up (J.r12 (gl h (by decide))).1, up (J.r12 (gl h (by decide))).2⟩, fun h => ⟨up (J.r13 (gl h (by decide))).1, up (J.r13 (gl h (by decide))).2⟩, fun h1 h2 => J.d10_11 (gl h1 (by decide)) (gl h2 (by decide))⟩⟩
            · have e7 := J.r7 (dep_of (hrs.2.2 _ rfl) 0 rfl rfl)
              subst e7
              have hk := HBB2.out.keep J.bel
              have c0 := hk.cell0 HAY.out (u := .string ⟨#[]⟩) rfl
              have c1 := hk.cell HAY.out (j := 1) (u := .float .f64 by_) rfl
              have c2 := hk.cell HAY.out (j := 2) (u := .string ⟨#[]⟩) rfl
              have c3 := hk.cell HAY.out (j := 3) (u := .slice none 0 0) rfl
              have c4 := hk.cell HAY.out (j := 4) (u := .slice none 0 0) rfl
              have c5 := hk.cell HAY.out (j := 5) (u := .bool false) rfl
              have c6 := hk.cell HAY.out (j := 6) (u := .string ⟨#[]⟩) rfl
              have c7 := hk.cell HAY.out (j := 7) (u := .int .u8 1) rfl
              have c8 := hk.cell HAY.out (j := 8) (u := .pointer none) rfl
              have c9 := hk.cell HAY.out (j := 9) (u := .pointer none) rfl
              clear hk
              refine wpOp_step rfl (fun K hK => ?_)
              unfold frB
              go_simp
              refine hK _ _ ?_
              exact ⟨_, _, _, _, _, _, _, _, _, _, _, _, rfl, ⟨J.bel, fun h => J.r0 (gl h (by decide)), fun h => J.r1 (gl h (by decide)), fun h => J.r2 (gl h (by decide)), fun h => J.r3 (gl h (by decide)), fun h => J.r4 (gl h (by decide)), fun h => J.r5 (gl h (by decide)), fun h => J.r6 (gl h (by decide)), fun h => J.r7 (gl h (by decide)), fun _ => rfl, fun h => J.r9 (gl h (by decide)), fun h => (J.r10 (gl h (by decide))).keep (Below.refl _ _) (fun h => gl h (by decide)), fun h => (J.r11 (gl h (by decide))).keep (Below.refl _ _) (fun h => gl h (by decide)), fun h => ⟨up (J.r12 (gl h (by decide))).1, up (J.r12 (gl h (by decide))).2⟩, fun h => ⟨up (J.r13 (gl h (by decide))).1, up (J.r13 (gl h (by decide))).2⟩, fun h1 h2 => J.d10_11 (gl h1 (by decide)) (gl h2 (by decide))⟩⟩
            · have e8 := J.r8 (dep_of (hrs.2.2 _ rfl) 0 rfl rfl)
              subst e8
              refine wpOp_step rfl (fun K hK => ?_)
              unfold frB
              go_simp
              refine (toNum_lit by_ HGY.out w).mono ?_
              rintro e w' ⟨rfl, hb⟩
              dsimp only
              refine hK _ _ ?_
              exact ⟨_, _, _, _, _, _, _, _, _, _, _, _, rfl, ⟨J.bel.trans (hb.mono J.bel.size), fun h => J.r0 (gl h (by decide)), fun h => J.r1 (gl h (by decide)), fun h => J.r2 (gl h (by decide)), fun h => J.r3 (gl h (by decide)), fun h => J.r4 (gl h (by decide)), fun h => J.r5 (gl h (by decide)), fun h => J.r6 (gl h (by decide)), fun h => J.r7 (gl h (by decide)), fun h => J.r8 (gl h (by decide)), fun _ => rfl, fun h => (J.r10 (gl h (by decide))).keep hb (fun h => gl h (by decide)), fun h => by obtain ⟨g, old, h1, h2, h3, h4, h5, h6⟩ := (J.r11 (gl h (by decide))).keep (st' := False) hb False.elim; exact ⟨g, old, h1, h2, h3, h4, h5, fun hs => absurd (J.r13 (gl hs (by decide))).1 hoff⟩, fun h => ⟨up (J.r12 (gl h (by decide))).1, up (J.r12 (gl h (by decide))).2⟩, fun h => ⟨up (J.r13 (gl h (by decide))).1, up (J.r13 (gl h (by decide))).2⟩, fun h1 h2 => J.d10_11 (gl h1 (by decide)) (gl h2 (by decide))⟩⟩
            · refine wpOp_step rfl (fun K hK => ?_)
              unfold frB
              go_simp
              refine hK _ _ ?_
              exact ⟨_, _, _, _, _, _, _, _, _, _, _, _, rfl, ⟨J.bel.alloc J.bel.size _, fun h => J.r0 (gl h (by decide)), fun h => J.r1 (gl h (by decide)), fun h => J.r2 (gl h (by decide)), fun h => J.r3 (gl h (by decide)), fun h => J.r4 (gl h (by decide)), fun h => J.r5 (gl h (by decide)), fun h => J.r6 (gl h (by decide)), fun h => J.r7 (gl h (by decide)), fun h => J.r8 (gl h (by decide)), fun h => J.r9 (gl h (by decide)), fun _ => ⟨w.heap.size, [.string ⟨#[]⟩, .float .f64 0, .string ⟨#[]⟩, .slice none 0 0, .slice none 0 0, .bool false, .string ⟨#[]⟩, .int .u8 0, .pointer none, .pointer none], rfl, J.bel.size, by simp, rfl, Blk.new w 84 [.string ⟨#[]⟩, .float .f64 0, .string ⟨#[]⟩, .slice none 0 0, .slice none 0 0, .bool false, .string ⟨#[]⟩, .int .u8 0, .pointer none, .pointer none], fun hs => absurd (J.r12 (gl hs (by decide))).2 hoff⟩, fun h => (J.r11 (gl h (by decide))).keep ((Below.refl _ _).alloc (Nat.le_refl _) _) (fun h => gl h (by decide)), fun h => ⟨up (J.r12 (gl h (by decide))).1, up (J.r12 (gl h (by decide))).2⟩, fun h => ⟨up (J.r13 (gl h (by decide))).1, up (J.r13 (gl h (by decide))).2⟩, fun _ h2 e => ((J.r11 (gl h2 (by decide))).ne (Nat.le_refl _)) e.symm⟩⟩
            · refine wpOp_step rfl (fun K hK => ?_)
              unfold frB
              go_simp
              refine hK _ _ ?_
              exact ⟨_, _, _, _, _, _, _, _, _, _, _, _, rfl, ⟨J.bel.alloc J.bel.size _, fun h => J.r0 (gl h (by decide)), fun h => J.r1 (gl h (by decide)), fun h => J.r2 (gl h (by decide)), fun h => J.r3 (gl h (by decide)), fun h => J.r4 (gl h (by decide)), fun h => J.r5 (gl h (by decide)), fun h => J.r6 (gl h (by decide)), fun h => J.r7 (gl h (by decide)), fun h => J.r8 (gl h (by decide)), fun h => J.r9 (gl h (by decide)), fun h => (J.r10 (gl h (by decide))).keep ((Below.refl _ _).alloc (Nat.le_refl _) _) (fun h => gl h (by decide)), fun _ => ⟨w.heap.size, [.string ⟨#[]⟩, .float .f64 0, .string ⟨#[]⟩, .slice none 0 0, .slice none 0 0, .bool false, .string ⟨#[]⟩, .int .u8 0, .pointer none, .pointer none], rfl, J.bel.size, by simp, rfl, Blk.new w 84 [.string ⟨#[]⟩, .float .f64 0, .string ⟨#[]⟩, .slice none 0 0, .slice none 0 0, .bool false, .string ⟨#[]⟩, .int .u8 0, .pointer none, .pointer none], fun hs => absurd (J.r13 (gl hs (by decide))).2 hoff⟩, fun h => ⟨up (J.r12 (gl h (by decide))).1, up (J.r12 (gl h (by decide))).2⟩, fun h => ⟨up (J.r13 (gl h (by decide))).1, up (J.r13 (gl h (by decide))).2⟩, fun h1 _ => (J.r10 (gl h1 (by decide))).ne (Nat.le_refl _)⟩⟩
            · have hC : On1 l 4 := dep_of (hrs.2.2 _ rfl) 1 rfl rfl
              have hA : On1 l 10 := dep_of (hrs.2.2 _ rfl) 0 rfl rfl
              have e4 := J.r4 hC
              subst e4
              obtain ⟨g, old, rfl, hg, hg2, hol, hbk, _⟩ := J.r10 hA
              refine wpOp_step rfl (fun K hK => ?_)
              refine step_row (by rfl) 84 (.tmp 14) (.tmp 54) (by rfl) g 84 old [.string ⟨#[]⟩, .float .f64 bx, .string ⟨#[]⟩, .slice none 0 0, .slice none 0 0, .bool false, .string ⟨#[]⟩, .int .u8 1, .pointer none, .pointer none] (by rfl) (by rfl) hbk size84 hol rfl wr.heap.size hg ?_
              intro w' hr' hb' hk'
              refine hK _ _ ?_
              exact ⟨_, _, _, _, _, _, _, _, _, _, _, _, rfl, ⟨J.bel.trans hb', fun h => J.r0 (gl h (by decide)), fun h => J.r1 (gl h (by decide)), fun h => J.r2 (gl h (by decide)), fun h => J.r3 (gl h (by decide)), fun h => J.r4 (gl h (by decide)), fun h => J.r5 (gl h (by decide)), fun h => J.r6 (gl h (by decide)), fun h => J.r7 (gl h (by decide)), fun h => J.r8 (gl h (by decide)), fun h => J.r9 (gl h (by decide)), fun _ => ⟨g, _, rfl, hg, hr'.lt, rfl, hr', fun _ => rfl⟩, fun h => (J.r11 (gl h (by decide))).far hk' (fun e => J.d10_11 hA (gl h (by decide)) e.symm) (fun h => gl h (by decide)), fun _ => ⟨up hC, up hA⟩, fun h => ⟨up (J.r13 (gl h (by decide))).1, up (J.r13 (gl h (by decide))).2⟩, fun h1 h2 => J.d10_11 (gl h1 (by decide)) (gl h2 (by decide))⟩⟩
            · have hC : On1 l 9 := dep_of (hrs.2.2 _ rfl) 1 rfl rfl
              have hA : On1 l 11 := dep_of (hrs.2.2 _ rfl) 0 rfl rfl
              have e9 := J.r9 hC
              subst e9
              obtain ⟨g, old, rfl, hg, hg2, hol, hbk, _⟩ := J.r11 hA
              refine wpOp_step rfl (fun K hK => ?_)
              refine step_row (by rfl) 84 (.tmp 15) (.tmp 59) (by rfl) g 84 old [.string ⟨#[]⟩, .float .f64 by_, .string ⟨#[]⟩, .slice none 0 0, .slice none 0 0, .bool false, .string ⟨#[]⟩, .int .u8 1, .pointer none, .pointer none] (by rfl) (by rfl) hbk size84 hol rfl wr.heap.size hg ?_
              intro w' hr' hb' hk'
              refine hK _ _ ?_
              exact ⟨_, _, _, _, _, _, _, _, _, _, _, _, rfl, ⟨J.bel.trans hb', fun h => J.r0 (gl h (by decide)), fun h => J.r1 (gl h (by decide)), fun h => J.r2 (gl h (by decide)), fun h => J.r3 (gl h (by decide)), fun h => J.r4 (gl h (by decide)), fun h => J.r5 (gl h (by decide)), fun h => J.r6 (gl h (by decide)), fun h => J.r7 (gl h (by decide)), fun h => J.r8 (gl h (by decide)), fun h => J.r9 (gl h (by decide)), fun h => (J.r10 (gl h (by decide))).far hk' (J.d10_11 (gl h (by decide)) hA) (fun h => gl h (by decide)), fun _ => ⟨g, _, rfl, hg, hr'.lt, rfl, hr', fun _ => rfl⟩, fun h => ⟨up (J.r12 (gl h (by decide))).1, up (J.r12 (gl h (by decide))).2⟩, fun _ => ⟨up hC, up hA⟩, fun h1 h2 => J.d10_11 (gl h1 (by decide)) (gl h2 (by decide))⟩⟩
          · rintro l a w hl ⟨x14, x15, x50, x51, x52, x53, x54, x55, x56, x57, x58, x59, rfl, J⟩ hd
            have h0 : On1 l 0 := on_alln hl (by omega) (not_ready hd (i := 0) rfl (by decide) (by simp [Region.binds]))
            have q0 : l[0]?.getD false = true := by have := h0; unfold On1 at this; rwa [Array.getD_eq_getD_getElem?] at this
            have h1 : On1 l 1 := on_alln hl (by omega) (not_ready hd (i := 1) rfl (by decide) (by simp [Region.binds]))
            have q1 : l[1]?.getD false = true := by have := h1; unfold On1 at this; rwa [Array.getD_eq_getD_getElem?] at this
            have h2 : On1 l 2 := on_alln hl (by omega) (not_ready hd (i := 2) rfl (by decide) (by simp [Region.binds, q0, q1]))
            have q2 : l[2]?.getD false = true := by have := h2; unfold On1 at this; rwa [Array.getD_eq_getD_getElem?] at this
            have h3 : On1 l 3 := on_alln hl (by omega) (not_ready hd (i := 3) rfl (by decide) (by simp [Region.binds, q2]))
            have q3 : l[3]?.getD false = true := by have := h3; unfold On1 at this; rwa [Array.getD_eq_getD_getElem?] at this
            have h4 : On1 l 4 := on_alln hl (by omega) (not_ready hd (i := 4) rfl (by decide) (by simp [Region.binds, q3]))
            have q4 : l[4]?.getD false = true := by have := h4; unfold On1 at this; rwa [Array.getD_eq_getD_getElem?] at this
            have h5 : On1 l 5 := on_alln hl (by omega) (not_ready hd (i := 5) rfl (by decide) (by simp [Region.binds]))
            have q5 : l[5]?.getD false = true := by have := h5; unfold On1 at this; rwa [Array.getD_eq_getD_getElem?] at this
            have h6 : On1 l 6 := on_alln hl (by omega) (not_ready hd (i := 6) rfl (by decide) (by simp [Region.binds]))
            have q6 : l[6]?.getD false = true := by have := h6; unfold On1 at this; rwa [Array.getD_eq_getD_getElem?] at this
            have h7 : On1 l 7 := on_alln hl (by omega) (not_ready hd (i := 7) rfl (by decide) (by simp [Region.binds, q5, q6]))
            have q7 : l[7]?.getD false = true := by have := h7; unfold On1 at this; rwa [Array.getD_eq_getD_getElem?] at this
            have h8 : On1 l 8 := on_alln hl (by omega) (not_ready hd (i := 8) rfl (by decide) (by simp [Region.binds, q7]))
            have q8 : l[8]?.getD false = true := by have := h8; unfold On1 at this; rwa [Array.getD_eq_getD_getElem?] at this
            have h9 : On1 l 9 := on_alln hl (by omega) (not_ready hd (i := 9) rfl (by decide) (by simp [Region.binds, q4, q8]))
            have q9 : l[9]?.getD false = true := by have := h9; unfold On1 at this; rwa [Array.getD_eq_getD_getElem?] at this
            have h10 : On1 l 10 := on_alln hl (by omega) (not_ready hd (i := 10) rfl (by decide) (by simp [Region.binds]))
            have q10 : l[10]?.getD false = true := by have := h10; unfold On1 at this; rwa [Array.getD_eq_getD_getElem?] at this
            have h11 : On1 l 11 := on_alln hl (by omega) (not_ready hd (i := 11) rfl (by decide) (by simp [Region.binds]))
            have q11 : l[11]?.getD false = true := by have := h11; unfold On1 at this; rwa [Array.getD_eq_getD_getElem?] at this
            have h12 : On1 l 12 := on_alln hl (by omega) (not_ready hd (i := 12) rfl (by decide) (by simp [Region.binds, q0, q1, q2, q3, q4, q9, q10, q11]))
            have q12 : l[12]?.getD false = true := by have := h12; unfold On1 at this; rwa [Array.getD_eq_getD_getElem?] at this
            have h13 : On1 l 13 := on_alln hl (by omega) (not_ready hd (i := 13) rfl (by decide) (by simp [Region.binds, q0, q1, q2, q3, q4, q5, q6, q7, q8, q9, q10, q11, q12]))
            have q13 : l[13]?.getD false = true := by have := h13; unfold On1 at this; rwa [Array.getD_eq_getD_getElem?] at this
            have e50 := J.r0 h0
            have e51 := J.r1 h1
            have e52 := J.r2 h2
            have e53 := J.r3 h3
            have e54 := J.r4 h4
            have e55 := J.r5 h5
            have e56 := J.r6 h6
            have e57 := J.r7 h7
            have e58 := J.r8 h8
            have e59 := J.r9 h9
            obtain ⟨g14, f14, z14, b14⟩ := Bk.fin ((J.r10 h10).keep (Below.refl _ _) (fun _ => h12)) e54
            obtain ⟨g15, f15, z15, b15⟩ := Bk.fin ((J.r11 h11).keep (Below.refl _ _) (fun _ => h13)) e59
            subst e50 e51 e52 e53 e54 e55 e56 e57 e58 e59 f14 f15
            exact ⟨rfl, g14, g15, rfl, z14, z15, J.bel⟩
          · refine ⟨u14, u15, u50, u51, u52, u53, u54, u55, u56, u57, u58, u59, rfl, ⟨⟨rfl, rfl, rfl, Nat.le_refl _, fun _ _ => rfl⟩, fun h => absurd h (by decide), fun h => absurd h (by decide), fun h => absurd h (by decide), fun h => absurd h (by decide), fun h => absurd h (by decide), fun h => absurd h (by decide), fun h => absurd h (by decide), fun h => absurd h (by decide), fun h => absurd h (by decide), fun h => absurd h (by decide), fun h => absurd h (by decide), fun h => absurd h (by decide), fun h => absurd h (by decide), fun h => absurd h (by decide), fun h => absurd h (by decide)⟩⟩
      · have hkn : k = n := by omega
        clear hk
        have hle := tot_le fM fM_le HOX.out HOY.out (by rw [HX.out]; exact hn) n
        obtain ⟨S, hS⟩ : ∃ b, b = fx (tot fM (xs.take n) (ys.take n)) 0 := ⟨_, rfl⟩
        have HGD : Hid (Good S) := (by show Good S; rw [hS]; exact good_fx (by omega))
        have HSS := Lib.hid hS
        have HRK := Lib.hid (((HK0.out.below HB2.out l0k)).below HBK.out (HK0.out.below HB2.out l0k).lt)
        subst hkn
        rw [← hS]
        clear hS hle
        go_wp2_with fail
        refine (newNum_any S _ HGD.out).mono ?_
        rintro e w6 ⟨rfl, hb6⟩
        have HB6 : Hid (Below w.heap.size w w6) := ((HB0.out.trans (HB2.out.mono HB0.out.size)).trans (HBK.out.mono (Nat.le_trans HB0.out.size HB2.out.size))).trans (hb6.mono (Nat.le_trans HB0.out.size (Nat.le_trans HB2.out.size HBK.out.size)))
        have HR6 := Lib.hid (HRK.out.below hb6 HRK.out.lt)
        clear hb6
        go_wp2_with (refine store_res rfl (.tmp 6) (.tmp 113) rfl w.heap.size [.string ⟨#[]⟩, .float .f64 0, .string ⟨#[]⟩, .slice none 0 0, .slice none 0 0, .bool false, .string ⟨#[]⟩, .int .u8 0, .pointer none, .pointer none] (.num S) rfl rfl HR6.out rfl w.heap.size (Nat.le_refl _) ?_; intro w7 hr7 hb7)
        exact bodyPost_ret (ret_res rfl _ _ w.heap.size (.num S) rfl hr7) rfl ⟨_, rfl, by rw [HSS.out, ← HX.out, List.take_length, HX.out, ← HY.out, List.take_length], HB6.out.trans hb7⟩
  · clear HIL HX HY HOX HOY
    refine wp_region_any (by kernel_rfl) ?_
    refine wpAny_inv (n := 6) (fun l a w' => ∃ x9 x10 x34 x35 x36 x37, a = frA (F) (Value.string ⟨#[83, 85, 77, 88, 50, 77, 89, 50]⟩) (Value.pointer (some { block := L, off := 0 })) (Value.pointer (some { block := w.heap.size, off := 0 })) (Value.pointer (some { block := w.heap.size + 1, off := 0 })) (Value.pointer (some { block := w.heap.size + 1 + 1, off := 0 })) (Value.pointer (some { block := L, off := 0 })) (Value.int IntKind.i64 2) (Value.bool false) (Value.pointer (some { block := L, off := 0 })) (Value.pointer (some { block := b0, off := 0 })) (Value.pointer (some { block := b0, off := 0 })) (Value.pointer (some { block := b0, off := 3 })) (Value.iface 84 (Value.agg #[Value.string { data := #[] }, Value.float FloatKind.f64 0, Value.string { data := #[] }, Value.slice none 0 0, Value.slice (some { block := rg, off := 0 }) n rc, Value.bool false, Value.string { data := #[] }, Value.int IntKind.u8 4, Value.pointer p, Value.pointer q])) (Value.agg #[Value.string { data := #[] }, Value.float FloatKind.f64 0, Value.string { data := #[] }, Value.slice none 0 0, Value.slice (some { block := rg, off := 0 }) n rc, Value.bool false, Value.string { data := #[] }, Value.int IntKind.u8 4, Value.pointer p, Value.pointer q]) (Value.pointer (some { block := L, off := 0 })) (Value.pointer (some { block := b1, off := 0 })) (Value.pointer (some { block := b1, off := 0 })) (Value.pointer (some { block := b1, off := 3 })) (Value.iface 84 (Value.agg #[Value.string { data := #[] }, Value.float FloatKind.f64 0, Value.string { data := #[] }, Value.slice none 0 0, Value.slice (some { block := sg, off := 0 }) n sc, Value.bool false, Value.string { data := #[] }, Value.int IntKind.u8 4, Value.pointer p2, Value.pointer q2])) (Value.agg #[Value.string { data := #[] }, Value.float FloatKind.f64 0, Value.string { data := #[] }, Value.slice none 0 0, Value.slice (some { block := sg, off := 0 }) n sc, Value.bool false, Value.string { data := #[] }, Value.int IntKind.u8 4, Value.pointer p2, Value.pointer q2]) x9 x10 x34 x35 x36 x37 ∧ RunA (.agg #[.string ⟨#[]⟩, .float .f64 0, .string ⟨#[]⟩, .slice none 0 0, .slice (some ⟨rg, 0, none⟩) n rc, .bool false, .string ⟨#[]⟩, .int .u8 4, .pointer p, .pointer q]) (.agg #[.string ⟨#[]⟩, .float .f64 0, .string ⟨#[]⟩, .slice none 0 0, .slice (some ⟨sg, 0, none⟩) n sc, .bool false, .string ⟨#[]⟩, .int .u8 4, .pointer p2, .pointer q2]) ((xs.map iA).map Atom.facells) ((ys.map iA).map Atom.facells) w0 x9 x10 x34 x35 x36 x37 l w') ?_ ?_ _ _ _ _ (by rfl) ?_ (by decide)
    · rintro l a w i hl ⟨x9, x10, x34, x35, x36, x37, rfl, J⟩ hi
      have hrs := ready_spec hi
      have hi6 : i < 6 := hrs.1
      have hoff := off1 hrs.2.1
      have hix : i = 0 ∨ i = 1 ∨ i = 2 ∨ i = 3 ∨ i = 4 ∨ i = 5 := by omega
      clear hi hi6
      rcases hix with rfl | rfl | rfl | rfl | rfl | rfl
      · have hk := HK1.out.below J.bel l1k
        have c0 := hk.get 0 rfl
        have c1 := hk.get 1 rfl
        have c2 := hk.get 2 rfl
        have c3 := hk.get 3 rfl
        have c4 := hk.get 4 rfl
        have c5 := hk.get 5 rfl
        have c6 := hk.get 6 rfl
        have c7 := hk.get 7 rfl
        have c8 := hk.get 8 rfl
        have c9 := hk.get 9 rfl
        clear hk
        refine wpOp_step rfl (fun K hK => ?_)
        unfold frA
        go_simp
        refine hK _ _ ?_
        exact ⟨_, _, _, _, _, _, rfl, ⟨J.bel, fun _ => rfl, fun h => J.r1 (gl h (by decide)), fun h => J.r2 (gl h (by decide)), fun h => J.r3 (gl h (by decide)), fun h => ⟨up (J.r4 (gl h (by decide))).1, (J.r4 (gl h (by decide))).2⟩, fun h => ⟨up (J.r5 (gl h (by decide))).1, (J.r5 (gl h (by decide))).2⟩⟩⟩
      · have e0 := J.r0 (dep_of (hrs.2.2 _ rfl) 0 rfl rfl)
        subst e0
        refine wpOp_step rfl (fun K hK => ?_)
        unfold frA
        go_simp
        refine (toList_mat (xs.map iA) HXL.out HXN.out _ p q w ((HT.out.keep HB0.out).keep J.bel)).mono ?_
        rintro e w' ⟨v', rfl, ha, hb⟩
        dsimp only
        refine hK _ _ ?_
        exact ⟨_, _, _, _, _, _, rfl, ⟨J.bel.trans (hb.mono J.bel.size), fun h => J.r0 (gl h (by decide)), fun _ => ha.base (Nat.zero_le _), fun h => J.r2 (gl h (by decide)), fun h => (J.r3 (gl h (by decide))).keep hb, fun h => absurd (J.r4 (gl h (by decide))).1 hoff, fun h => ⟨up (J.r5 (gl h (by decide))).1, (J.r5 (gl h (by decide))).2⟩⟩⟩
      · have hk := HK2.out.below J.bel l2k
        have c0 := hk.get 0 rfl
        have c1 := hk.get 1 rfl
        have c2 := hk.get 2 rfl
        have c3 := hk.get 3 rfl
        have c4 := hk.get 4 rfl
        have c5 := hk.get 5 rfl
        have c6 := hk.get 6 rfl
        have c7 := hk.get 7 rfl
        have c8 := hk.get 8 rfl
        have c9 := hk.get 9 rfl
        clear hk
        refine wpOp_step rfl (fun K hK => ?_)
        unfold frA
        go_simp
        refine hK _ _ ?_
        exact ⟨_, _, _, _, _, _, rfl, ⟨J.bel, fun h => J.r0 (gl h (by decide)), fun h => J.r1 (gl h (by decide)), fun _ => rfl, fun h => J.r3 (gl h (by decide)), fun h => ⟨up (J.r4 (gl h (by decide))).1, (J.r4 (gl h (by decide))).2⟩, fun h => ⟨up (J.r5 (gl h (by decide))).1, (J.r5 (gl h (by decide))).2⟩⟩⟩
      · have e2 := J.r2 (dep_of (hrs.2.2 _ rfl) 0 rfl rfl)
        subst e2
        refine wpOp_step rfl (fun K hK => ?_)
        unfold frA
        go_simp
        refine (toList_mat (ys.map iA) HYL.out HYN.out _ p2 q2 w ((HU.out.keep HB0.out).keep J.bel)).mono ?_
        rintro e w' ⟨v', rfl, ha, hb⟩
        dsimp only
        refine hK _ _ ?_
        exact ⟨_, _, _, _, _, _, rfl, ⟨J.bel.trans (hb.mono J.bel.size), fun h => J.r0 (gl h (by decide)), fun h => (J.r1 (gl h (by decide))).keep hb, fun h => J.r2 (gl h (by decide)), fun _ => ha.base (Nat.zero_le _), fun h => ⟨up (J.r4 (gl h (by decide))).1, (J.r4 (gl h (by decide))).2⟩, fun h => absurd (J.r5 (gl h (by decide))).1 hoff⟩⟩
      · have hC : On1 l 1 := dep_of (hrs.2.2 _ rfl) 0 rfl rfl
        refine wpOp_step rfl (fun K hK => ?_)
        unfold frA
        go_simp
        refine hK _ _ ?_
        exact ⟨_, _, _, _, _, _, rfl, ⟨J.bel, fun h => J.r0 (gl h (by decide)), fun h => J.r1 (gl h (by decide)), fun h => J.r2 (gl h (by decide)), fun h => J.r3 (gl h (by decide)), fun _ => ⟨up hC, rfl⟩, fun h => ⟨up (J.r5 (gl h (by decide))).1, (J.r5 (gl h (by decide))).2⟩⟩⟩
      · have hC : On1 l 3 := dep_of (hrs.2.2 _ rfl) 0 rfl rfl
        refine wpOp_step rfl (fun K hK => ?_)
        unfold frA
        go_simp
        refine hK _ _ ?_
        exact ⟨_, _, _, _, _, _, rfl, ⟨J.bel, fun h => J.r0 (gl h (by decide)), fun h => J.r1 (gl h (by decide)), fun h => J.r2 (gl h (by decide)), fun h => J.r3 (gl h (by decide)), fun h => ⟨up (J.r4 (gl h (by decide))).1, (J.r4 (gl h (by decide))).2⟩, fun _ => ⟨up hC, rfl⟩⟩⟩
    · rintro l a w hl ⟨x9, x10, x34, x35, x36, x37, rfl, J⟩ hd
      have h0 : On1 l 0 := on_alln hl (by omega) (not_ready hd (i := 0) rfl (by decide) (by simp [Region.binds]))
      have q0 : l[0]?.getD false = true := by have := h0; unfold On1 at this; rwa [Array.getD_eq_getD_getElem?] at this
      have h1 : On1 l 1 := on_alln hl (by omega) (not_ready hd (i := 1) rfl (by decide) (by simp [Region.binds, q0]))
      have q1 : l[1]?.getD false = true := by have := h1; unfold On1 at this; rwa [Array.getD_eq_getD_getElem?] at this
      have h2 : On1 l 2 := on_alln hl (by omega) (not_ready hd (i := 2) rfl (by decide) (by simp [Region.binds]))
      have q2 : l[2]?.getD false = true := by have := h2; unfold On1 at this; rwa [Array.getD_eq_getD_getElem?] at this
      have h3 : On1 l 3 := on_alln hl (by omega) (not_ready hd (i := 3) rfl (by decide) (by simp [Region.binds, q1, q2]))
      have q3 : l[3]?.getD false = true := by have := h3; unfold On1 at this; rwa [Array.getD_eq_getD_getElem?] at this
      have h4 : On1 l 4 := on_alln hl (by omega) (not_ready hd (i := 4) rfl (by decide) (by simp [Region.binds, q0, q1, q3]))
      have q4 : l[4]?.getD false = true := by have := h4; unfold On1 at this; rwa [Array.getD_eq_getD_getElem?] at this
      have h5 : On1 l 5 := on_alln hl (by omega) (not_ready hd (i := 5) rfl (by decide) (by simp [Region.binds, q0, q1, q2, q3, q4]))
      have q5 : l[5]?.getD false = true := by have := h5; unfold On1 at this; rwa [Array.getD_eq_getD_getElem?] at this
      obtain ⟨_, e9⟩ := J.r4 h4
      obtain ⟨_, e10⟩ := J.r5 h5
      have e34 := J.r0 h0
      have e36 := J.r2 h2
      subst e9 e10 e34 e36
      exact ⟨rfl, _, _, rfl, J.r1 h1, J.r3 h3, J.bel⟩
    · refine ⟨undef, undef, undef, undef, undef, undef, rfl, ⟨⟨rfl, rfl, rfl, Nat.le_refl _, fun _ _ => rfl⟩, fun h => absurd h (by decide), fun h => absurd h (by decide), fun h => absurd h (by decide), fun h => absurd h (by decide), fun h => absurd h (by decide), fun h => absurd h (by decide)⟩⟩
set_option maxRecDepth 20000 in
set_option maxHeartbeats 4000000 in
theorem xmy_gives (xs ys : List Int) (n : Nat) (hx : xs.length = n) (hy : ys.length = n) (h0 : 0 < n) (hn : n ≤ 50) (okx : SmallInts xs) (oky : SmallInts ys) : MethodTabs Vars 83 [xs.map iA, ys.map iA] (fun r => r = .num (fx (tot fD xs ys) 0)) := by
  intro F B L bs fs w _ hil hl hm
  obtain ⟨b0, b1, rg, rc, p, q, sg, sc, p2, q2, rfl, hil, ht, hu⟩ := two_tabs (n := n) (by rw [List.length_map, hx]) (by rw [List.length_map, hy]) h0 hil hl hm
  obtain ⟨S, hS⟩ : ∃ b, b = fx (tot fD xs ys) 0 := ⟨_, rfl⟩
  have HC := Lib.hid (sumx_D xs ys n hx hy h0 hn okx oky F B L b0 b1 rg rc sg sc p q p2 q2 (w.alloc (.cells #[.string ⟨#[]⟩, .float .f64 0, .string ⟨#[]⟩, .slice none 0 0, .slice none 0 0, .bool false, .string ⟨#[]⟩, .int .u8 0, .pointer none, .pointer none] 84)) (hil.keep ((Below.refl _ _).alloc (Nat.le_refl _) _)) (ht.keep ((Below.refl _ _).alloc (Nat.le_refl _) _)) (hu.keep ((Below.refl _ _).alloc (Nat.le_refl _) _)))
  rw [← hS] at HC ⊢
  clear hil ht hu hl hm hx hy okx oky hS
  go_enter Tryz.func83, Tryz.ntmps83
  go_wp2_with fail
  refine HC.out.mono ?_
  rintro e w2 ⟨r, rfl, rfl, hb⟩
  have HR := Lib.hid ((Blk.new w 84 [.string ⟨#[]⟩, .float .f64 0, .string ⟨#[]⟩, .slice none 0 0, .slice none 0 0, .bool false, .string ⟨#[]⟩, .int .u8 0, .pointer none, .pointer none]).below hb (by simp))
  have HB : Hid (Below w.heap.size w w2) := Below.trans (by go_grown) (hb.mono (by simp))
  clear hb
  go_wp2_with (refine store_res rfl (.tmp 4) (.tmp 7) rfl w.heap.size [.string ⟨#[]⟩, .float .f64 0, .string ⟨#[]⟩, .slice none 0 0, .slice none 0 0, .bool false, .string ⟨#[]⟩, .int .u8 0, .pointer none, .pointer none] (.num S) rfl rfl HR.out rfl w.heap.size (Nat.le_refl _) ?_; intro w7 hr7 hb7)
  exact bodyPost_ret (ret_res rfl _ _ w.heap.size (.num S) rfl hr7) rfl ⟨_, rfl, rfl, HB.out.trans hb7⟩
set_option maxRecDepth 20000 in
set_option maxHeartbeats 4000000 in
theorem xpy_gives (xs ys : List Int) (n : Nat) (hx : xs.length = n) (hy : ys.length = n) (h0 : 0 < n) (hn : n ≤ 50) (okx : SmallInts xs) (oky : SmallInts ys) : MethodTabs Vars 85 [xs.map iA, ys.map iA] (fun r => r = .num (fx (tot fP xs ys) 0)) := by
  intro F B L bs fs w _ hil hl hm
  obtain ⟨b0, b1, rg, rc, p, q, sg, sc, p2, q2, rfl, hil, ht, hu⟩ := two_tabs (n := n) (by rw [List.length_map, hx]) (by rw [List.length_map, hy]) h0 hil hl hm
  obtain ⟨S, hS⟩ : ∃ b, b = fx (tot fP xs ys) 0 := ⟨_, rfl⟩
  have HC := Lib.hid (sumx_P xs ys n hx hy h0 hn okx oky F B L b0 b1 rg rc sg sc p q p2 q2 (w.alloc (.cells #[.string ⟨#[]⟩, .float .f64 0, .string ⟨#[]⟩, .slice none 0 0, .slice none 0 0, .bool false, .string ⟨#[]⟩, .int .u8 0, .pointer none, .pointer none] 84)) (hil.keep ((Below.refl _ _).alloc (Nat.le_refl _) _)) (ht.keep ((Below.refl _ _).alloc (Nat.le_refl _) _)) (hu.keep ((Below.refl _ _).alloc (Nat.le_refl _) _)))
  rw [← hS] at HC ⊢
  clear hil ht hu hl hm hx hy okx oky hS
  go_enter Tryz.func85, Tryz.ntmps85
  go_wp2_with fail
  refine HC.out.mono ?_
  rintro e w2 ⟨r, rfl, rfl, hb⟩
  have HR := Lib.hid ((Blk.new w 84 [.string ⟨#[]⟩, .float .f64 0, .string ⟨#[]⟩, .slice none 0 0, .slice none 0 0, .bool false, .string ⟨#[]⟩, .int .u8 0, .pointer none, .pointer none]).below hb (by simp))
  have HB : Hid (Below w.heap.size w w2) := Below.trans (by go_grown) (hb.mono (by simp))
  clear hb
  go_wp2_with (refine store_res rfl (.tmp 4) (.tmp 7) rfl w.heap.size [.string ⟨#[]⟩, .float .f64 0, .string ⟨#[]⟩, .slice none 0 0, .slice none 0 0, .bool false, .string ⟨#[]⟩, .int .u8 0, .pointer none, .pointer none] (.num S) rfl rfl HR.out rfl w.heap.size (Nat.le_refl _) ?_; intro w7 hr7 hb7)
  exact bodyPost_ret (ret_res rfl _ _ w.heap.size (.num S) rfl hr7) rfl ⟨_, rfl, rfl, HB.out.trans hb7⟩
set_option maxRecDepth 20000 in
set_option maxHeartbeats 4000000 in
theorem xsy_gives (xs ys : List Int) (n : Nat) (hx : xs.length = n) (hy : ys.length = n) (h0 : 0 < n) (hn : n ≤ 50) (okx : SmallInts xs) (oky : SmallInts ys) : MethodTabs Vars 87 [xs.map iA, ys.map iA] (fun r => r = .num (fx (tot fM xs ys) 0)) := by
  intro F B L bs fs w _ hil hl hm
  obtain ⟨b0, b1, rg, rc, p, q, sg, sc, p2, q2, rfl, hil, ht, hu⟩ := two_tabs (n := n) (by rw [List.length_map, hx]) (by rw [List.length_map, hy]) h0 hil hl hm
  obtain ⟨S, hS⟩ : ∃ b, b = fx (tot fM xs ys) 0 := ⟨_, rfl⟩
  have HC := Lib.hid (sumx_M xs ys n hx hy h0 hn okx oky F B L b0 b1 rg rc sg sc p q p2 q2 (w.alloc (.cells #[.string ⟨#[]⟩, .float .f64 0, .string ⟨#[]⟩, .slice none 0 0, .slice none 0 0, .bool false, .string ⟨#[]⟩, .int .u8 0, .pointer none, .pointer none] 84)) (hil.keep ((Below.refl _ _).alloc (Nat.le_refl _) _)) (ht.keep ((Below.refl _ _).alloc (Nat.le_refl _) _)) (hu.keep ((Below.refl _ _).alloc (Nat.le_refl _) _)))
  rw [← hS] at HC ⊢
  clear hil ht hu hl hm hx hy okx oky hS
  go_enter Tryz.func87, Tryz.ntmps87
  go_wp2_with fail
  refine HC.out.mono ?_
  rintro e w2 ⟨r, rfl, rfl, hb⟩
  have HR := Lib.hid ((Blk.new w 84 [.string ⟨#[]⟩, .float .f64 0, .string ⟨#[]⟩, .slice none 0 0, .slice none 0 0, .bool false, .string ⟨#[]⟩, .int .u8 0, .pointer none, .pointer none]).below hb (by simp))
  have HB : Hid (Below w.heap.size w w2) := Below.trans (by go_grown) (hb.mono (by simp))
  clear hb
  go_wp2_with (refine store_res rfl (.tmp 4) (.tmp 7) rfl w.heap.size [.string ⟨#[]⟩, .float .f64 0, .string ⟨#[]⟩, .slice none 0 0, .slice none 0 0, .bool false, .string ⟨#[]⟩, .int .u8 0, .pointer none, .pointer none] (.num S) rfl rfl HR.out rfl w.heap.size (Nat.le_refl _) ?_; intro w7 hr7 hb7)
  exact bodyPost_ret (ret_res rfl _ _ w.heap.size (.num S) rfl hr7) rfl ⟨_, rfl, rfl, HB.out.trans hb7⟩
end Go.Proofs.YtoebgbojpkflnaaGreatDoor
