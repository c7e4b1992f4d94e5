/- Law 9, FnFindLower: SEARCH of a text is FIND of the text in small letters. -/
import Derived.Test.YtoebgbojpkflnaaGreatDoorSixAll
import Derived.Test.YtoebgbojpkflnaaGreatDoorLowDoor
namespace Go.Proofs.YtoebgbojpkflnaaGreatDoor
open Go Go.RowKit

/-- A slice over a block of the call's own that is known whole. -/
theorem Arr.ofBlk {B : Nat} {w : World} {e sz g : Nat} {xs : List (List Value)} (h : Blk w g e xs.flatten) (hw : ∀ x ∈ xs, x.length = sz) (hB : B ≤ g) (hn : xs.length ≤ maxLen) : Arr B w e sz (.slice (some ⟨g, 0, none⟩) xs.length xs.length) xs := by
  have hl : xs.flatten.length = xs.length * sz := by
    clear h hn
    induction xs with
    | nil => simp
    | cons y ys ih => rw [List.flatten_cons, List.length_append, ih fun x hx => hw x (List.mem_cons_of_mem _ hx), hw y (by simp), List.length_cons, Nat.succ_mul, Nat.add_comm]
  exact ⟨⟨hl, .inr ⟨g, xs.length, xs.flatten.toArray, rfl, hB, h, Nat.le_refl _, hn, by simpa using hl, by rw [← hl]; exact List.take_length⟩⟩, hw⟩
theorem atom_quad (x : Atom) (h : x.Ok) : ∃ k b s, x.cells = [.int .i64 k, .float .f64 b, .string s, .slice none 0 0] ∧ (FloatKind.f64.format.order b b == some .eq) = true := by
  cases x with
  | num b => exact ⟨_, _, _, rfl, by rw [h.1]; rfl⟩
  | text s => exact ⟨_, _, _, rfl, by rw [order00]; rfl⟩
  | logic y => cases y <;> exact ⟨_, _, _, rfl, by decide +kernel⟩
  | empty => exact ⟨_, _, _, rfl, by rw [order00]; rfl⟩
  | err s => exact ⟨_, _, _, rfl, by rw [order00]; rfl⟩
theorem found_ok (s : ByteArray) (k : Nat) (h : s.size ≤ 1000) : (foundRes s k).atom.Ok := by
  unfold foundRes
  split
  · exact good_fx (by omega)
  · trivial
theorem texts_ok (l : List ByteArray) : ∀ a ∈ l.map Atom.text, a.Ok := by
  intro a ha; obtain ⟨s, _, rfl⟩ := List.mem_map.1 ha; trivial

set_option maxRecDepth 20000 in
set_option maxHeartbeats 1000000 in
theorem law9_no0 (sub s : ByteArray) (w : World) (hs : sub.size ≤ 2147483647) (hm : s.size ≤ 2147483647) (p1 : Hid (¬ FPlain sub)) :
    Calls Tryz.prog 9 #[.string sub, .string s] w fun e w' => e = .returned (.bool true) ∧ Below w.heap.size w w' := by
  go_enter Tryz.func9, Tryz.ntmps9
  go_wp2_with (first | (go_at_call_of 34 (sub); refine (plain_any sub hs _).mono ?_; rintro e w1 ⟨⟨b, rfl, hbf⟩, rfl⟩; obtain rfl := tell_no hbf p1.out; clear hbf) | (go_at_call 35; refine (findLives_any _).mono ?_; rintro e w1 ⟨rfl, hb1⟩))
  go_ret
  exact ⟨rfl, hb1⟩

set_option maxRecDepth 20000 in
set_option maxHeartbeats 1000000 in
theorem law9_no1 (sub s : ByteArray) (w : World) (hs : sub.size ≤ 2147483647) (hm : s.size ≤ 2147483647) (p1 : Hid (FPlain sub)) (p2 : Hid (¬ FPlain s)) :
    Calls Tryz.prog 9 #[.string sub, .string s] w fun e w' => e = .returned (.bool true) ∧ Below w.heap.size w w' := by
  go_enter Tryz.func9, Tryz.ntmps9
  go_wp2_with (first | (go_at_call_of 34 (sub); refine (plain_any sub hs _).mono ?_; rintro e w1 ⟨⟨b, rfl, hbf⟩, rfl⟩; obtain rfl := hbf.2 p1.out; clear hbf) | (go_at_call_of 34 (s); refine (plain_any s hm _).mono ?_; rintro e w1 ⟨⟨b, rfl, hbf⟩, rfl⟩; obtain rfl := tell_no hbf p2.out; clear hbf) | (go_at_call 35; refine (findLives_any _).mono ?_; rintro e w1 ⟨rfl, hb1⟩))
  go_ret
  exact ⟨rfl, hb1⟩

set_option maxRecDepth 20000 in
set_option maxHeartbeats 1000000 in
theorem law9_no2 (sub s : ByteArray) (w : World) (hs : sub.size ≤ 2147483647) (hm : s.size ≤ 2147483647) (p1 : Hid (FPlain sub)) (p2 : Hid (FPlain s)) (q1 : sub.toList.isEmpty = true) :
    Calls Tryz.prog 9 #[.string sub, .string s] w fun e w' => e = .returned (.bool true) ∧ Below w.heap.size w w' := by
  go_enter Tryz.func9, Tryz.ntmps9
  go_wp2_with (first | (go_at_call_of 34 (sub); refine (plain_any sub hs _).mono ?_; rintro e w1 ⟨⟨b, rfl, hbf⟩, rfl⟩; obtain rfl := hbf.2 p1.out; clear hbf) | (go_at_call_of 34 (s); refine (plain_any s hm _).mono ?_; rintro e w1 ⟨⟨b, rfl, hbf⟩, rfl⟩; obtain rfl := hbf.2 p2.out; clear hbf) | (go_at_call 35; refine (findLives_any _).mono ?_; rintro e w1 ⟨rfl, hb1⟩))
  go_ret
  exact ⟨rfl, hb1⟩

set_option maxRecDepth 20000 in
set_option maxHeartbeats 1000000 in
theorem law9_no3 (sub s : ByteArray) (w : World) (hs : sub.size ≤ 2147483647) (hm : s.size ≤ 2147483647) (p1 : Hid (FPlain sub)) (p2 : Hid (FPlain s)) (q1 : sub.toList.isEmpty = false) (q2 : s.toList.isEmpty = true) :
    Calls Tryz.prog 9 #[.string sub, .string s] w fun e w' => e = .returned (.bool true) ∧ Below w.heap.size w w' := by
  go_enter Tryz.func9, Tryz.ntmps9
  go_wp2_with (first | (go_at_call_of 34 (sub); refine (plain_any sub hs _).mono ?_; rintro e w1 ⟨⟨b, rfl, hbf⟩, rfl⟩; obtain rfl := hbf.2 p1.out; clear hbf) | (go_at_call_of 34 (s); refine (plain_any s hm _).mono ?_; rintro e w1 ⟨⟨b, rfl, hbf⟩, rfl⟩; obtain rfl := hbf.2 p2.out; clear hbf) | (go_at_call 35; refine (findLives_any _).mono ?_; rintro e w1 ⟨rfl, hb1⟩))
  go_ret
  exact ⟨rfl, hb1⟩

set_option maxRecDepth 20000 in
set_option maxHeartbeats 1000000 in
theorem law9_big1 (sub s : ByteArray) (w : World) (hs : 2147483647 < sub.size) (hs2 : sub.size ≤ 9223372036854775807) :
    Calls Tryz.prog 9 #[.string sub, .string s] w fun e w' => e = .returned (.bool true) ∧ Below w.heap.size w w' := by
  go_enter Tryz.func9, Tryz.ntmps9
  go_wp2
  go_ret
  exact ⟨rfl, Below.refl _ _⟩
set_option maxRecDepth 20000 in
set_option maxHeartbeats 1000000 in
theorem law9_big2 (sub s : ByteArray) (w : World) (hs : sub.size ≤ 2147483647) (hm : 2147483647 < s.size) (hm2 : s.size ≤ 9223372036854775807) :
    Calls Tryz.prog 9 #[.string sub, .string s] w fun e w' => e = .returned (.bool true) ∧ Below w.heap.size w w' := by
  go_enter Tryz.func9, Tryz.ntmps9
  go_wp2
  go_ret
  exact ⟨rfl, Below.refl _ _⟩

set_option maxRecDepth 20000 in
set_option maxHeartbeats 2000000 in
theorem law9_yes (sub s : ByteArray) (w : World) (f1 : Hid (FPlain sub)) (f2 : Hid (FPlain s)) (z1 : sub.size ≤ 200) (z2 : s.size ≤ 200) (q1 : sub.toList.isEmpty = false) (q2 : s.toList.isEmpty = false) :
    Calls Tryz.prog 9 #[.string sub, .string s] w fun e w' => e = .returned (.bool true) ∧ Below w.heap.size w w' := by
  have HQ : Hid (sub.toList.isEmpty = false) := q1
  have HQ' : Hid ((lowS sub).toList.isEmpty = false) := (by show (lowS sub).toList.isEmpty = false; rw [empty_size, lowS_size, ← empty_size]; exact q1)
  go_enter Tryz.func9, Tryz.ntmps9
  go_wp2_with (first | (go_at_call_of 34 (sub); refine (plain_any sub (by omega) _).mono ?_; rintro e w1 ⟨⟨b, rfl, hbf⟩, rfl⟩; obtain rfl := hbf.2 f1.out; clear hbf) | (go_at_call_of 34 (s); refine (plain_any s (by omega) _).mono ?_; rintro e w1 ⟨⟨b, rfl, hbf⟩, rfl⟩; obtain rfl := hbf.2 f2.out; clear hbf))
  refine (textArgs_any [sub, s] _ w.heap.size 2 (fun k x hk => (Blk.new w 9 [.string sub, .string s]).get k (by match k with | 0 => simpa using hk | 1 => simpa using hk | j + 2 => simp at hk)) (by simp) (by simp)).mono ?_
  rintro e w1 ⟨va, rfl, ha, hb1⟩
  have HA1 : Hid (ArgsAt w1 37 va [.text sub, .text s]) := ⟨ha.base (Nat.zero_le _), by simp, by simp, texts_ok [sub, s]⟩
  have HB1 : Hid (Below w.heap.size w w1) := ((Below.refl _ _).alloc (Nat.le_refl _) _).trans (hb1.mono (by simp))
  clear ha hb1
  go_wp2_with fail
  refine (search_impl _ _ va w1 HA1.out (search_gives2 s sub (by omega) (by omega) f2.out.2.1.ascii f1.out.2.1.ascii f1.out.nowild HQ.out)).mono ?_
  rintro e w2 ⟨r, rfl, ⟨k, rfl, hf⟩, hb2⟩
  have HF : Hid (First (lowS s) (lowS sub) 0 k) := first_case hf
  have HB2 : Hid (Below w.heap.size w w2) := HB1.out.trans (hb2.mono HB1.out.size)
  obtain ⟨x, hx⟩ : ∃ x, x = (foundRes s k).atom := ⟨_, rfl⟩
  rw [← hx]
  have HX : Hid (x = (foundRes s k).atom) := hx
  have HO : Hid x.Ok := (by show x.Ok; rw [hx]; exact found_ok s k (by omega))
  clear hf hb2 hx HA1 HB1
  go_wp2_with (refine store_row rfl 37 (.tmp 5) (.tmp 36) rfl w2.heap.size 37 [.int .i64 0, .float .f64 0, .string ⟨#[]⟩, .slice none 0 0] x.cells rfl (Atom.val_eq _) (Blk.new w2 37 [.int .i64 0, .float .f64 0, .string ⟨#[]⟩, .slice none 0 0]) (by rw [Atom.clen]; exact size37) (by rw [Atom.clen]; rfl) (Atom.one _) w.heap.size HB2.out.size ?_; intro w3 hr3 hb3 hp3)
  have HR3 : Hid (Blk w3 w2.heap.size 37 x.cells) := hr3
  have HB3 : Hid (Below w.heap.size w w3) := (HB2.out.alloc HB2.out.size _).trans hb3
  clear hr3 hb3 hp3 HB2
  generalize w2.heap.size = g5 at *
  refine (textArgs_any [sub] _ w3.heap.size 1 (fun k x hk => (Blk.new w3 9 [.string sub]).get k (by match k with | 0 => simpa using hk | j + 1 => simp at hk)) (by simp) (by simp)).mono ?_
  rintro e w4 ⟨vb, rfl, ha, hb4⟩
  have HA4 : Hid (ArgsAt w4 37 vb [.text sub]) := ⟨ha.base (Nat.zero_le _), by simp, by simp, texts_ok [sub]⟩
  have HR4 : Hid (Blk w4 g5 37 x.cells) := (HR3.out.alloc _).below hb4 (HR3.out.alloc _).lt
  have HB4 : Hid (Below w.heap.size w w4) := (HB3.out.alloc HB3.out.size _).trans (hb4.mono (by have := HB3.out.size; simp; omega))
  clear ha hb4 HR3 HB3
  go_wp2_with fail
  refine (lower_call sub (by omega) f1.out.2.1.ascii vb w4 HA4.out).mono ?_
  rintro e w5 ⟨rfl, hb5⟩
  have HR5 : Hid (Blk w5 g5 37 x.cells) := HR4.out.below hb5 HR4.out.lt
  have HB5 : Hid (Below w.heap.size w w5) := HB4.out.trans (hb5.mono HB4.out.size)
  clear hb5 HA4 HR4 HB4
  go_wp2_with fail
  refine (textArgs_any [s] _ w5.heap.size 1 (fun k x hk => (Blk.new w5 9 [.string s]).get k (by match k with | 0 => simpa using hk | j + 1 => simp at hk)) (by simp) (by simp)).mono ?_
  rintro e w6 ⟨vc, rfl, ha, hb6⟩
  have HA6 : Hid (ArgsAt w6 37 vc [.text s]) := ⟨ha.base (Nat.zero_le _), by simp, by simp, texts_ok [s]⟩
  have HR6 : Hid (Blk w6 g5 37 x.cells) := (HR5.out.alloc _).below hb6 (HR5.out.alloc _).lt
  have HB6 : Hid (Below w.heap.size w w6) := (HB5.out.alloc HB5.out.size _).trans (hb6.mono (by have := HB5.out.size; simp; omega))
  clear ha hb6 HR5 HB5
  go_wp2_with fail
  refine (lower_call s (by omega) f2.out.2.1.ascii vc w6 HA6.out).mono ?_
  rintro e w7 ⟨rfl, hb7⟩
  have HR7 : Hid (Blk w7 g5 37 x.cells) := HR6.out.below hb7 HR6.out.lt
  have HB7 : Hid (Below w.heap.size w w7) := HB6.out.trans (hb7.mono HB6.out.size)
  clear hb7 HA6 HR6 HB6
  go_wp2_with fail
  have HA8 : Hid (ArgsAt (w7.alloc (.cells ([Atom.text (lowS sub), .text (lowS s)].map Atom.cells).flatten.toArray 37)) 37 (.slice (some ⟨w7.heap.size, 0, none⟩) 2 2) [.text (lowS sub), .text (lowS s)]) := ⟨Arr.ofBlk (xs := [Atom.text (lowS sub), .text (lowS s)].map Atom.cells) (Blk.new w7 37 _) (by intro y hy; obtain ⟨a, _, rfl⟩ := List.mem_map.1 hy; exact a.clen) (Nat.zero_le _) (by simp [maxLen]), by simp, by simp, texts_ok [lowS sub, lowS s]⟩
  refine (find_impl _ _ _ _ HA8.out (find_gives2 (lowS s) (lowS sub) (by rw [lowS_size]; omega) (by rw [lowS_size]; omega) (lowS_ascii f2.out.2.1.ascii) (lowS_nowild f1.out.nowild) HQ'.out)).mono ?_
  rintro e w8 ⟨r, rfl, ⟨k', rfl, hf'⟩, hb8⟩
  obtain rfl := first_one HF.out hf'
  rw [lowS_first, ← HX.out]
  have HR8 : Hid (Blk w8 g5 37 x.cells) := (HR7.out.alloc _).below hb8 (HR7.out.alloc _).lt
  have HB8 : Hid (Below w.heap.size w w8) := (HB7.out.alloc HB7.out.size _).trans (hb8.mono (by have := HB7.out.size; simp; omega))
  clear hf' hb8 HA8 HR7 HB7 HF HX
  go_wp2_with (refine store_row rfl 37 (.tmp 6) (.tmp 46) rfl w8.heap.size 37 [.int .i64 0, .float .f64 0, .string ⟨#[]⟩, .slice none 0 0] x.cells rfl (Atom.val_eq _) (Blk.new w8 37 [.int .i64 0, .float .f64 0, .string ⟨#[]⟩, .slice none 0 0]) (by rw [Atom.clen]; exact size37) (by rw [Atom.clen]; rfl) (Atom.one _) w.heap.size HB8.out.size ?_; intro w9 hr9 hb9 hp9; have HR9 : Hid (Blk w9 g5 37 x.cells) := hp9.blk (HR8.out.alloc _) (by have := HR8.out.lt; omega); have HB9 : Hid (Below w.heap.size w w9) := (HB8.out.alloc HB8.out.size _).trans hb9; obtain ⟨kk, bb, tt, hq, ho⟩ := atom_quad x HO.out; have hr5 := HR9.out; rw [hq] at hr5 hr9; have c0 := hr5.get 0 rfl; have c1 := hr5.get 1 rfl; have c2 := hr5.get 2 rfl; have d0 := hr9.get 0 rfl; have d1 := hr9.get 1 rfl; have d2 := hr9.get 2 rfl; clear hq hr5 hr9 hb9 hp9 HR8 HB8 HR9)
  go_wp2_with (go_at_call 35; refine (findLives_any _).mono ?_; rintro e w10 ⟨rfl, hb10⟩)
  go_ret
  exact ⟨rfl, HB9.out.trans (hb10.mono HB9.out.size)⟩

theorem law9_all (sub s : ByteArray) (w : World) (ws : sub.size ≤ maxLen) (wm : s.size ≤ maxLen) :
    Calls Tryz.prog 9 #[.string sub, .string s] w fun e w' => e = .returned (.bool true) ∧ Below w.heap.size w w' := by
  simp only [maxLen] at ws wm
  by_cases a1 : sub.size ≤ 2147483647
  case neg => exact law9_big1 sub s w (by omega) (by omega)
  by_cases a2 : s.size ≤ 2147483647
  case neg => exact law9_big2 sub s w a1 (by omega) (by omega)
  by_cases p1 : FPlain sub
  case neg => exact law9_no0 sub s w a1 a2 p1
  by_cases p2 : FPlain s
  case neg => exact law9_no1 sub s w a1 a2 p1 p2
  by_cases q1 : sub.size = 0
  case pos => exact law9_no2 sub s w a1 a2 p1 p2 (by rw [empty_size]; exact decide_eq_true q1)
  have q2 : sub.toList.isEmpty = false := by rw [empty_size]; exact decide_eq_false q1
  by_cases r1 : s.size = 0
  case pos => exact law9_no3 sub s w a1 a2 p1 p2 q2 (by rw [empty_size]; exact decide_eq_true r1)
  exact law9_yes sub s w p1 p2 p1.2.2 p2.2.2 q2 (by rw [empty_size]; exact decide_eq_false r1)
end Go.Proofs.YtoebgbojpkflnaaGreatDoor
