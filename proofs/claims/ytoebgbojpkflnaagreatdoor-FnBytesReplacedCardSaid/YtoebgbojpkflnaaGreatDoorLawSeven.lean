/- Law 7, FnBytesReplaced: the walk by cases. -/
import Derived.Test.YtoebgbojpkflnaaGreatDoorAlive
import Derived.Deep.RegionWith
namespace Go.Proofs.YtoebgbojpkflnaaGreatDoor
open Go Go.RowKit

set_option maxRecDepth 20000 in
set_option maxHeartbeats 1000000 in
theorem law7_no0 (s more : ByteArray) (i n : Int) (w : World) (hs : s.size ≤ 2147483647) (hm : more.size ≤ 2147483647) (p1 : ¬ Printable s) :
    Calls Tryz.prog 7 #[.string s, .string more, .int .i64 i, .int .i64 n] w fun e w' => e = .returned (.bool true) ∧ Below w.heap.size w w' := by
  go_enter Tryz.func7, Tryz.ntmps7
  go_wp2_with (first | (go_at_call_of 42 (s); refine (ascii_no s hs p1 _).mono ?_; rintro e w1 ⟨rfl, rfl⟩) | (go_at_call 35; refine (findLives_any _).mono ?_; rintro e w1 ⟨rfl, hb1⟩))
  go_ret
  exact ⟨rfl, hb1⟩

set_option maxRecDepth 20000 in
set_option maxHeartbeats 1000000 in
theorem law7_no1 (s more : ByteArray) (i n : Int) (w : World) (hs : s.size ≤ 2147483647) (hm : more.size ≤ 2147483647) (p1 : Printable s) (p2 : ¬ Printable more) :
    Calls Tryz.prog 7 #[.string s, .string more, .int .i64 i, .int .i64 n] w fun e w' => e = .returned (.bool true) ∧ Below w.heap.size w w' := by
  go_enter Tryz.func7, Tryz.ntmps7
  go_wp2_with (first | (go_at_call_of 42 (s); refine (ascii_yes s hs p1 _).mono ?_; rintro e w1 ⟨rfl, rfl⟩) | (go_at_call_of 42 (more); refine (ascii_no more hm p2 _).mono ?_; rintro e w1 ⟨rfl, rfl⟩) | (go_at_call 35; refine (findLives_any _).mono ?_; rintro e w1 ⟨rfl, hb1⟩))
  go_ret
  exact ⟨rfl, hb1⟩

set_option maxRecDepth 20000 in
set_option maxHeartbeats 1000000 in
theorem law7_no2 (s more : ByteArray) (i n : Int) (w : World) (hs : s.size ≤ 2147483647) (hm : more.size ≤ 2147483647) (p1 : Printable s) (p2 : Printable more) (q1 : 500 < s.size) :
    Calls Tryz.prog 7 #[.string s, .string more, .int .i64 i, .int .i64 n] w fun e w' => e = .returned (.bool true) ∧ Below w.heap.size w w' := by
  go_enter Tryz.func7, Tryz.ntmps7
  go_wp2_with (first | (go_at_call_of 42 (s); refine (ascii_yes s hs p1 _).mono ?_; rintro e w1 ⟨rfl, rfl⟩) | (go_at_call_of 42 (more); refine (ascii_yes more hm p2 _).mono ?_; rintro e w1 ⟨rfl, rfl⟩) | (go_at_call 35; refine (findLives_any _).mono ?_; rintro e w1 ⟨rfl, hb1⟩))
  go_ret
  exact ⟨rfl, hb1⟩

set_option maxRecDepth 20000 in
set_option maxHeartbeats 1000000 in
theorem law7_no3 (s more : ByteArray) (i n : Int) (w : World) (hs : s.size ≤ 2147483647) (hm : more.size ≤ 2147483647) (p1 : Printable s) (p2 : Printable more) (q1 : s.size ≤ 500) (q2 : 500 < more.size) :
    Calls Tryz.prog 7 #[.string s, .string more, .int .i64 i, .int .i64 n] w fun e w' => e = .returned (.bool true) ∧ Below w.heap.size w w' := by
  go_enter Tryz.func7, Tryz.ntmps7
  go_wp2_with (first | (go_at_call_of 42 (s); refine (ascii_yes s hs p1 _).mono ?_; rintro e w1 ⟨rfl, rfl⟩) | (go_at_call_of 42 (more); refine (ascii_yes more hm p2 _).mono ?_; rintro e w1 ⟨rfl, rfl⟩) | (go_at_call 35; refine (findLives_any _).mono ?_; rintro e w1 ⟨rfl, hb1⟩))
  go_ret
  exact ⟨rfl, hb1⟩

set_option maxRecDepth 20000 in
set_option maxHeartbeats 1000000 in
theorem law7_no4 (s more : ByteArray) (i n : Int) (w : World) (hs : s.size ≤ 2147483647) (hm : more.size ≤ 2147483647) (p1 : Printable s) (p2 : Printable more) (q1 : s.size ≤ 500) (q2 : more.size ≤ 500) (r1 : i < 1) :
    Calls Tryz.prog 7 #[.string s, .string more, .int .i64 i, .int .i64 n] w fun e w' => e = .returned (.bool true) ∧ Below w.heap.size w w' := by
  go_enter Tryz.func7, Tryz.ntmps7
  go_wp2_with (first | (go_at_call_of 42 (s); refine (ascii_yes s hs p1 _).mono ?_; rintro e w1 ⟨rfl, rfl⟩) | (go_at_call_of 42 (more); refine (ascii_yes more hm p2 _).mono ?_; rintro e w1 ⟨rfl, rfl⟩) | (go_at_call 35; refine (findLives_any _).mono ?_; rintro e w1 ⟨rfl, hb1⟩))
  go_ret
  exact ⟨rfl, hb1⟩

set_option maxRecDepth 20000 in
set_option maxHeartbeats 1000000 in
theorem law7_no5 (s more : ByteArray) (i n : Int) (w : World) (hs : s.size ≤ 2147483647) (hm : more.size ≤ 2147483647) (p1 : Printable s) (p2 : Printable more) (q1 : s.size ≤ 500) (q2 : more.size ≤ 500) (r1 : 1 ≤ i) (r2 : n < 0) :
    Calls Tryz.prog 7 #[.string s, .string more, .int .i64 i, .int .i64 n] w fun e w' => e = .returned (.bool true) ∧ Below w.heap.size w w' := by
  go_enter Tryz.func7, Tryz.ntmps7
  go_wp2_with (first | (go_at_call_of 42 (s); refine (ascii_yes s hs p1 _).mono ?_; rintro e w1 ⟨rfl, rfl⟩) | (go_at_call_of 42 (more); refine (ascii_yes more hm p2 _).mono ?_; rintro e w1 ⟨rfl, rfl⟩) | (go_at_call 35; refine (findLives_any _).mono ?_; rintro e w1 ⟨rfl, hb1⟩))
  go_ret
  exact ⟨rfl, hb1⟩

set_option maxRecDepth 20000 in
set_option maxHeartbeats 1000000 in
theorem law7_no6 (s more : ByteArray) (i n : Int) (w : World) (hs : s.size ≤ 2147483647) (hm : more.size ≤ 2147483647) (p1 : Printable s) (p2 : Printable more) (q1 : s.size ≤ 500) (q2 : more.size ≤ 500) (r1 : 1 ≤ i) (r2 : 0 ≤ n) (r3 : (s.size : Int) < i - 1) (i2 : i ≤ 9223372036854775807) :
    Calls Tryz.prog 7 #[.string s, .string more, .int .i64 i, .int .i64 n] w fun e w' => e = .returned (.bool true) ∧ Below w.heap.size w w' := by
  go_enter Tryz.func7, Tryz.ntmps7
  go_wp2_with (first | (go_at_call_of 42 (s); refine (ascii_yes s hs p1 _).mono ?_; rintro e w1 ⟨rfl, rfl⟩) | (go_at_call_of 42 (more); refine (ascii_yes more hm p2 _).mono ?_; rintro e w1 ⟨rfl, rfl⟩) | (go_at_call 35; refine (findLives_any _).mono ?_; rintro e w1 ⟨rfl, hb1⟩))
  go_ret
  exact ⟨rfl, hb1⟩

set_option maxRecDepth 20000 in
set_option maxHeartbeats 1000000 in
theorem law7_no7 (s more : ByteArray) (i n : Int) (w : World) (hs : s.size ≤ 2147483647) (hm : more.size ≤ 2147483647) (p1 : Printable s) (p2 : Printable more) (q1 : s.size ≤ 500) (q2 : more.size ≤ 500) (r1 : 1 ≤ i) (r2 : 0 ≤ n) (r3 : i - 1 ≤ s.size) (r4 : (s.size : Int) - i + 1 < n) (i2 : i ≤ 9223372036854775807) :
    Calls Tryz.prog 7 #[.string s, .string more, .int .i64 i, .int .i64 n] w fun e w' => e = .returned (.bool true) ∧ Below w.heap.size w w' := by
  go_enter Tryz.func7, Tryz.ntmps7
  go_wp2_with (first | (go_at_call_of 42 (s); refine (ascii_yes s hs p1 _).mono ?_; rintro e w1 ⟨rfl, rfl⟩) | (go_at_call_of 42 (more); refine (ascii_yes more hm p2 _).mono ?_; rintro e w1 ⟨rfl, rfl⟩) | (go_at_call 35; refine (findLives_any _).mono ?_; rintro e w1 ⟨rfl, hb1⟩))
  go_ret
  exact ⟨rfl, hb1⟩

set_option maxRecDepth 20000 in
set_option maxHeartbeats 1000000 in
theorem law7_big1 (s more : ByteArray) (i n : Int) (w : World) (hs : 2147483647 < s.size) (hs2 : s.size ≤ 9223372036854775807) :
    Calls Tryz.prog 7 #[.string s, .string more, .int .i64 i, .int .i64 n] w fun e w' => e = .returned (.bool true) ∧ Below w.heap.size w w' := by
  go_enter Tryz.func7, Tryz.ntmps7
  go_wp2
  go_ret
  exact ⟨rfl, Below.refl _ _⟩
set_option maxRecDepth 20000 in
set_option maxHeartbeats 1000000 in
theorem law7_big2 (s more : ByteArray) (i n : Int) (w : World) (hs : s.size ≤ 2147483647) (hm : 2147483647 < more.size) (hm2 : more.size ≤ 9223372036854775807) :
    Calls Tryz.prog 7 #[.string s, .string more, .int .i64 i, .int .i64 n] w fun e w' => e = .returned (.bool true) ∧ Below w.heap.size w w' := by
  go_enter Tryz.func7, Tryz.ntmps7
  go_wp2
  go_ret
  exact ⟨rfl, Below.refl _ _⟩

theorem ok_atoms {i n : Int} {s t : ByteArray} (h1 : 1 ≤ i) (h2 : i ≤ 1000) (h3 : 0 ≤ n) (h4 : n ≤ 1000) : ∀ a ∈ [Atom.text s, .num (fx i 0), .num (fx n 0), .text t], a.Ok := by
  intro a ha
  simp at ha
  rcases ha with rfl | rfl | rfl | rfl
  · trivial
  · exact good_fx (by omega)
  · exact good_fx (by omega)
  · trivial
theorem one_text (s : ByteArray) : ∀ y ∈ [Atom.cells (.text s)], ∀ u ∈ y, u.oneCell' = true := by
  intro y hy u hu; simp at hy; subst hy; exact quad_one _ _ _ _ _ _ u hu
theorem one_nums (a b : Nat) : ∀ y ∈ [Atom.cells (.num a), Atom.cells (.num b)], ∀ u ∈ y, u.oneCell' = true := by
  intro y hy u hu; simp at hy; rcases hy with rfl | rfl <;> exact quad_one _ _ _ _ _ _ u hu

set_option maxRecDepth 20000 in
set_option maxHeartbeats 1000000 in
theorem law7_yes (s more : ByteArray) (i n : Int) (w : World) (p1 : Printable s) (p2 : Printable more) (q1 : s.size ≤ 500) (q2 : more.size ≤ 500) (r1 : 1 ≤ i) (r2 : 0 ≤ n) (r3 : i - 1 ≤ s.size) (r4 : n ≤ s.size - i + 1) :
    Calls Tryz.prog 7 #[.string s, .string more, .int .i64 i, .int .i64 n] w fun e w' => e = .returned (.bool true) ∧ Below w.heap.size w w' := by
  go_enter Tryz.func7, Tryz.ntmps7
  go_wp2_with (first | (go_at_call_of 42 (s); refine (ascii_yes s (by omega) p1 _).mono ?_; rintro e w1 ⟨rfl, rfl⟩) | (go_at_call_of 42 (more); refine (ascii_yes more (by omega) p2 _).mono ?_; rintro e w1 ⟨rfl, rfl⟩))
  have e1 : IntKind.i64.wrap (i - 1) = i - 1 := IntWalk.i64_in _ (by omega)
  have e2 : IntKind.i64.wrap (i - 1 + n) = i - 1 + n := IntWalk.i64_in _ (by omega)
  have x1 : 0 ≤ i - 1 := by omega
  have x3 : 0 ≤ i - 1 + n := by omega
  have x4 : i - 1 + n ≤ s.size := by omega
  go_quiet (fail)
  clear e1 e2 x1 x3 x4 p1 p2
  go_wp2_with fail
  refine abs_calls (fun w' => Blk w' w.heap.size 9 [.string s] ∧ Below w.heap.size w w') ⟨(Blk.new w 9 [.string s]), (below_drewN' (Below.refl _ _) _).alloc (Nat.le_refl _) _⟩ ?_
  rintro w1 ⟨hs1, hb1⟩
  refine (textArgs_any [s] w1 w.heap.size 1 (fun k x hk => hs1.get k (by match k with | 0 => simpa using hk | j + 1 => simp at hk)) hs1.lt (by simp)).mono ?_
  rintro e w2 ⟨va, rfl, ha, hb2⟩
  have HB2 : Hid (Below w.heap.size w w2) := hb1.trans (hb2.mono hb1.size)
  have HA2 : Hid (Arr w.heap.size w2 37 4 va [Atom.cells (.text s)]) := ha.base hb1.size
  clear ha hb1 hb2 hs1
  go_wp2_with fail
  refine (numArgs_any [i, n] (by intro x hx; simp at hx; rcases hx with rfl | rfl <;> omega) _ w2.heap.size 2 (fun k x hk => (Blk.new w2 3 [.int .i64 i, .int .i64 n]).get k (by match k with | 0 => simpa using hk | 1 => simpa using hk | j + 2 => simp at hk)) (by simp) (by simp)).mono ?_
  rintro e w3 ⟨vb, rfl, hbv, hb3⟩
  have HA3 : Hid (Arr w.heap.size w3 37 4 va [Atom.cells (.text s)]) := (HA2.out.alloc _).keep hb3
  have HV3 : Hid (Arr w2.heap.size w3 37 4 vb [Atom.cells (.num (fx i 0)), Atom.cells (.num (fx n 0))]) := hbv.base (by simp)
  have HB3 : Hid (Below w.heap.size w w3) := (HB2.out.alloc HB2.out.size _).trans (hb3.mono (by have := HB2.out.size; simp; omega))
  clear hbv hb3 HA2
  go_wp2_with (at_builtin; refine append_two rfl _ _ 29 rfl w.heap.size 37 _ 4 56 Tryz.underlying29 info37 rfl (by decide) (by decide) va _ rfl HA3.out vb _ _ rfl HV3.out (List.cons_ne_nil _ _) (one_nums _ _) (by simp) HB3.out.size ?_; intro v4 w4 harr4 hb4)
  have HA4 : Hid (Arr w.heap.size w4 37 4 v4 [Atom.cells (.text s), Atom.cells (.num (fx i 0)), Atom.cells (.num (fx n 0))]) := harr4
  have HB4 : Hid (Below w.heap.size w w4) := HB3.out.trans hb4
  clear harr4 hb4 HA3 HV3
  refine (textArgs_any [more] _ w4.heap.size 1 (fun k x hk => (Blk.new w4 9 [.string more]).get k (by match k with | 0 => simpa using hk | j + 1 => simp at hk)) (by simp) (by simp)).mono ?_
  rintro e w5 ⟨vc, rfl, hcv, hb5⟩
  have HA5 : Hid (Arr w.heap.size w5 37 4 v4 [Atom.cells (.text s), Atom.cells (.num (fx i 0)), Atom.cells (.num (fx n 0))]) := (HA4.out.alloc _).keep hb5
  have HV5 : Hid (Arr w4.heap.size w5 37 4 vc [Atom.cells (.text more)]) := hcv.base (by simp)
  have HB5 : Hid (Below w.heap.size w w5) := (HB4.out.alloc HB4.out.size _).trans (hb5.mono (by have := HB4.out.size; simp; omega))
  clear hcv hb5 HA4
  go_wp2_with (at_builtin; refine append_two rfl _ _ 29 rfl w.heap.size 37 _ 4 56 Tryz.underlying29 info37 rfl (by decide) (by decide) v4 _ rfl HA5.out vc _ _ rfl HV5.out (List.cons_ne_nil _ _) (one_text _) (by simp) HB5.out.size ?_; intro v6 w6 harr6 hb6)
  have HA6 : Hid (ArgsAt w6 37 v6 [Atom.text s, .num (fx i 0), .num (fx n 0), .text more]) := ⟨harr6.base (Nat.zero_le _), by simp, by simp, ok_atoms r1 (by omega) r2 (by omega)⟩
  have HB6 : Hid (Below w.heap.size w w6) := HB5.out.trans hb6
  clear harr6 hb6 HA5 HV5
  have hrg := repl_gives s more (i - 1).toNat n.toNat (by omega) q1 q2
  rw [show (((i - 1).toNat : Nat) : Int) + 1 = i by omega, show ((n.toNat : Nat) : Int) = n by omega] at hrg
  refine (repl_impl _ _ v6 w6 HA6.out hrg).mono ?_
  rintro e w7 ⟨r, rfl, rfl, hb7⟩
  have HB7 : Hid (Below w.heap.size w w7) := HB6.out.trans (hb7.mono HB6.out.size)
  clear hb7 HA6 hrg
  go_wp2_with (go_at_call 45; go_in)
  have hsp : spliced s more (i.toNat - 1) (i.toNat - 1 + n.toNat) = s.extract 0 (i.toNat - 1) ++ more ++ s.extract (i - 1 + n).toNat s.size := by
    rw [show (i - 1 + n).toNat = i.toNat - 1 + n.toNat by omega]; rfl
  rw [hsp]
  refine (same_true (.text (s.extract 0 (i.toNat - 1) ++ more ++ s.extract (i - 1 + n).toNat s.size)) _ trivial).mono ?_
  rintro e w8 ⟨rfl, hb8⟩
  have HB8 : Hid (Below w.heap.size w w8) := (HB7.out.alloc HB7.out.size _).trans (hb8.mono (by have := HB7.out.size; simp; omega))
  clear hb8
  go_wp2_with (go_at_call 35; refine (findLives_any _).mono ?_; rintro e w9 ⟨rfl, hb9⟩)
  go_ret
  exact ⟨rfl, HB8.out.trans (hb9.mono HB8.out.size)⟩
end Go.Proofs.YtoebgbojpkflnaaGreatDoor
