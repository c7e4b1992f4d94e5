/- Law 6, FnFind: the guards that fail, the sizes, all cases joined. -/
import Derived.Test.YtoebgbojpkflnaaGreatDoorLawSix
namespace Go.Proofs.YtoebgbojpkflnaaGreatDoor
open Go Go.RowKit
theorem tell_no {p : Prop} {b : Bool} (h : b = true ↔ p) (hn : ¬ p) : b = false := by cases b with | false => rfl | true => exact absurd (h.1 rfl) hn

set_option maxRecDepth 20000 in
set_option maxHeartbeats 1000000 in
theorem law6_no0 (sub s : ByteArray) (n : Int) (w : World) (hs : sub.size ≤ 2147483647) (hm : s.size ≤ 2147483647) (p1 : Hid (¬ FPlain sub)) :
    Calls Tryz.prog 6 #[.string sub, .string s, .int .i64 n] w fun e w' => e = .returned (.bool true) ∧ Below w.heap.size w w' := by
  go_enter Tryz.func6, Tryz.ntmps6
  go_wp2_with (first | (go_at_call_of 34 (sub); refine (plain_any sub hs _).mono ?_; rintro e w1 ⟨⟨b, rfl, hbf⟩, rfl⟩; obtain rfl := tell_no hbf p1.out; clear hbf) | (go_at_call 35; refine (findLives_any _).mono ?_; rintro e w1 ⟨rfl, hb1⟩))
  go_ret
  exact ⟨rfl, hb1⟩

set_option maxRecDepth 20000 in
set_option maxHeartbeats 1000000 in
theorem law6_no1 (sub s : ByteArray) (n : Int) (w : World) (hs : sub.size ≤ 2147483647) (hm : s.size ≤ 2147483647) (p1 : Hid (FPlain sub)) (p2 : Hid (¬ FPlain s)) :
    Calls Tryz.prog 6 #[.string sub, .string s, .int .i64 n] w fun e w' => e = .returned (.bool true) ∧ Below w.heap.size w w' := by
  go_enter Tryz.func6, Tryz.ntmps6
  go_wp2_with (first | (go_at_call_of 34 (sub); refine (plain_any sub hs _).mono ?_; rintro e w1 ⟨⟨b, rfl, hbf⟩, rfl⟩; obtain rfl := hbf.2 p1.out; clear hbf) | (go_at_call_of 34 (s); refine (plain_any s hm _).mono ?_; rintro e w1 ⟨⟨b, rfl, hbf⟩, rfl⟩; obtain rfl := tell_no hbf p2.out; clear hbf) | (go_at_call 35; refine (findLives_any _).mono ?_; rintro e w1 ⟨rfl, hb1⟩))
  go_ret
  exact ⟨rfl, hb1⟩

set_option maxRecDepth 20000 in
set_option maxHeartbeats 1000000 in
theorem law6_no2 (sub s : ByteArray) (n : Int) (w : World) (hs : sub.size ≤ 2147483647) (hm : s.size ≤ 2147483647) (p1 : Hid (FPlain sub)) (p2 : Hid (FPlain s)) (q1 : sub.toList.isEmpty = true) :
    Calls Tryz.prog 6 #[.string sub, .string s, .int .i64 n] w fun e w' => e = .returned (.bool true) ∧ Below w.heap.size w w' := by
  go_enter Tryz.func6, Tryz.ntmps6
  go_wp2_with (first | (go_at_call_of 34 (sub); refine (plain_any sub hs _).mono ?_; rintro e w1 ⟨⟨b, rfl, hbf⟩, rfl⟩; obtain rfl := hbf.2 p1.out; clear hbf) | (go_at_call_of 34 (s); refine (plain_any s hm _).mono ?_; rintro e w1 ⟨⟨b, rfl, hbf⟩, rfl⟩; obtain rfl := hbf.2 p2.out; clear hbf) | (go_at_call 35; refine (findLives_any _).mono ?_; rintro e w1 ⟨rfl, hb1⟩))
  go_ret
  exact ⟨rfl, hb1⟩

set_option maxRecDepth 20000 in
set_option maxHeartbeats 1000000 in
theorem law6_no3 (sub s : ByteArray) (n : Int) (w : World) (hs : sub.size ≤ 2147483647) (hm : s.size ≤ 2147483647) (p1 : Hid (FPlain sub)) (p2 : Hid (FPlain s)) (q1 : sub.toList.isEmpty = false) (r1 : n < 1) :
    Calls Tryz.prog 6 #[.string sub, .string s, .int .i64 n] w fun e w' => e = .returned (.bool true) ∧ Below w.heap.size w w' := by
  go_enter Tryz.func6, Tryz.ntmps6
  go_wp2_with (first | (go_at_call_of 34 (sub); refine (plain_any sub hs _).mono ?_; rintro e w1 ⟨⟨b, rfl, hbf⟩, rfl⟩; obtain rfl := hbf.2 p1.out; clear hbf) | (go_at_call_of 34 (s); refine (plain_any s hm _).mono ?_; rintro e w1 ⟨⟨b, rfl, hbf⟩, rfl⟩; obtain rfl := hbf.2 p2.out; clear hbf) | (go_at_call 35; refine (findLives_any _).mono ?_; rintro e w1 ⟨rfl, hb1⟩))
  go_ret
  exact ⟨rfl, hb1⟩

set_option maxRecDepth 20000 in
set_option maxHeartbeats 1000000 in
theorem law6_no4 (sub s : ByteArray) (n : Int) (w : World) (hs : sub.size ≤ 2147483647) (hm : s.size ≤ 2147483647) (p1 : Hid (FPlain sub)) (p2 : Hid (FPlain s)) (q1 : sub.toList.isEmpty = false) (r1 : 1 ≤ n) (r2 : (s.size : Int) < n) :
    Calls Tryz.prog 6 #[.string sub, .string s, .int .i64 n] w fun e w' => e = .returned (.bool true) ∧ Below w.heap.size w w' := by
  go_enter Tryz.func6, Tryz.ntmps6
  go_wp2_with (first | (go_at_call_of 34 (sub); refine (plain_any sub hs _).mono ?_; rintro e w1 ⟨⟨b, rfl, hbf⟩, rfl⟩; obtain rfl := hbf.2 p1.out; clear hbf) | (go_at_call_of 34 (s); refine (plain_any s hm _).mono ?_; rintro e w1 ⟨⟨b, rfl, hbf⟩, rfl⟩; obtain rfl := hbf.2 p2.out; clear hbf) | (go_at_call 35; refine (findLives_any _).mono ?_; rintro e w1 ⟨rfl, hb1⟩))
  go_ret
  exact ⟨rfl, hb1⟩

set_option maxRecDepth 20000 in
set_option maxHeartbeats 1000000 in
theorem law6_big1 (sub s : ByteArray) (n : Int) (w : World) (hs : 2147483647 < sub.size) (hs2 : sub.size ≤ 9223372036854775807) :
    Calls Tryz.prog 6 #[.string sub, .string s, .int .i64 n] w fun e w' => e = .returned (.bool true) ∧ Below w.heap.size w w' := by
  go_enter Tryz.func6, Tryz.ntmps6
  go_wp2
  go_ret
  exact ⟨rfl, Below.refl _ _⟩
set_option maxRecDepth 20000 in
set_option maxHeartbeats 1000000 in
theorem law6_big2 (sub s : ByteArray) (n : Int) (w : World) (hs : sub.size ≤ 2147483647) (hm : 2147483647 < s.size) (hm2 : s.size ≤ 9223372036854775807) :
    Calls Tryz.prog 6 #[.string sub, .string s, .int .i64 n] w fun e w' => e = .returned (.bool true) ∧ Below w.heap.size w w' := by
  go_enter Tryz.func6, Tryz.ntmps6
  go_wp2
  go_ret
  exact ⟨rfl, Below.refl _ _⟩

theorem law6_yes (sub s : ByteArray) (a : Nat) (w : World) (f1 : FPlain sub) (f2 : FPlain s) (hne : 0 < sub.size) (ha : a < s.size) :
    Calls Tryz.prog 6 #[.string sub, .string s, .int .i64 (a + 1)] w fun e w' => e = .returned (.bool true) ∧ Below w.heap.size w w' := by
  obtain ⟨k, hk⟩ := first_ex s sub a
  obtain ⟨m, hm⟩ := first_ex (lowS s) (lowS sub) a
  by_cases h1 : k < s.size
  all_goals by_cases h2 : m < s.size
  · exact law6_11 sub s a k m w f1 f2 hne ha f1.2.2 f2.2.2 hk hm h1 h2
  · exact law6_10 sub s a k m w f1 f2 hne ha f1.2.2 f2.2.2 hk hm h1 h2
  · exact law6_01 sub s a k m w f1 f2 hne ha f1.2.2 f2.2.2 hk hm h1 h2
  · exact law6_00 sub s a k m w f1 f2 hne ha f1.2.2 f2.2.2 hk hm h1 h2
theorem empty_size {s : ByteArray} : s.toList.isEmpty = decide (s.size = 0) := by
  rw [toList_bytes]
  have hl : s.data.toList.length = s.size := (by simp)
  rw [← hl]
  cases s.data.toList <;> simp
theorem law6_all (sub s : ByteArray) (n : Int) (w : World) (ws : sub.size ≤ maxLen) (wm : s.size ≤ maxLen) (wn : (Lit.int .i64 n).wf = true) :
    Calls Tryz.prog 6 #[.string sub, .string s, .int .i64 n] w fun e w' => e = .returned (.bool true) ∧ Below w.heap.size w w' := by
  have hn : -9223372036854775808 ≤ n ∧ n ≤ 9223372036854775807 := by simpa [Lit.wf, IntKind.min, IntKind.max, IntKind.signed, IntKind.bits] using wn
  simp only [maxLen] at ws wm
  by_cases a1 : sub.size ≤ 2147483647
  case neg => exact law6_big1 sub s n w (by omega) (by omega)
  by_cases a2 : s.size ≤ 2147483647
  case neg => exact law6_big2 sub s n w a1 (by omega) (by omega)
  by_cases p1 : FPlain sub
  case neg => exact law6_no0 sub s n w a1 a2 p1
  by_cases p2 : FPlain s
  case neg => exact law6_no1 sub s n w a1 a2 p1 p2
  by_cases q1 : sub.size = 0
  case pos => exact law6_no2 sub s n w a1 a2 p1 p2 (by rw [empty_size]; exact decide_eq_true q1)
  have q2 : sub.toList.isEmpty = false := by rw [empty_size]; exact decide_eq_false q1
  by_cases r1 : 1 ≤ n
  case neg => exact law6_no3 sub s n w a1 a2 p1 p2 q2 (by omega)
  by_cases r2 : n ≤ s.size
  case neg => exact law6_no4 sub s n w a1 a2 p1 p2 q2 r1 (by omega)
  obtain ⟨a, rfl⟩ : ∃ a : Nat, n = a + 1 := ⟨(n - 1).toNat, by omega⟩
  exact law6_yes sub s a w p1 p2 (by omega) (by omega)
end Go.Proofs.YtoebgbojpkflnaaGreatDoor
