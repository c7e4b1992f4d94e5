/- Proof of FnSquaresJoined, a part: Law 3: the sum of the squares of differences is the sum of the squares less twice the sum of the products, and so on: FnSquaresJoined answers true, whatever the two slices hold. -/
import Derived.Outline
import Derived.Test.YtoebgbojpkflnaaGreatDoorJRestThree
import Derived.Test.YtoebgbojpkflnaaGreatDoorJSmalls
namespace Go.Proofs.YtoebgbojpkflnaaGreatDoor
open Go Go.RowKit
theorem ints_cells {B : Nat} {w : World} {g n c : Nat} {ss : List Int} (h : Ints B w (.slice (some ⟨g, 0, none⟩) n c) ss) (i : Nat) (s : Int) (hs : ss[i]? = some s) : w.cell? ⟨g, i, none⟩ = some (.int .i64 s) := by
  have := h.cell0 (x := [.int .i64 s]) (u := .int .i64 s) (by rw [List.getElem?_map, hs]; rfl) rfl
  rwa [Nat.mul_one] at this
theorem take_cells {B : Nat} {w : World} {g n c : Nat} {ss : List Int} (h : Ints B w (.slice (some ⟨g, 0, none⟩) n c) ss) (k i : Nat) (s : Int) (hs : (ss.take k)[i]? = some s) : w.cell? ⟨g, i, none⟩ = some (.int .i64 s) := by
  rw [List.getElem?_take] at hs
  split at hs
  · exact ints_cells h i s hs
  · cases hs
theorem ints_form {B : Nat} {w : World} {v : Value} {ss : List Int} (h : Ints B w v ss) : ∃ p c, v = .slice p ss.length c ∧ (0 < ss.length → ∃ g, p = some ⟨g, 0, none⟩ ∧ g < w.heap.size ∧ ss.length ≤ c) := by
  rcases h.shape with ⟨h1, h2⟩ | ⟨g, c, h1, _, h3, h4, _⟩
  · rw [List.map_eq_nil_iff] at h2; subst h2; exact ⟨none, 0, h1, fun h => absurd h (by simp)⟩
  · rw [List.length_map] at h1 h4; exact ⟨_, c, h1, fun _ => ⟨g, rfl, h3, h4⟩⟩
theorem min_if (k2 k4 k : Nat) (h : k = min k2 k4) : (if k4 < k2 then (k4 : Int) else (k2 : Int)) = (k : Int) := by split <;> omega
theorem ne_zero {k : Nat} (h : k ≠ 0) : ((k : Int) == 0) = false := by rw [beq_eq_false_iff_ne]; omega
theorem min_cast (k2 k4 : Nat) : min (k2 : Int) (k4 : Int) = ((min k2 k4 : Nat) : Int) := by omega
theorem one_cell {g : Nat} {w : World} {s0 : Int} (hb : Blk w g 3 [.int .i64 s0]) (i : Nat) (s : Int) (hs : [s0][i]? = some s) : w.cell? ⟨g, i, none⟩ = some (.int .i64 s) := by
  match i, hs with
  | 0, hs => simp at hs; subst hs; exact hb.get 0 rfl
  | k + 1, hs => simp at hs
theorem small32 : SmallInts [3] ∧ SmallInts [2] := ⟨by intro s h; simp at h; omega, by intro s h; simp at h; omega⟩
set_option maxRecDepth 20000 in
set_option maxHeartbeats 8000000 in
theorem law3_any (n c m d : Nat) (A B : Option Addr) (f g : Nat → Int) (w : World) (hn : n ≤ 2147483647) (hm : m ≤ 2147483647) (hc : ∀ i, i < n → ∃ a, A = some a ∧ w.cell? (a.add i) = some (.int .i64 (f i))) (hd : ∀ i, i < m → ∃ a, B = some a ∧ w.cell? (a.add i) = some (.int .i64 (g i))) (hv : Vars w) :
    Calls Tryz.prog 3 #[.slice A n c, .slice B m d] w fun e w' => e = .returned (.bool true) ∧ Below w.heap.size w w' := by
  have HC := Lib.hid hc
  have HD := Lib.hid hd
  have HV := Lib.hid hv
  have d1 : decide (2147483647 < (n : Int)) = false := (by simp; omega)
  have d2 : decide (2147483647 < (m : Int)) = false := (by simp; omega)
  clear hc hd hv
  go_enter Tryz.func3, Tryz.ntmps3
  go_wp2_with fail
  refine (sumsSmall_any n c A f _ HC.out hn).mono ?_
  rintro e w1 ⟨v1, s1, rfl, ha1, hr1, hl1, hb1⟩
  have HS1 := Lib.hid (And.intro ha1 (And.intro hr1 (And.intro hl1 hb1)))
  clear ha1 hr1 hl1 hb1
  go_wp2_with fail
  refine (sumsFull_any s1 HS1.out.2.1 HS1.out.2.2.1 v1 _ (HS1.out.1.base (Nat.zero_le _))).mono ?_
  rintro e w2 ⟨v2, s2, rfl, ha2, hr2, hl2, hb2⟩
  have ha2' := ha2
  have HS2 := Lib.hid (And.intro ha2 (And.intro hr2 (And.intro hl2 (HS1.out.2.2.2.trans (hb2.mono HS1.out.2.2.2.size)))))
  clear ha2 hr2 hl2 hb2
  go_wp2_with fail
  refine (sumsSmall_any m d B g _ (fun i hi => let ⟨a, h1, h2⟩ := HD.out i hi; ⟨a, h1, (HS2.out.2.2.2.cell (World.block_lt_of_cell? w (a.add i) h2)).trans h2⟩) hm).mono ?_
  rintro e w3 ⟨v3, s3, rfl, ha3, hr3, hl3, hb3⟩
  have HS3 := Lib.hid (And.intro ha3 (And.intro hr3 (And.intro hl3 hb3)))
  clear ha3 hr3 hl3 hb3
  go_wp2_with fail
  refine (sumsFull_any s3 HS3.out.2.1 HS3.out.2.2.1 v3 _ (HS3.out.1.base (Nat.zero_le _))).mono ?_
  rintro e w4 ⟨v4, s4, rfl, ha4, hr4, hl4, hb4⟩
  have HS4 := Lib.hid (And.intro ha4 (And.intro hr4 (And.intro hl4 (HS3.out.2.2.2.trans (hb4.mono HS3.out.2.2.2.size)))))
  have HL2 : Hid (s2.length ≤ 50) := Lib.hid (by have := HS2.out.2.2.1; have := HS1.out.2.2.1; omega)
  have HL4 : Hid (s4.length ≤ 50) := Lib.hid (by have := HS4.out.2.2.1; have := HS3.out.2.2.1; omega)
  obtain ⟨p2, c2, rfl, f2⟩ := ints_form ha2'
  obtain ⟨p4, c4, rfl, f4⟩ := ints_form ha4
  have HB4 : Hid (Below w.heap.size w w4) := HS2.out.2.2.2.trans (HS4.out.2.2.2.mono HS2.out.2.2.2.size)
  have HV4 := Lib.hid (HV.out.below HB4.out)
  have HI2 := Lib.hid ((HS2.out.1.keep HS4.out.2.2.2).base (Nat.zero_le _))
  have HI4 := Lib.hid (HS4.out.1.base (Nat.zero_le _))
  have HR2 := Lib.hid HS2.out.2.1
  have HR4 := Lib.hid HS4.out.2.1
  have hw24 := HS4.out.2.2.2.size
  obtain ⟨k2, hk2⟩ : ∃ k, k = s2.length := ⟨_, rfl⟩
  obtain ⟨k4, hk4⟩ : ∃ k, k = s4.length := ⟨_, rfl⟩
  rw [← hk2] at f2 ⊢ HI2 HL2
  rw [← hk4] at f4 ⊢ HI4 HL4
  clear HS1 HS2 HS3 HS4 HC HD HV ha2' ha4 hr4 hl4 hb4
  by_cases h0 : min k2 k4 = 0
  · have hmin : (if k4 < k2 then (k4 : Int) else (k2 : Int)) = 0 := min_if k2 k4 0 h0.symm
    clear h0 f2 f4 hw24
    go_wp2_with fail
    rename_i K hK
    have hb3 : Below w4.heap.size w4 ((w4.alloc (.cells #[.int .i64 3] 3)).alloc (.cells #[.int .i64 2] 3)) := ((Below.refl _ _).alloc (Nat.le_refl _) _).alloc (by simp) _
    have hb2 := Blk.new (w4.alloc (.cells #[.int .i64 3] 3)) 3 [.int .i64 2]
    rw [show (w4.alloc (.cells #[.int .i64 3] 3)).heap.size = w4.heap.size + 1 by simp] at hb2
    refine Code.wp_mono ?_ (cols3_any [3] [2] 1 w4.heap.size 1 1 (w4.heap.size + 1) 1 1 rfl rfl (by decide) (by decide) (by decide) small32.1 small32.2 _ _ _ _ _ _ _ _ _ _ _ _ _ _ _ _ _ _ _ _ _ _ _ _ (by simp; omega) (by simp) ?_ ?_)
    · rintro _ a w5 ⟨rfl, g6, g7, v47, v51, rfl, z6, z7, t47, t51, hb5⟩
      obtain ⟨bP, bQ, bR, bS, bT, bU, p, q, r, s, t, u, h6⟩ := six_ok [3] [2] 1 rfl rfl (by decide) (by decide) small32.1 small32.2
      have hbw := hb3.trans (hb5.mono (by simp; omega))
      exact hK _ _ (rest3_any [3] [2] small32.1 small32.2 (by decide) (by decide) bP bQ bR bS bT bU p q r s t u h6 _ _ _ _ _ _ _ _ _ _ _ _ _ _ _ _ _ _ _ _ _ _ _ _ _ _ _ _ _ _ _ _ _ _ v47 v51 g6 g7 w w5 z6 z7 t47 t51 (HV4.out.below hbw) (HB4.out.trans (hbw.mono HB4.out.size)))
    · exact one_cell ((Blk.new w4 3 [.int .i64 3]).alloc _)
    · exact one_cell hb2
  · obtain ⟨g2, rfl, hg2, hc2⟩ := f2 (by omega)
    obtain ⟨g4, rfl, hg4, hc4⟩ := f4 (by omega)
    obtain ⟨k, hk⟩ : ∃ k : Nat, k = min k2 k4 := ⟨_, rfl⟩
    have hmin : (if k4 < k2 then (k4 : Int) else (k2 : Int)) = (k : Int) := min_if k2 k4 k hk
    have h0' := ne_zero (k := k) (by rw [hk]; exact h0)
    have HM : Hid (min (k2 : Int) (k4 : Int) = (k : Int)) := Lib.hid (by rw [hk]; exact min_cast k2 k4)
    have HP : Hid (0 < k) := Lib.hid (by rw [hk]; exact Nat.pos_of_ne_zero h0)
    have HK := Lib.hid (And.intro hk (And.intro hk2 hk4))
    have HG := Lib.hid (And.intro (Nat.lt_of_lt_of_le hg2 hw24) (And.intro hg4 (And.intro hc2 hc4)))
    clear hk hk2 hk4 h0 f2 f4 hw24 hg2 hg4 hc2 hc4
    go_wp2_with fail
    rename_i K hK
    rw [HM.out]
    have l2 : (s2.take k).length = k := (by rw [List.length_take, ← HK.out.2.1]; have := HK.out.1; omega)
    have l4 : (s4.take k).length = k := (by rw [List.length_take, ← HK.out.2.2]; have := HK.out.1; omega)
    have x2 : SmallInts (s2.take k) := SmallInts.take HR2.out k
    have x4 : SmallInts (s4.take k) := SmallInts.take HR4.out k
    have k50 : k ≤ 50 := (by have := HK.out.1; have := HL2.out; omega)
    refine Code.wp_mono ?_ (cols3_any (s2.take k) (s4.take k) k g2 k2 c2 g4 k4 c4 l2 l4 k50 (by have := HK.out.1; have := HG.out.2.2.1; omega) (by have := HK.out.1; have := HG.out.2.2.2; omega) x2 x4 _ _ _ _ _ _ _ _ _ _ _ _ _ _ _ _ _ _ _ _ _ _ _ _ HG.out.1 HG.out.2.1 (take_cells HI2.out k) (take_cells HI4.out k))
    rintro _ a w5 ⟨rfl, g6, g7, v47, v51, rfl, z6, z7, t47, t51, hb5⟩
    obtain ⟨bP, bQ, bR, bS, bT, bU, p, q, r, s, t, u, h6⟩ := six_ok (s2.take k) (s4.take k) k l2 l4 HP.out k50 x2 x4
    exact hK _ _ (rest3_any (s2.take k) (s4.take k) x2 x4 (by omega) (by omega) bP bQ bR bS bT bU p q r s t u h6 _ _ _ _ _ _ _ _ _ _ _ _ _ _ _ _ _ _ _ _ _ _ _ _ _ _ _ _ _ _ _ _ _ _ v47 v51 g6 g7 w w5 z6 z7 t47 t51 (HV4.out.below hb5) (HB4.out.trans (hb5.mono HB4.out.size)))
theorem law3_all (n c m d : Nat) (A B : Option Addr) (f g : Nat → Int) (w : World) (hc : ∀ i, i < n → ∃ a, A = some a ∧ w.cell? (a.add i) = some (.int .i64 (f i))) (hd : ∀ i, i < m → ∃ a, B = some a ∧ w.cell? (a.add i) = some (.int .i64 (g i))) (hv : Vars w) :
    Calls Tryz.prog 3 #[.slice A n c, .slice B m d] w fun e w' => e = .returned (.bool true) ∧ Below w.heap.size w w' := by
  by_cases hn : n ≤ 2147483647
  · by_cases hm : m ≤ 2147483647
    · exact law3_any n c m d A B f g w hn hm hc hd hv
    · clear hc hd hv
      have d1 : decide (2147483647 < (n : Int)) = false := (by simp; omega)
      have d2 : decide (2147483647 < (m : Int)) = true := (by simp; omega)
      go_enter Tryz.func3, Tryz.ntmps3
      go_wp2_with fail
      go_ret
      exact ⟨rfl, Below.refl _ _⟩
  · clear hc hd hv
    have d1 : decide (2147483647 < (n : Int)) = true := (by simp; omega)
    go_enter Tryz.func3, Tryz.ntmps3
    go_wp2_with fail
    go_ret
    exact ⟨rfl, Below.refl _ _⟩
end Go.Proofs.YtoebgbojpkflnaaGreatDoor
