/- The spec's sums: Frac, Less, Add, sum; at whole numbers. -/
import Derived.Test.YtoebgbojpkflnaaGreatDoorNums
import Derived.Test.YtoebgbojpkflnaaGreatDoorOfTab
import Derived.StillTailTactics
import Derived.IntWalk
namespace Go.Proofs.YtoebgbojpkflnaaGreatDoor
open Go Go.RowKit
def dCells : List Value := [.int .i64 6, .int .i64 0, .int .i64 0, .string ⟨#[]⟩, .slice none 0 0]
theorem doubt_any (w : World) : Calls Tryz.prog 61 #[] w fun e w' => e = .returned (.agg #[.int .i64 6, .int .i64 0, .int .i64 0, .string ⟨#[]⟩, .slice none 0 0]) ∧ Below w.heap.size w w' := by
  go_enter Tryz.func61, Tryz.ntmps61
  go_wp2
  go_returns
  exact ⟨rfl, by go_grown⟩
/-- A half, again and again, while it is whole: what Frac's loop leaves. -/
def Fr (c a d : Nat) : Prop := (d = 1 ∨ d = 2 ∨ d = 4 ∨ d = 8 ∨ d = 16) ∧ a * 16 = c * d ∧ (d = 1 ∨ a % 2 = 1)
set_option maxRecDepth 20000 in
set_option maxHeartbeats 2000000 in
theorem frac_no (n d : Nat) (hn : n ≤ 1000000000) (hd : 1 ≤ d) (hd2 : d ≤ 1000) (h : n * 16 % d ≠ 0) (w : World) :
    Calls Tryz.prog 91 #[.int .i64 n, .int .i64 d] w fun e w' => e = .returned (.agg #[.int .i64 6, .int .i64 0, .int .i64 0, .string ⟨#[]⟩, .slice none 0 0]) ∧ Below w.heap.size w w' := by
  have hr : (((n : Int) * 16).tmod (d : Int) != 0) = true := (by
    rw [bne_iff_ne, Int.tmod_eq_emod_of_nonneg (by omega)]
    intro hh
    apply h
    have : ((n * 16 % d : Nat) : Int) = 0 := by push_cast; exact hh
    omega)
  have hr2 : (((n : Int) * 16) % (d : Int) != 0) = true := (by
    rw [Int.tmod_eq_emod_of_nonneg (by omega)] at hr; exact hr)
  clear h
  go_enter Tryz.func91, Tryz.ntmps91
  go_wp2_with fail
  refine (doubt_any _).mono ?_
  rintro e w4 ⟨rfl, hb4⟩
  have HG4 : Hid (Blk w4 w.heap.size 27 [.int .i64 0, .int .i64 0, .int .i64 0, .string ⟨#[]⟩, .slice none 0 0]) := (Blk.new w 27 [.int .i64 0, .int .i64 0, .int .i64 0, .string ⟨#[]⟩, .slice none 0 0]).below hb4 (by simp)
  have HB4 : Hid (Below w.heap.size w w4) := Below.trans (by go_grown) (hb4.mono (by simp))
  clear hb4
  go_wp2_with (refine store_row rfl 27 (.tmp 4) (.tmp 32) rfl w.heap.size 27 [.int .i64 0, .int .i64 0, .int .i64 0, .string ⟨#[]⟩, .slice none 0 0] [.int .i64 6, .int .i64 0, .int .i64 0, .string ⟨#[]⟩, .slice none 0 0] rfl rfl HG4.out sz27 rfl rfl w.heap.size (Nat.le_refl _) ?_; intro w6 hr6 hb6 _)
  exact bodyPost_ret (ret_row rfl _ _ w.heap.size 27 [.int .i64 6, .int .i64 0, .int .i64 0, .string ⟨#[]⟩, .slice none 0 0] _ rfl hr6 Tryz.underlying27 rfl sz27) rfl ⟨rfl, HB4.out.trans hb6⟩
set_option maxRecDepth 20000 in
set_option maxHeartbeats 4000000 in
theorem frac_yes (n d c : Nat) (hn : n ≤ 1000000000) (hd : 1 ≤ d) (hd2 : d ≤ 1000) (h : n * 16 = c * d) (w : World) :
    Calls Tryz.prog 91 #[.int .i64 n, .int .i64 d] w fun e w' => (∃ a d' : Nat, Fr c a d' ∧ e = .returned (.agg #[.int .i64 1, .int .i64 a, .int .i64 d', .string ⟨#[]⟩, .slice none 0 0])) ∧ Below w.heap.size w w' := by
  have hd0 : ((d : Int) == 0) = false := (by simp; omega)
  have hc : c ≤ 16000000000 := (by
    have := Nat.le_mul_of_pos_right c (show 0 < d by omega)
    omega)
  have hz : n * 16 % d = 0 := (by rw [h]; exact Nat.mul_mod_left _ _)
  have hq : n * 16 / d = c := (by rw [h]; exact Nat.mul_div_cancel _ (by omega))
  have hr2 : (((n : Int) * 16) % (d : Int) != 0) = false := (by
    rw [bne_eq_false_iff_eq]
    have : ((n * 16 % d : Nat) : Int) = 0 := by rw [hz]; rfl
    push_cast at this; exact this)
  have hr : (((n : Int) * 16).tmod (d : Int) != 0) = false := (by
    rw [Int.tmod_eq_emod_of_nonneg (by omega)]; exact hr2)
  have hq2 : ((n : Int) * 16) / (d : Int) = (c : Int) := (by
    have : ((n * 16 / d : Nat) : Int) = (c : Int) := by rw [hq]
    push_cast at this; exact this)
  have hq3 : ((n : Int) * 16).tdiv (d : Int) = (c : Int) := (by
    rw [Int.tdiv_eq_ediv_of_nonneg (by omega)]; exact hq2)
  clear h hz hq
  go_enter Tryz.func91, Tryz.ntmps91
  go_wp2_with fail
  go_loop [0, 1] (fun x y => ∃ a d : Nat, (d = 1 ∨ d = 2 ∨ d = 4 ∨ d = 8 ∨ d = 16) ∧ a * 16 = c * d ∧ x = .int .i64 a ∧ y = .int .i64 d) (fun _ y => (intOf y).toNat)
  case atStart => exact ⟨c, 16, by omega, rfl, rfl, rfl⟩
  case round =>
    obtain ⟨a, d, hd, had, rfl, rfl⟩ := hrel
    have HAD := Lib.hid had
    have ha : a ≤ 16000000000 := (by rcases hd with rfl | rfl | rfl | rfl | rfl <;> omega)
    clear had
    by_cases h1 : d = 1
    · subst h1
      have HFR : Hid (Fr c a 1) := (by show Fr c a 1; exact ⟨.inl rfl, HAD.out, .inl rfl⟩)
      clear hd
      go_wp2_with fail
      go_returns
      exact ⟨⟨a, 1, HFR.out, rfl⟩, by go_grown⟩
    · by_cases h2 : a % 2 = 0
      · have e2 : a / 2 * 16 = c * (d / 2) := (by have := HAD.out; rcases hd with rfl | rfl | rfl | rfl | rfl <;> omega)
        have HE2 := Lib.hid e2
        have hdd : 2 ≤ d := (by omega)
        have hd16 : d ≤ 16 := (by omega)
        have HD := Lib.hid hd
        have t1 : ((a : Int) % 2 == 0) = true := (by rw [beq_iff_eq]; omega)
        clear e2 hd
        go_wp2_with fail
        refine ⟨⟨a / 2, d / 2, by have := HD.out; omega, HE2.out, by go_num, by go_num⟩, by simp [intOf]; omega⟩
      · have t1 : ((a : Int) % 2 == 0) = false := (by rw [beq_eq_false_iff_ne]; omega)
        have HFR : Hid (Fr c a d) := (by show Fr c a d; exact ⟨hd, HAD.out, by omega⟩)
        have hd16 : d ≤ 16 := (by omega)
        have hd1 : 1 ≤ d := (by omega)
        clear hd
        go_wp2_with fail
        go_returns
        exact ⟨⟨a, d, HFR.out, rfl⟩, by go_grown⟩
theorem fr_whole {t a d : Nat} (h : Fr (t * 16) a d) : a = t ∧ d = 1 := by
  obtain ⟨h1, h2, h3⟩ := h
  rcases h1 with rfl | rfl | rfl | rfl | rfl <;> omega
theorem frac_whole (m : Int) (t : Nat) (hm : m = ((t * 16 : Nat) : Int)) (ht : t ≤ 10000000) (w : World) :
    Calls Tryz.prog 91 #[.int .i64 m, .int .i64 16] w fun e w' => e = .returned (.agg #[.int .i64 1, .int .i64 t, .int .i64 1, .string ⟨#[]⟩, .slice none 0 0]) ∧ Below w.heap.size w w' := by
  subst hm
  refine (frac_yes (t * 16) 16 (t * 16) (by omega) (by omega) (by omega) rfl w).mono ?_
  rintro e w' ⟨⟨a, d, hf, rfl⟩, hb⟩
  obtain ⟨rfl, rfl⟩ := fr_whole hf
  exact ⟨rfl, hb⟩
set_option maxRecDepth 20000 in
set_option maxHeartbeats 2000000 in
theorem less_any (a b : Nat) (ha : a ≤ 10000000) (hb : b ≤ 10000000) (w : World) :
    Calls Tryz.prog 118 #[.agg #[.int .i64 1, .int .i64 a, .int .i64 1, .string ⟨#[]⟩, .slice none 0 0], .agg #[.int .i64 1, .int .i64 b, .int .i64 1, .string ⟨#[]⟩, .slice none 0 0]] w fun e w' => e = .returned (.bool (decide (a < b))) ∧ Below w.heap.size w w' := by
  go_enter Tryz.func118, Tryz.ntmps118
  go_wp2
  go_quiet (fail)
  go_wp2
  go_ret
  exact ⟨by simp, below_drewN' (by go_grown) _⟩
set_option maxRecDepth 20000 in
set_option maxHeartbeats 2000000 in
theorem add_any (a b : Nat) (ha : a ≤ 10000000) (hb : b ≤ 10000000) (h : a + b ≤ 10000000) (w : World) :
    Calls Tryz.prog 119 #[.agg #[.int .i64 1, .int .i64 a, .int .i64 1, .string ⟨#[]⟩, .slice none 0 0], .agg #[.int .i64 1, .int .i64 b, .int .i64 1, .string ⟨#[]⟩, .slice none 0 0]] w fun e w' => e = .returned (.agg #[.int .i64 1, .int .i64 ((a + b : Nat) : Int), .int .i64 1, .string ⟨#[]⟩, .slice none 0 0]) ∧ Below w.heap.size w w' := by
  go_enter Tryz.func119, Tryz.ntmps119
  go_wp2
  refine abs_wp (fun w' => Blk w' w.heap.size 27 [.int .i64 1, .int .i64 a, .int .i64 1, .string ⟨#[]⟩, .slice none 0 0] ∧ Blk w' (w.heap.size + 1) 27 [.int .i64 1, .int .i64 b, .int .i64 1, .string ⟨#[]⟩, .slice none 0 0] ∧ Blk w' (w.heap.size + 1 + 1) 27 [.int .i64 0, .int .i64 0, .int .i64 0, .string ⟨#[]⟩, .slice none 0 0] ∧ Below w.heap.size w w') ⟨((Blk.new w 27 _).alloc _).alloc _, (blk_at (by simp) (Blk.new (w.alloc _) 27 [.int .i64 1, .int .i64 b, .int .i64 1, .string ⟨#[]⟩, .slice none 0 0])).alloc _, blk_at (by simp) (Blk.new ((w.alloc _).alloc _) 27 [.int .i64 0, .int .i64 0, .int .i64 0, .string ⟨#[]⟩, .slice none 0 0]), by go_grown⟩ ?_
  rintro w1 ⟨ha1, hb1, hc1, hw1⟩
  have a1 := ha1.get 1 rfl
  have a2 := ha1.get 2 rfl
  have b1 := hb1.get 1 rfl
  have b2 := hb1.get 2 rfl
  have HC := Lib.hid hc1
  have HW := Lib.hid hw1
  have la := ha1.lt
  have lb := hb1.lt
  have lc := hc1.lt
  clear ha1 hb1 hc1 hw1
  have w16 : IntKind.i64.wrap 16 = 16 := by decide
  have wa : IntKind.i64.wrap ((a : Int) * 16) = (a : Int) * 16 := IntWalk.i64_in _ (by omega)
  have wb : IntKind.i64.wrap ((b : Int) * 16) = (b : Int) * 16 := IntWalk.i64_in _ (by omega)
  have wc : IntKind.i64.wrap ((a : Int) * 16 + (b : Int) * 16) = (a : Int) * 16 + (b : Int) * 16 := IntWalk.i64_in _ (by omega)
  go_still_tail 13, (by kernel_rfl)
  change wpList _ _ _ _ _ w1.drew
  go_wp2_with fail
  refine (frac_whole _ (a + b) (by push_cast; omega) h _).mono ?_
  rintro e w2 ⟨rfl, hb2⟩
  have HB2 : Hid (Below w.heap.size w w2) := (below_drewN' HW.out 1).trans (hb2.mono HW.out.size)
  have HC2 : Hid (Blk w2 (w.heap.size + 1 + 1) 27 [.int .i64 0, .int .i64 0, .int .i64 0, .string ⟨#[]⟩, .slice none 0 0]) := (HC.out.drewN 1).below hb2 lc
  clear hb2
  go_wp2_with (refine store_row rfl 27 (.tmp 4) (.tmp 27) rfl (w.heap.size + 1 + 1) 27 [.int .i64 0, .int .i64 0, .int .i64 0, .string ⟨#[]⟩, .slice none 0 0] (iCells ((a + b : Nat) : Int)) rfl rfl HC2.out sz27 rfl rfl w.heap.size (by omega) ?_; intro w6 hr6 hb6 _)
  exact bodyPost_ret (ret_row rfl _ _ (w.heap.size + 1 + 1) 27 (iCells ((a + b : Nat) : Int)) _ rfl hr6 Tryz.underlying27 rfl sz27) rfl ⟨rfl, HB2.out.trans hb6⟩

theorem iCells_len (n : Int) : (iCells n).length = 5 := rfl
set_option maxRecDepth 20000 in
set_option maxHeartbeats 2000000 in
theorem sum_any (ns : List Nat) (hs : ∀ n ∈ ns, n ≤ 100000) (w : World) (g c : Nat) (hrow : Arr 0 w 27 5 (.slice (some ⟨g, 0, none⟩) ns.length c) (ns.map fun n : Nat => iCells (n : Int))) (hl : ns.length ≤ 60) :
    Calls Tryz.prog 90 #[.slice (some ⟨g, 0, none⟩) ns.length c] w fun e w' => e = .returned (.agg #[.int .i64 1, .int .i64 (ns.sum : Nat), .int .i64 1, .string ⟨#[]⟩, .slice none 0 0]) ∧ Below w.heap.size w w' := by
  have HR := Lib.hid hrow
  have HS := Lib.hid hs
  obtain ⟨n, hnn⟩ : ∃ n, n = ns.length := ⟨_, rfl⟩
  have HN : Hid (n = ns.length) := hnn
  rw [← hnn] at hl HR ⊢
  clear hnn hrow hs
  go_enter Tryz.func90, Tryz.ntmps90
  go_wp2_with fail
  refine (int_spec 0 (by decide) (by decide) _).mono ?_
  rintro e w1 ⟨rfl, hb1⟩
  have HA1 : Hid (Blk w1 w.heap.size 27 [.int .i64 0, .int .i64 0, .int .i64 0, .string ⟨#[]⟩, .slice none 0 0]) := (Blk.new w 27 [.int .i64 0, .int .i64 0, .int .i64 0, .string ⟨#[]⟩, .slice none 0 0]).below hb1 (by simp)
  have HB1 : Hid (Below w.heap.size w w1) := Below.trans (by go_grown) (hb1.mono (by simp))
  have lt1 : w.heap.size < w1.heap.size := HA1.out.lt
  clear hb1
  go_wp2_with (refine store_row rfl 27 (.tmp 3) (.tmp 5) rfl w1.heap.size 27 [.int .i64 0, .int .i64 0, .int .i64 0, .string ⟨#[]⟩, .slice none 0 0] (iCells 0) rfl rfl (Blk.new w1 27 [.int .i64 0, .int .i64 0, .int .i64 0, .string ⟨#[]⟩, .slice none 0 0]) sz27 rfl rfl w1.heap.size (Nat.le_refl _) ?_; intro w2 hr2 hb2 _; have HR2 := Lib.hid hr2; have HB2 : Hid (Below w1.heap.size w1 w2) := ((Below.refl _ _).alloc (Nat.le_refl _) _).trans hb2; clear hr2 hb2)
  go_loopw [4] (fun i wr => ∃ k : Nat, k ≤ n ∧ i = .int .i64 k ∧ Blk wr w.heap.size 27 [.int .i64 0, .int .i64 0, .int .i64 0, .string ⟨#[]⟩, .slice none 0 0] ∧ Blk wr w1.heap.size 27 (iCells (((ns.take k).sum : Nat) : Int)) ∧ Below w.heap.size w wr) (fun i _ => n - (intOf i).toNat)
  case atStart => exact ⟨0, Nat.zero_le _, rfl, HA1.out.below HB2.out lt1, by simpa using HR2.out, HB1.out.trans (HB2.out.mono HB1.out.size)⟩
  case round =>
    obtain ⟨k, hk, rfl, ha, ht, hb⟩ := hrel
    have HA := Lib.hid ha
    have HT := Lib.hid ht
    have HB := Lib.hid hb
    clear ha ht hb HA1 HB1 HR2 HB2
    obtain ⟨s, hsum⟩ : ∃ s, s = (ns.take k).sum := ⟨_, rfl⟩
    have HSUM := Lib.hid hsum
    rw [← hsum] at HT
    have hs6 : s ≤ 6000000 := (by rw [hsum]; exact take_sum_le HS.out k (by rw [← HN.out]; exact hl))
    clear hsum
    have lt := HT.out.lt
    have la := HA.out.lt
    have t0 := HT.out.get 0 rfl
    have t1 := HT.out.get 1 rfl
    have t2 := HT.out.get 2 rfl
    have t3 := HT.out.get 3 rfl
    have t4 := HT.out.get 4 rfl
    by_cases hlt : k < n
    · obtain ⟨x, hx⟩ : ∃ x, ns[k]? = some x := ⟨_, List.getElem?_eq_getElem (by rw [← HN.out]; exact hlt)⟩
      have hrow2 := HR.out.keep HB.out
      have hxx : (ns.map fun n : Nat => iCells (n : Int))[k]? = some (iCells (x : Int)) := by rw [List.getElem?_map, hx]; rfl
      have c0 := hrow2.cell0 hxx (u := .int .i64 1) rfl
      have c1 := hrow2.cell hxx (j := 1) (u := .int .i64 x) rfl
      have c2 := hrow2.cell hxx (j := 2) (u := .int .i64 1) rfl
      have c3 := hrow2.cell hxx (j := 3) (u := .string ⟨#[]⟩) rfl
      have c4 := hrow2.cell hxx (j := 4) (u := .slice none 0 0) rfl
      have hx5 : x ≤ 100000 := HS.out x (List.mem_of_getElem? hx)
      have HX : Hid (s + x = (ns.take (k + 1)).sum) := (by show _ = _; rw [take_snoc hx, sum_snoc, ← HSUM.out])
      clear hrow2 hxx hx
      go_wp2_with fail
      go_still_tail 5, (by kernel_rfl)
      change wpList _ _ _ _ _ wr.drew
      go_wp2_with fail
      refine (add_any s x (by omega) (by omega) (by omega) _).mono ?_
      rintro e w4 ⟨rfl, hb4⟩
      have HB4 : Hid (Below w.heap.size w w4) := (below_drewN' HB.out 1).trans (hb4.mono HB.out.size)
      have HT4 : Hid (Blk w4 w1.heap.size 27 (iCells (s : Int))) := (HT.out.drewN 1).below hb4 lt
      have HA4 : Hid (Blk w4 w.heap.size 27 [.int .i64 0, .int .i64 0, .int .i64 0, .string ⟨#[]⟩, .slice none 0 0]) := (HA.out.drewN 1).below hb4 la
      clear hb4
      go_wp2_with (refine store_row rfl 27 (.tmp 3) (.tmp 17) rfl w1.heap.size 27 (iCells (s : Int)) (iCells ((s + x : Nat) : Int)) rfl rfl HT4.out sz27 rfl rfl w.heap.size (by omega) ?_; intro w5 hr5 hb5 hp5; have HR5 := Lib.hid hr5; have HB5 := Lib.hid hb5; have HP5 := Lib.hid hp5; clear hr5 hb5 hp5)
      refine ⟨⟨k + 1, by omega, by go_num, HP5.out.blk HA4.out (by omega), by rw [← HX.out]; exact HR5.out, HB4.out.trans HB5.out⟩, by simp [intOf]; omega⟩
    · have hkn : k = n := by omega
      have HX : Hid (s = ns.sum) := (by show _ = _; rw [HSUM.out, hkn, HN.out, List.take_length])
      go_wp2_with (refine store_row rfl 27 (.tmp 2) (.tmp 18) rfl w.heap.size 27 [.int .i64 0, .int .i64 0, .int .i64 0, .string ⟨#[]⟩, .slice none 0 0] (iCells (s : Int)) rfl rfl HA.out sz27 rfl rfl w.heap.size (Nat.le_refl _) ?_; intro w6 hr6 hb6 _)
      exact bodyPost_ret (ret_row rfl _ _ w.heap.size 27 (iCells (s : Int)) _ rfl hr6 Tryz.underlying27 rfl sz27) rfl ⟨by rw [← HX.out]; rfl, HB.out.trans hb6⟩
end Go.Proofs.YtoebgbojpkflnaaGreatDoor
