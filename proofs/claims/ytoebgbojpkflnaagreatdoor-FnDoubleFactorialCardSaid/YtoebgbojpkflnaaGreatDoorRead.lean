/- The spec's Read of a row of decimal digits. -/
import Derived.Test.YtoebgbojpkflnaaGreatDoorDig
namespace Go.Proofs.YtoebgbojpkflnaaGreatDoor
open Go Go.RowKit
set_option maxRecDepth 20000 in
set_option maxHeartbeats 1000000 in
theorem frac_any (n : Nat) (hn : n < 10000000000) (w : World) :
    Calls Tryz.prog 91 #[.int .i64 n, .int .i64 1] w fun e w' => e = .returned (.agg #[.int .i64 1, .int .i64 n, .int .i64 1, .string ⟨#[]⟩, .slice none 0 0]) ∧ Below w.heap.size w w' := by
  have h1 : ((n : Int) * 16).tmod 1 = 0 := (by simp)
  have h2 : ((n : Int) * 16).tdiv 1 = (n : Int) * 16 := (by simp)
  have h3 : decide (1125899906842624 < (n : Int)) = false := (by rw [decide_eq_false_iff_not]; omega)
  have h4 : decide ((n : Int) < -1125899906842624) = false := (by rw [decide_eq_false_iff_not]; omega)
  go_enter Tryz.func91, Tryz.ntmps91
  go_wp2_with fail
  refine abs_wp (fun w' => Blk w' w.heap.size 27 [.int .i64 0, .int .i64 0, .int .i64 0, .string ⟨#[]⟩, .slice none 0 0] ∧ Below w.heap.size w w') ⟨Blk.new w 27 [.int .i64 0, .int .i64 0, .int .i64 0, .string ⟨#[]⟩, .slice none 0 0], (Below.refl _ _).alloc (Nat.le_refl _) _⟩ ?_
  rintro w1 ⟨hg1, hb1⟩
  have HG1 := Lib.hid hg1
  have HB1 := Lib.hid hb1
  clear hg1 hb1 h1 h2 h3 h4
  go_loopw [0, 1] (fun u i wr => ∃ a b : Nat, a = n * b ∧ (b = 16 ∨ b = 8 ∨ b = 4 ∨ b = 2 ∨ b = 1) ∧ u = .int .i64 a ∧ i = .int .i64 b ∧ wr = w1) (fun _ i _ => (intOf i).toNat)
  case atStart => exact ⟨n * 16, 16, rfl, .inl rfl, by simp, rfl, rfl⟩
  case round =>
    obtain ⟨a, b, hab, hb, rfl, rfl, rfl⟩ := hrel
    by_cases h1b : b = 1
    · have hbl : decide (1 < (b : Int)) = false := (by rw [decide_eq_false_iff_not]; omega)
      have hbl2 : ¬ (1 < (b : Int)) := (by omega)
      have han : a = n := (by rw [hab, h1b, Nat.mul_one])
      subst han h1b
      have h5 : decide (99999999999 < (a : Int)) = false := (by rw [decide_eq_false_iff_not]; omega)
      have h6 : decide ((a : Int) < -99999999999) = false := (by rw [decide_eq_false_iff_not]; omega)
      clear hab hb
      go_wp2_with (refine store_row rfl 27 (.tmp 4) (.tmp 57) rfl w.heap.size 27 [.int .i64 0, .int .i64 0, .int .i64 0, .string ⟨#[]⟩, .slice none 0 0] [.int .i64 1, .int .i64 a, .int .i64 1, .string ⟨#[]⟩, .slice none 0 0] rfl rfl HG1.out sz27 rfl rfl w.heap.size (Nat.le_refl _) ?_; intro w6 hr6 hb6 _)
      refine bodyPost_ret (ret_row rfl _ _ w.heap.size 27 [.int .i64 1, .int .i64 a, .int .i64 1, .string ⟨#[]⟩, .slice none 0 0] _ rfl hr6 Tryz.underlying27 rfl sz27) rfl ⟨rfl, HB1.out.trans hb6⟩
    · obtain ⟨c, hc, hc2⟩ : ∃ c, b = 2 * c ∧ (c = 16 ∨ c = 8 ∨ c = 4 ∨ c = 2 ∨ c = 1) := ⟨b / 2, by omega, by omega⟩
      have hc8 : c ≤ 8 := (by omega)
      obtain ⟨d, hd⟩ : ∃ d, d = n * c := ⟨_, rfl⟩
      have hd8 : d ≤ n * 8 := (by rw [hd]; exact Nat.mul_le_mul_left n hc8)
      have hac : a = 2 * d := (by rw [hab, hc, hd, Nat.mul_left_comm])
      have hbl : decide (1 < (b : Int)) = true := (by rw [decide_eq_true_eq]; omega)
      have ht : ((a : Int)).tmod 2 = 0 := (by rw [Int.tmod_eq_emod_of_nonneg (by omega)]; omega)
      have hv : ((a : Int)).tdiv 2 = (d : Int) := (by rw [Int.tdiv_eq_ediv_of_nonneg (by omega)]; omega)
      have hv2 : ((b : Int)).tdiv 2 = (c : Int) := (by rw [Int.tdiv_eq_ediv_of_nonneg (by omega)]; omega)
      have hw1 : wrap64 (d : Int) = (d : Int) := (by unfold wrap64; omega)
      have hw2 : wrap64 (c : Int) = (c : Int) := (by unfold wrap64; omega)
      have HX := Lib.hid (And.intro hd (And.intro hc2 hc))
      clear hab hb hd hd8 hc hac hc2
      go_wp2_with fail
      have hc := HX.out.2.2
      have hc2 := HX.out.2.1
      refine ⟨⟨d, c, HX.out.1, HX.out.2.1, by first | rfl | rw [hw1], by first | rfl | rw [hw2], by first | rfl | trivial⟩, by simp [intOf]; omega⟩
/-- The number that the first k bytes say. -/
def valS (s : ByteArray) : Nat → Nat
  | 0 => 0
  | k + 1 => 10 * valS s k + (((s.data.toList[k]?).getD 48).toNat - 48)
structure DigS (s : ByteArray) : Prop where
  len : 1 ≤ s.size ∧ s.size ≤ 9
  all : s.data.toList.all (fun b => decide (48 ≤ b.toNat ∧ b.toNat ≤ 57)) = true
theorem DigS.at_ {s : ByteArray} (h : DigS s) (i : Nat) (hi : i < s.size) : 48 ≤ (s[i]'hi).toNat ∧ (s[i]'hi).toNat ≤ 57 := of_decide_eq_true (List.all_eq_true.1 h.all (s[i]'hi) (by
  show s.data[i]'hi ∈ s.data.toList
  simp))
theorem valS_succ (s : ByteArray) (k : Nat) (hk : k < s.size) : valS s (k + 1) = 10 * valS s k + ((s[k]'hk).toNat - 48) := by
  have e : s.data.toList[k]? = some (s[k]'hk) := by
    rw [Array.getElem?_toList, Array.getElem?_eq_getElem]
    rfl
  rw [valS, e]
  rfl
theorem valS_lt {s : ByteArray} (h : DigS s) : ∀ k, k ≤ s.size → valS s k < 10 ^ k
  | 0, _ => by simp [valS]
  | k + 1, hk => by
    have ih := valS_lt h k (by omega)
    have hb := h.at_ k (by omega)
    rw [valS_succ s k (by omega), Nat.pow_succ]
    omega
set_option maxRecDepth 20000 in
set_option maxHeartbeats 1000000 in
theorem read_any (s : ByteArray) (h : DigS s) (w : World) :
    Calls Tryz.prog 69 #[.string s] w fun e w' => e = .returned (.agg #[.int .i64 1, .int .i64 (valS s s.size), .int .i64 1, .string ⟨#[]⟩, .slice none 0 0]) ∧ Below w.heap.size w w' := by
  have z1 := h.len.1
  have z2 := h.len.2
  have h0s : 0 < s.size := z1
  have hb0 := h.at_ 0 h0s
  have e0 : ((s[0].toNat : Int) == 45) = false := (by rw [beq_eq_false_iff_ne]; omega)
  have HD := Lib.hid h
  clear h hb0
  go_enter Tryz.func69, Tryz.ntmps69
  go_wp2_with fail
  refine abs_wp (fun w' => Blk w' w.heap.size 27 [.int .i64 0, .int .i64 0, .int .i64 0, .string ⟨#[]⟩, .slice none 0 0] ∧ Below w.heap.size w w') ⟨Blk.new w 27 [.int .i64 0, .int .i64 0, .int .i64 0, .string ⟨#[]⟩, .slice none 0 0], (Below.refl _ _).alloc (Nat.le_refl _) _⟩ ?_
  rintro w1 ⟨hg1, hb1⟩
  have HG1 := Lib.hid hg1
  have HB1 := Lib.hid hb1
  clear hg1 hb1 e0
  go_loopw [3, 5, 6, 7, 8] (fun i u c sc dt wr => ∃ k v : Nat, k ≤ s.size ∧ v = valS s k ∧ i = .int .i64 k ∧ u = .int .i64 v ∧ c = .int .i64 k ∧ sc = .int .i64 1 ∧ dt = .bool false ∧ wr = w1) (fun i _ _ _ _ _ => s.size - (intOf i).toNat)
  case atStart => exact ⟨0, 0, Nat.zero_le _, rfl, rfl, rfl, rfl, rfl, rfl, rfl⟩
  case round =>
    obtain ⟨k, v, hk, hv, rfl, rfl, rfl, rfl, rfl, rfl⟩ := hrel
    have hvl := valS_lt HD.out k hk
    have hvp : 10 ^ k ≤ 10 ^ 9 := Nat.pow_le_pow_right (by omega) (by omega)
    have hvb : v < 1000000000 := (by rw [hv]; exact Nat.lt_of_lt_of_le hvl hvp)
    have HV := Lib.hid hv
    clear hvl hvp hv
    by_cases hlt : k < s.size
    · have hb := HD.out.at_ k hlt
      have hb1 := hb.1
      have hb2 := hb.2
      have HS := Lib.hid (valS_succ s k hlt)
      obtain ⟨c, hc⟩ : ∃ c : Nat, s[k].toNat = 48 + c := ⟨s[k].toNat - 48, by omega⟩
      have hc9 : c ≤ 9 := (by omega)
      have hlz : decide ((k : Int) < 12) = true := (by rw [decide_eq_true_eq]; omega)
      have HC := Lib.hid hc
      clear hb
      go_wp2_with fail
      refine ⟨⟨k + 1, v * 10 + c, by omega, by rw [HS.out, HC.out, ← HV.out]; omega, by go_num, ?_, by go_num, by first | rfl | trivial, by first | rfl | trivial, by first | rfl | trivial⟩, by simp [intOf]; omega⟩
      congr 1; omega
    · have hks : k = s.size := (by omega)
      have hks0 : ((k : Int) == 0) = false := (by rw [beq_eq_false_iff_ne]; omega)
      have HKS := Lib.hid hks
      clear hks hk
      go_wp2_with fail
      refine (frac_any v (by omega) _).mono ?_
      rintro e w4 ⟨rfl, hb4⟩
      have HB4 : Hid (Below w.heap.size w w4) := HB1.out.trans (hb4.mono HB1.out.size)
      have HG4 : Hid (Blk w4 w.heap.size 27 [.int .i64 0, .int .i64 0, .int .i64 0, .string ⟨#[]⟩, .slice none 0 0]) := HG1.out.below hb4 HG1.out.lt
      clear hb4
      go_wp2_with (refine store_row rfl 27 (.tmp 2) (.tmp 84) rfl w.heap.size 27 [.int .i64 0, .int .i64 0, .int .i64 0, .string ⟨#[]⟩, .slice none 0 0] [.int .i64 1, .int .i64 v, .int .i64 1, .string ⟨#[]⟩, .slice none 0 0] rfl rfl HG4.out sz27 rfl rfl w.heap.size (Nat.le_refl _) ?_; intro w6 hr6 hb6 _)
      refine bodyPost_ret (ret_row rfl _ _ w.heap.size 27 [.int .i64 1, .int .i64 v, .int .i64 1, .string ⟨#[]⟩, .slice none 0 0] _ rfl hr6 Tryz.underlying27 rfl sz27) rfl ⟨by rw [HV.out, HKS.out], HB4.out.trans hb6⟩
end Go.Proofs.YtoebgbojpkflnaaGreatDoor
