/- Proof of FnSquaresJoined, a part: strconv.ParseFloat of a whole number of at most three digits. -/
import Derived.Deep.RegionWith
import Derived.Outline
import Derived.WalkMore
import Derived.Test.YtoebgbojpkflnaaGreatDoorJRepl
namespace Go.Proofs.YtoebgbojpkflnaaGreatDoor
open Go Go.RowKit
/-- A row of one to three digits, not led by a zero, behind o bytes of sign. -/
structure SgS (S : ByteArray) (o : Nat) : Prop where
  o1 : o ≤ 1
  len : o < S.size ∧ S.size ≤ o + 3
  sign : ∀ h : 0 < S.size, o = 1 → S[0]'h = 45
  dig : ∀ (i : Nat) (h : i < S.size), o ≤ i → 48 ≤ (S[i]'h).toNat ∧ (S[i]'h).toNat ≤ 57
  lead : ∀ h : o < S.size, 49 ≤ (S[o]'h).toNat
/-- The number that the bytes from o to k say. -/
def valO (S : ByteArray) (o : Nat) : Nat → Nat
  | 0 => 0
  | k + 1 => if k < o then 0 else valO S o k * 10 + (((S.data.toList[k]?).getD 48).toNat - 48)
theorem valO_succ {S : ByteArray} {o k : Nat} (hk : k < S.size) (ho : o ≤ k) : valO S o (k + 1) = valO S o k * 10 + ((S[k]'hk).toNat - 48) := by
  have e : S.data.toList[k]? = some (S[k]'hk) := by
    rw [Array.getElem?_toList, Array.getElem?_eq_getElem]
    rfl
  rw [valO, e, if_neg (by omega)]
  rfl
theorem valO_start {S : ByteArray} {o : Nat} : valO S o o = 0 := by
  cases o with
  | zero => rfl
  | succ o => rw [valO, if_pos (by omega)]
theorem valO_lt {S : ByteArray} {o : Nat} (h : SgS S o) : ∀ k, k ≤ S.size → o ≤ k → valO S o k < 10 ^ (k - o)
  | 0, _, _ => by simp [valO]
  | k + 1, hk, ho => by
    by_cases hko : k < o
    · have : k + 1 = o := by omega
      rw [this, valO_start]; exact Nat.pow_pos (by omega)
    · have ih := valO_lt h k (by omega) (by omega)
      have hb := h.dig k (by omega) (by omega)
      rw [valO_succ (by omega) (by omega), show k + 1 - o = (k - o) + 1 by omega, Nat.pow_succ]
      omega
theorem valO_pos {S : ByteArray} {o : Nat} (h : SgS S o) : ∀ k, k ≤ S.size → o < k → 0 < valO S o k
  | 0, _, ho => by omega
  | k + 1, hk, ho => by
    rw [valO_succ (by omega) (by omega)]
    by_cases hko : k = o
    · subst hko; have := h.lead (by omega); omega
    · have := valO_pos h k (by omega) (by omega); omega
set_option maxRecDepth 20000 in
set_option maxHeartbeats 4000000 in
theorem readFloat_0s (S : ByteArray) (h : SgS S 0) (h2 : S.size ≤ 2) (w : World) :
    Calls Tryz.prog 224 #[.string S] w fun e w' => e = .returned (.tuple #[.int .u64 (valO S 0 S.size), .int .i64 0, .bool false, .bool false, .bool false, .int .i64 S.size, .bool true]) ∧ w = w' := by
  have z1 := h.len.1
  have z2 := h.len.2
  have H := Lib.hid h
  have h0 : 0 < S.size := by omega
  have l0 := h.lead z1
  have l1 := (h.dig 0 z1 (Nat.le_refl _)).2
  have hne : ¬ S = ByteArray.empty := (by rintro rfl; simp at h0)
  have e0 : ((S[0].toNat : Int) == 43) = false := (by rw [beq_eq_false_iff_ne]; omega)
  have e1 : ((S[0].toNat : Int) == 45) = false := (by rw [beq_eq_false_iff_ne]; omega)
  have e2 : ((S[0].toNat : Int) == 48) = false := (by rw [beq_eq_false_iff_ne]; omega)
  have hd2 : decide ((2 : Int) < (S.size : Int)) = false := (by simp; omega)
  replace z2 : S.size ≤ 3 := by omega
  clear l0 l1 h h2
  go_enter Tryz.func224, Tryz.ntmps224
  go_wp2_with fail
  go_step3
  go_wp2_with fail
  go_step3
  go_wp2_with fail
  clear e0 e1 e2 hd2
  go_loopw [2, 5, 7, 9, 13, 14, 15, 16] (fun m tr i us sw sd nd nm wr => ∃ k v : Nat, 0 ≤ k ∧ k ≤ S.size ∧ v = valO S 0 k ∧ m = .int .u64 v ∧ tr = .bool false ∧ i = .int .i64 k ∧ us = .bool false ∧ sw = .bool false ∧ sd = .bool (decide (0 < k)) ∧ nd = .int .i64 ((k : Int) - 0) ∧ nm = .int .i64 ((k : Int) - 0) ∧ wr = w) (fun _ _ i _ _ _ _ _ _ => S.size - (intOf i).toNat)
  case atStart => exact ⟨0, 0, Nat.le_refl _, by omega, valO_start.symm, rfl, rfl, rfl, rfl, rfl, rfl, rfl, rfl, rfl⟩
  case round =>
    obtain ⟨k, v, hk0, hk, hv, rfl, rfl, rfl, rfl, rfl, rfl, rfl, rfl, rfl⟩ := hrel
    have hvl := valO_lt H.out k hk hk0
    have hvp : 10 ^ (k - 0) ≤ 10 ^ 3 := Nat.pow_le_pow_right (by omega) (by omega)
    have hvb : v < 1000 := (by rw [hv]; exact Nat.lt_of_lt_of_le hvl hvp)
    have HV := Lib.hid hv
    clear hvl hvp hv
    by_cases hlt : k < S.size
    · have hb := H.out.dig k hlt hk0
      have HS := Lib.hid (valO_succ (S := S) hlt hk0)
      have HL := Lib.hid H.out.lead
      obtain ⟨c, hc⟩ : ∃ c : Nat, S[k].toNat = 48 + c := ⟨S[k].toNat - 48, by omega⟩
      have hc9 : c ≤ 9 := (by omega)
      have HC := Lib.hid hc
      have hlz : decide ((k : Int) - 0 < 19) = true := (by rw [decide_eq_true_eq]; omega)
      have HB : Hid (1 ≤ c ∨ 0 < k) := (by
        show _ ∨ _
        by_cases hk : k = 0
        · subst hk; have := HL.out hlt; omega
        · omega)
      clear hb
      have hq : ((c : Int) == 0) = true ∧ ((k : Int) - 0 == 0) = false ∨ ((c : Int) == 0) = false := (by
        simp only [beq_eq_false_iff_ne, beq_iff_eq]
        rcases HB.out with h | h <;> omega)
      rcases hq with ⟨hq1, hq2⟩ | hq1
      all_goals
        go_wp2_with fail
        all_goals
          refine ⟨⟨k + 1, v * 10 + c, by omega, by omega, by rw [HS.out, HC.out, ← HV.out]; omega, ?_, rfl, by go_num, rfl, rfl, by rw [decide_eq_true (by omega)], by first | (congr 1; done) | (congr 1; omega), by first | (congr 1; done) | (congr 1; omega), trivial⟩, by simp [intOf]; omega⟩
          first | (congr 1; omega) | (have hq1 := beq_iff_eq.1 hq1; congr 1; omega)
    · have hks : k = S.size := (by omega)
      have hv0 := valO_pos H.out k hk (by omega)
      rw [← HV.out] at hv0
      have hv1 : ((v : Int) != 0) = true := (by rw [bne_iff_ne]; omega)
      have hd : decide (0 < k) = true := (by rw [decide_eq_true_eq]; omega)
      have HKS := Lib.hid hks
      clear hks hv0
      go_wp2_with fail
      rw [Exit.noGoto_ret]
      change bodyPost _ _ _ _ _ _
      go_returns
      exact ⟨by rw [HV.out, HKS.out], rfl⟩
set_option maxRecDepth 20000 in
set_option maxHeartbeats 4000000 in
theorem readFloat_0b (S : ByteArray) (h : SgS S 0) (h2 : 2 < S.size) (w : World) :
    Calls Tryz.prog 224 #[.string S] w fun e w' => e = .returned (.tuple #[.int .u64 (valO S 0 S.size), .int .i64 0, .bool false, .bool false, .bool false, .int .i64 S.size, .bool true]) ∧ w = w' := by
  have z1 := h.len.1
  have z2 := h.len.2
  have H := Lib.hid h
  have h0 : 0 < S.size := by omega
  have l0 := h.lead z1
  have l1 := (h.dig 0 z1 (Nat.le_refl _)).2
  have hne : ¬ S = ByteArray.empty := (by rintro rfl; simp at h0)
  have e0 : ((S[0].toNat : Int) == 43) = false := (by rw [beq_eq_false_iff_ne]; omega)
  have e1 : ((S[0].toNat : Int) == 45) = false := (by rw [beq_eq_false_iff_ne]; omega)
  have e2 : ((S[0].toNat : Int) == 48) = false := (by rw [beq_eq_false_iff_ne]; omega)
  have hd2 : decide ((2 : Int) < (S.size : Int)) = true := (by simp; omega)
  replace z2 : S.size ≤ 3 := by omega
  clear l0 l1 h h2
  go_enter Tryz.func224, Tryz.ntmps224
  go_wp2_with fail
  go_step3
  go_wp2_with fail
  go_step3
  go_wp2_with fail
  clear e0 e1 e2 hd2
  go_loopw [2, 5, 7, 9, 13, 14, 15, 16] (fun m tr i us sw sd nd nm wr => ∃ k v : Nat, 0 ≤ k ∧ k ≤ S.size ∧ v = valO S 0 k ∧ m = .int .u64 v ∧ tr = .bool false ∧ i = .int .i64 k ∧ us = .bool false ∧ sw = .bool false ∧ sd = .bool (decide (0 < k)) ∧ nd = .int .i64 ((k : Int) - 0) ∧ nm = .int .i64 ((k : Int) - 0) ∧ wr = w) (fun _ _ i _ _ _ _ _ _ => S.size - (intOf i).toNat)
  case atStart => exact ⟨0, 0, Nat.le_refl _, by omega, valO_start.symm, rfl, rfl, rfl, rfl, rfl, rfl, rfl, rfl, rfl⟩
  case round =>
    obtain ⟨k, v, hk0, hk, hv, rfl, rfl, rfl, rfl, rfl, rfl, rfl, rfl, rfl⟩ := hrel
    have hvl := valO_lt H.out k hk hk0
    have hvp : 10 ^ (k - 0) ≤ 10 ^ 3 := Nat.pow_le_pow_right (by omega) (by omega)
    have hvb : v < 1000 := (by rw [hv]; exact Nat.lt_of_lt_of_le hvl hvp)
    have HV := Lib.hid hv
    clear hvl hvp hv
    by_cases hlt : k < S.size
    · have hb := H.out.dig k hlt hk0
      have HS := Lib.hid (valO_succ (S := S) hlt hk0)
      have HL := Lib.hid H.out.lead
      obtain ⟨c, hc⟩ : ∃ c : Nat, S[k].toNat = 48 + c := ⟨S[k].toNat - 48, by omega⟩
      have hc9 : c ≤ 9 := (by omega)
      have HC := Lib.hid hc
      have hlz : decide ((k : Int) - 0 < 19) = true := (by rw [decide_eq_true_eq]; omega)
      have HB : Hid (1 ≤ c ∨ 0 < k) := (by
        show _ ∨ _
        by_cases hk : k = 0
        · subst hk; have := HL.out hlt; omega
        · omega)
      clear hb
      have hq : ((c : Int) == 0) = true ∧ ((k : Int) - 0 == 0) = false ∨ ((c : Int) == 0) = false := (by
        simp only [beq_eq_false_iff_ne, beq_iff_eq]
        rcases HB.out with h | h <;> omega)
      rcases hq with ⟨hq1, hq2⟩ | hq1
      all_goals
        go_wp2_with fail
        all_goals
          refine ⟨⟨k + 1, v * 10 + c, by omega, by omega, by rw [HS.out, HC.out, ← HV.out]; omega, ?_, rfl, by go_num, rfl, rfl, by rw [decide_eq_true (by omega)], by first | (congr 1; done) | (congr 1; omega), by first | (congr 1; done) | (congr 1; omega), trivial⟩, by simp [intOf]; omega⟩
          first | (congr 1; omega) | (have hq1 := beq_iff_eq.1 hq1; congr 1; omega)
    · have hks : k = S.size := (by omega)
      have hv0 := valO_pos H.out k hk (by omega)
      rw [← HV.out] at hv0
      have hv1 : ((v : Int) != 0) = true := (by rw [bne_iff_ne]; omega)
      have hd : decide (0 < k) = true := (by rw [decide_eq_true_eq]; omega)
      have HKS := Lib.hid hks
      clear hks hv0
      go_wp2_with fail
      rw [Exit.noGoto_ret]
      change bodyPost _ _ _ _ _ _
      go_returns
      exact ⟨by rw [HV.out, HKS.out], rfl⟩
set_option maxRecDepth 20000 in
set_option maxHeartbeats 4000000 in
theorem readFloat_1s (S : ByteArray) (h : SgS S 1) (h2 : S.size ≤ 3) (w : World) :
    Calls Tryz.prog 224 #[.string S] w fun e w' => e = .returned (.tuple #[.int .u64 (valO S 1 S.size), .int .i64 0, .bool true, .bool false, .bool false, .int .i64 S.size, .bool true]) ∧ w = w' := by
  have z1 := h.len.1
  have z2 := h.len.2
  have H := Lib.hid h
  have h0 : 0 < S.size := by omega
  have l0 := h.lead z1
  have l1 := (h.dig 1 z1 (Nat.le_refl _)).2
  have hne : ¬ S = ByteArray.empty := (by rintro rfl; simp at h0)
  have hs := h.sign h0 rfl
  have hsn : (S[0].toNat : Int) = 45 := by rw [hs]; rfl
  have e0 : ((S[0].toNat : Int) == 43) = false := (by rw [hsn]; rfl)
  have e1 : ((S[0].toNat : Int) == 45) = true := (by rw [hsn]; rfl)
  clear hs hsn
  have e2 : ((S[1].toNat : Int) == 48) = false := (by rw [beq_eq_false_iff_ne]; omega)
  have hd2 : decide ((3 : Int) < (S.size : Int)) = false := (by simp; omega)
  replace z2 : S.size ≤ 4 := by omega
  clear l0 l1 h h2
  go_enter Tryz.func224, Tryz.ntmps224
  go_wp2_with fail
  go_step3
  go_wp2_with fail
  go_step3
  go_wp2_with fail
  clear e0 e1 e2 hd2
  go_loopw [2, 5, 7, 9, 13, 14, 15, 16] (fun m tr i us sw sd nd nm wr => ∃ k v : Nat, 1 ≤ k ∧ k ≤ S.size ∧ v = valO S 1 k ∧ m = .int .u64 v ∧ tr = .bool false ∧ i = .int .i64 k ∧ us = .bool false ∧ sw = .bool false ∧ sd = .bool (decide (1 < k)) ∧ nd = .int .i64 ((k : Int) - 1) ∧ nm = .int .i64 ((k : Int) - 1) ∧ wr = w) (fun _ _ i _ _ _ _ _ _ => S.size - (intOf i).toNat)
  case atStart => exact ⟨1, 0, Nat.le_refl _, by omega, valO_start.symm, rfl, rfl, rfl, rfl, rfl, rfl, rfl, rfl, rfl⟩
  case round =>
    obtain ⟨k, v, hk0, hk, hv, rfl, rfl, rfl, rfl, rfl, rfl, rfl, rfl, rfl⟩ := hrel
    have hvl := valO_lt H.out k hk hk0
    have hvp : 10 ^ (k - 1) ≤ 10 ^ 3 := Nat.pow_le_pow_right (by omega) (by omega)
    have hvb : v < 1000 := (by rw [hv]; exact Nat.lt_of_lt_of_le hvl hvp)
    have HV := Lib.hid hv
    clear hvl hvp hv
    by_cases hlt : k < S.size
    · have hb := H.out.dig k hlt hk0
      have HS := Lib.hid (valO_succ (S := S) hlt hk0)
      have HL := Lib.hid H.out.lead
      obtain ⟨c, hc⟩ : ∃ c : Nat, S[k].toNat = 48 + c := ⟨S[k].toNat - 48, by omega⟩
      have hc9 : c ≤ 9 := (by omega)
      have HC := Lib.hid hc
      have hlz : decide ((k : Int) - 1 < 19) = true := (by rw [decide_eq_true_eq]; omega)
      have HB : Hid (1 ≤ c ∨ 1 < k) := (by
        show _ ∨ _
        by_cases hk : k = 1
        · subst hk; have := HL.out hlt; omega
        · omega)
      clear hb
      have hq : ((c : Int) == 0) = true ∧ ((k : Int) - 1 == 0) = false ∨ ((c : Int) == 0) = false := (by
        simp only [beq_eq_false_iff_ne, beq_iff_eq]
        rcases HB.out with h | h <;> omega)
      rcases hq with ⟨hq1, hq2⟩ | hq1
      all_goals
        go_wp2_with fail
        all_goals
          refine ⟨⟨k + 1, v * 10 + c, by omega, by omega, by rw [HS.out, HC.out, ← HV.out]; omega, ?_, rfl, by go_num, rfl, rfl, by rw [decide_eq_true (by omega)], by first | (congr 1; done) | (congr 1; omega), by first | (congr 1; done) | (congr 1; omega), trivial⟩, by simp [intOf]; omega⟩
          first | (congr 1; omega) | (have hq1 := beq_iff_eq.1 hq1; congr 1; omega)
    · have hks : k = S.size := (by omega)
      have hv0 := valO_pos H.out k hk (by omega)
      rw [← HV.out] at hv0
      have hv1 : ((v : Int) != 0) = true := (by rw [bne_iff_ne]; omega)
      have hd : decide (1 < k) = true := (by rw [decide_eq_true_eq]; omega)
      have HKS := Lib.hid hks
      clear hks hv0
      go_wp2_with fail
      rw [Exit.noGoto_ret]
      change bodyPost _ _ _ _ _ _
      go_returns
      exact ⟨by rw [HV.out, HKS.out], rfl⟩
set_option maxRecDepth 20000 in
set_option maxHeartbeats 4000000 in
theorem readFloat_1b (S : ByteArray) (h : SgS S 1) (h2 : 3 < S.size) (w : World) :
    Calls Tryz.prog 224 #[.string S] w fun e w' => e = .returned (.tuple #[.int .u64 (valO S 1 S.size), .int .i64 0, .bool true, .bool false, .bool false, .int .i64 S.size, .bool true]) ∧ w = w' := by
  have z1 := h.len.1
  have z2 := h.len.2
  have H := Lib.hid h
  have h0 : 0 < S.size := by omega
  have l0 := h.lead z1
  have l1 := (h.dig 1 z1 (Nat.le_refl _)).2
  have hne : ¬ S = ByteArray.empty := (by rintro rfl; simp at h0)
  have hs := h.sign h0 rfl
  have hsn : (S[0].toNat : Int) = 45 := by rw [hs]; rfl
  have e0 : ((S[0].toNat : Int) == 43) = false := (by rw [hsn]; rfl)
  have e1 : ((S[0].toNat : Int) == 45) = true := (by rw [hsn]; rfl)
  clear hs hsn
  have e2 : ((S[1].toNat : Int) == 48) = false := (by rw [beq_eq_false_iff_ne]; omega)
  have hd2 : decide ((3 : Int) < (S.size : Int)) = true := (by simp; omega)
  replace z2 : S.size ≤ 4 := by omega
  clear l0 l1 h h2
  go_enter Tryz.func224, Tryz.ntmps224
  go_wp2_with fail
  go_step3
  go_wp2_with fail
  go_step3
  go_wp2_with fail
  clear e0 e1 e2 hd2
  go_loopw [2, 5, 7, 9, 13, 14, 15, 16] (fun m tr i us sw sd nd nm wr => ∃ k v : Nat, 1 ≤ k ∧ k ≤ S.size ∧ v = valO S 1 k ∧ m = .int .u64 v ∧ tr = .bool false ∧ i = .int .i64 k ∧ us = .bool false ∧ sw = .bool false ∧ sd = .bool (decide (1 < k)) ∧ nd = .int .i64 ((k : Int) - 1) ∧ nm = .int .i64 ((k : Int) - 1) ∧ wr = w) (fun _ _ i _ _ _ _ _ _ => S.size - (intOf i).toNat)
  case atStart => exact ⟨1, 0, Nat.le_refl _, by omega, valO_start.symm, rfl, rfl, rfl, rfl, rfl, rfl, rfl, rfl, rfl⟩
  case round =>
    obtain ⟨k, v, hk0, hk, hv, rfl, rfl, rfl, rfl, rfl, rfl, rfl, rfl, rfl⟩ := hrel
    have hvl := valO_lt H.out k hk hk0
    have hvp : 10 ^ (k - 1) ≤ 10 ^ 3 := Nat.pow_le_pow_right (by omega) (by omega)
    have hvb : v < 1000 := (by rw [hv]; exact Nat.lt_of_lt_of_le hvl hvp)
    have HV := Lib.hid hv
    clear hvl hvp hv
    by_cases hlt : k < S.size
    · have hb := H.out.dig k hlt hk0
      have HS := Lib.hid (valO_succ (S := S) hlt hk0)
      have HL := Lib.hid H.out.lead
      obtain ⟨c, hc⟩ : ∃ c : Nat, S[k].toNat = 48 + c := ⟨S[k].toNat - 48, by omega⟩
      have hc9 : c ≤ 9 := (by omega)
      have HC := Lib.hid hc
      have hlz : decide ((k : Int) - 1 < 19) = true := (by rw [decide_eq_true_eq]; omega)
      have HB : Hid (1 ≤ c ∨ 1 < k) := (by
        show _ ∨ _
        by_cases hk : k = 1
        · subst hk; have := HL.out hlt; omega
        · omega)
      clear hb
      have hq : ((c : Int) == 0) = true ∧ ((k : Int) - 1 == 0) = false ∨ ((c : Int) == 0) = false := (by
        simp only [beq_eq_false_iff_ne, beq_iff_eq]
        rcases HB.out with h | h <;> omega)
      rcases hq with ⟨hq1, hq2⟩ | hq1
      all_goals
        go_wp2_with fail
        all_goals
          refine ⟨⟨k + 1, v * 10 + c, by omega, by omega, by rw [HS.out, HC.out, ← HV.out]; omega, ?_, rfl, by go_num, rfl, rfl, by rw [decide_eq_true (by omega)], by first | (congr 1; done) | (congr 1; omega), by first | (congr 1; done) | (congr 1; omega), trivial⟩, by simp [intOf]; omega⟩
          first | (congr 1; omega) | (have hq1 := beq_iff_eq.1 hq1; congr 1; omega)
    · have hks : k = S.size := (by omega)
      have hv0 := valO_pos H.out k hk (by omega)
      rw [← HV.out] at hv0
      have hv1 : ((v : Int) != 0) = true := (by rw [bne_iff_ne]; omega)
      have hd : decide (1 < k) = true := (by rw [decide_eq_true_eq]; omega)
      have HKS := Lib.hid hks
      clear hks hv0
      go_wp2_with fail
      rw [Exit.noGoto_ret]
      change bodyPost _ _ _ _ _ _
      go_returns
      exact ⟨by rw [HV.out, HKS.out], rfl⟩
theorem readFloat_any (S : ByteArray) (o : Nat) (h : SgS S o) (w : World) :
    Calls Tryz.prog 224 #[.string S] w fun e w' => e = .returned (.tuple #[.int .u64 (valO S o S.size), .int .i64 0, .bool (decide (o = 1)), .bool false, .bool false, .int .i64 S.size, .bool true]) ∧ w = w' := by
  have zo := h.o1
  rcases Nat.eq_zero_or_pos o with rfl | ho
  · by_cases h2 : 2 < S.size
    · exact readFloat_0b S h h2 w
    · exact readFloat_0s S h (by omega) w
  · obtain rfl : o = 1 := by omega
    by_cases h2 : 3 < S.size
    · exact readFloat_1b S h h2 w
    · exact readFloat_1s S h (by omega) w
end Go.Proofs.YtoebgbojpkflnaaGreatDoor
