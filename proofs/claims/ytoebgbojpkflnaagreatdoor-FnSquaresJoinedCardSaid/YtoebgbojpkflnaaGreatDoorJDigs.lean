/- Proof of FnSquaresJoined, a part: Go's setDigits: a number's digits into a buffer, zeros at the end left off. Conditions: at most twenty digits. -/
import Derived.Lib.OwnBridge
import Derived.Lib.Hide
import Derived.Test.YtoebgbojpkflnaaGreatDoorJShort
namespace Go.Proofs.YtoebgbojpkflnaaGreatDoor
open Go Go.RowKit
abbrev byteVal (b : UInt8) : Value := .int .u8 (b.toNat : Int)
theorem holds_zero {w : World} {g T : Nat} (hg : Blk w g T (List.replicate 32 (.int .u8 0))) (nd : Nat) (h : nd ≤ 32) : Sort.Holds byteVal w g 0 (Array.replicate nd (0 : UInt8)) := by
  intro j hj
  have hj' : j < nd := by simpa using hj
  refine ⟨?_, by rw [Nat.zero_add]; exact hg.free j⟩
  rw [Nat.zero_add]
  have e : (Array.replicate nd (0 : UInt8))[j]! = 0 := by
    rw [getElem!_pos _ j hj]; simp
  rw [e]
  refine hg.get j ?_
  rw [List.getElem?_replicate, if_pos (by omega)]
  rfl
theorem format_any (d nd g T : Nat) (w : World) (hg : Blk w g T (List.replicate 32 (.int .u8 0))) (hd : d < 10 ^ nd) (h64 : d < 18446744073709551616) (n2 : nd ≤ 20) :
    Calls Tryz.prog 251 #[.slice (some ⟨g, 0, none⟩) nd 32, .int .u64 d] w fun e w' => e = .returned (.tuple #[]) ∧ (∀ t, t < nd → w'.cell? ⟨g, t, none⟩ = some (byteVal (Lib.dg d (nd - 1 - t)))) ∧ Below g w w' := by
  have hh := holds_zero hg nd (by omega)
  have hc := Tryz.internal_strconv_formatBase10 g 0 32 d (Array.replicate nd (0 : UInt8)) w hh (by simpa using hd) h64 (by simp; omega)
  simp only [Array.size_replicate] at hc
  refine hc.mono ?_
  rintro e w1 ⟨rfl, nq, v', dk, rfl, hinv⟩
  refine ⟨rfl, fun t ht => ?_, below_drewN' (Lib.below_putRow (q := 0) (Below.refl g w) (Nat.le_refl g)) nq⟩
  have h1 := Sort.holds_putRow byteVal w g 0 (Array.replicate nd (0 : UInt8)) dk hh (by rw [hinv.size]; simp) t (by rw [hinv.size]; exact ht)
  have h2 := h1.1
  rw [Nat.zero_add, hinv.done t (Nat.zero_le _) ht] at h2
  exact h2
set_option maxRecDepth 20000 in
set_option maxHeartbeats 1000000 in
theorem setDigits_any (d nd k : Nat) (p : Int) (g T : Nat) (w : World) (hg : Blk w g T (List.replicate 32 (.int .u8 0))) (hd : d < 10 ^ nd) (h64 : d < 18446744073709551616) (n1 : 1 ≤ nd) (n2 : nd ≤ 20) (p1 : -100 ≤ p) (p2 : p ≤ 100) (k1 : 1 ≤ k) (k2 : k ≤ nd)
    (hz : ∀ t, k ≤ t → t < nd → Lib.dg d (nd - 1 - t) = 48) (hnz : Lib.dg d (nd - k) ≠ 48) :
    Calls Tryz.prog 214 #[.slice (some ⟨g, 0, none⟩) 32 32, .int .u64 d, .int .i64 p, .int .i64 nd] w fun e w' => e = .returned (.tuple #[.int .i64 (nd + p), .int .i64 k]) ∧ (∀ t, t < nd → w'.cell? ⟨g, t, none⟩ = some (byteVal (Lib.dg d (nd - 1 - t)))) ∧ Below g w w' := by
  have HC := Lib.hid (format_any d nd g T w hg hd h64 n2)
  have HZ : Hid (∀ t, k ≤ t → t < nd → Lib.dg d (nd - 1 - t) = 48) := hz
  have HNZ : Hid (Lib.dg d (nd - k) ≠ 48) := hnz
  clear hg hz hnz hd
  go_enter Tryz.func214, Tryz.ntmps214
  go_wp2_with fail
  refine HC.out.mono ?_
  rintro e w2 ⟨rfl, hcl, hbl⟩
  have HCL : Hid (∀ t, t < nd → w2.cell? ⟨g, t, none⟩ = some (byteVal (Lib.dg d (nd - 1 - t)))) := hcl
  have HBL : Hid (Below g w w2) := hbl
  clear hcl hbl
  go_wp2_with fail
  go_loop [3] (fun n => ∃ j : Nat, k ≤ j ∧ j ≤ nd ∧ n = .int .i64 j) (fun n => (intOf n).toNat)
  case atStart => exact ⟨nd, k2, Nat.le_refl _, rfl⟩
  case round =>
    obtain ⟨j, j1, j2, rfl⟩ := hrel
    obtain ⟨i, rfl⟩ : ∃ i, j = i + 1 := ⟨j - 1, by omega⟩
    have hci := HCL.out i (by omega)
    by_cases hj : k ≤ i
    · have hb : w2.cell? ⟨g, i, none⟩ = some (.int .u8 48) := by rw [hci, HZ.out i hj (by omega)]; rfl
      clear hci
      go_wp2
      refine ⟨⟨i, hj, by omega, rfl⟩, by simp [intOf]⟩
    · have HK : Hid (k = i + 1) := (show k = i + 1 by omega)
      obtain ⟨c, hcc⟩ : ∃ c : Int, c = ((Lib.dg d (nd - 1 - i)).toNat : Int) := ⟨_, rfl⟩
      have hb : w2.cell? ⟨g, i, none⟩ = some (.int .u8 c) := by rw [hci, hcc]
      have hne : (c == 48) = false := by
        rw [beq_eq_false_iff_ne, hcc]
        intro h
        refine HNZ.out ?_
        rw [HK.out, show nd - (i + 1) = nd - 1 - i by omega]
        apply UInt8.toNat_inj.1
        have : (48 : UInt8).toNat = 48 := rfl
        omega
      clear hci hcc
      go_wp2
      go_ret2
      refine ⟨?_, HCL.out, HBL.out⟩
      rw [HK.out]; rfl
end Go.Proofs.YtoebgbojpkflnaaGreatDoor
