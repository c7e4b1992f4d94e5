/- findLives answers true. No conditions. -/
import Derived.Test.YtoebgbojpkflnaaGreatDoorLives
namespace Go.Proofs.YtoebgbojpkflnaaGreatDoor
open Go Go.RowKit

abbrev bStr : ByteArray := ⟨#[98]⟩
abbrev abbStr : ByteArray := ⟨#[97, 98, 98]⟩
theorem abb_found (k : Nat) (h : First abbStr bStr 0 k) : k = 1 := by
  obtain ⟨h1, h2, h3⟩ := h
  have s3 : abbStr.size = 3 := rfl
  have o0 : occ abbStr bStr 0 = false := by decide +kernel
  have o1 : occ abbStr bStr 1 = true := by decide +kernel
  rw [s3] at h1 h3
  by_cases hk : k = 0
  · subst hk
    have := (h3 (by omega)).2
    rw [o0] at this; cases this
  · by_cases hk2 : k = 1
    · exact hk2
    · have := h2 1 (by omega) (by omega)
      rw [o1] at this; cases this
theorem abb_ascii : AsciiS abbStr := by
  intro i h
  have h3 : i < 3 := h
  match i, h3 with
  | 0, _ => show (97 : Nat) < 128; omega
  | 1, _ => show (98 : Nat) < 128; omega
  | 2, _ => show (98 : Nat) < 128; omega
theorem b_nowild : NoWild bStr := by
  intro i h
  have h3 : i < 1 := h
  match i, h3 with
  | 0, _ => show (98 : Nat) ≠ 42 ∧ (98 : Nat) ≠ 63; omega
theorem abb_gives : MethodGives 99 [.text bStr, .text abbStr] (fun r => r = .num (fx 2 0)) := by
  intro F B L bs w hil
  refine (find_gives2 abbStr bStr (by decide) (by decide) abb_ascii b_nowild (by decide +kernel) F B L bs w hil).mono ?_
  rintro e w' ⟨r, he, ⟨k, hr, hf⟩, hb⟩
  obtain rfl := abb_found k hf
  exact ⟨r, he, hr, hb⟩

set_option maxRecDepth 20000 in
set_option maxHeartbeats 1000000 in
theorem findLives_any (w : World) : Calls Tryz.prog 35 #[] w fun e w' => e = .returned (.bool true) ∧ Below w.heap.size w w' := by
  go_enter Tryz.func35, Tryz.ntmps35
  go_wp2_with fail
  refine (textArgs_any [bStr, abbStr] _ w.heap.size 2 (fun i s h => ?_) (by simp) (by simp)).mono ?_
  · have := (Blk.new w 9 [.string bStr, .string abbStr]).get i (v := .string s) (by
      match i with
      | 0 => simpa using h
      | 1 => simpa using h
      | j + 2 => simp at h)
    exact this
  rintro e w1 ⟨v, rfl, harr, hb1⟩
  have HB1 : Hid (Below w.heap.size w w1) := Below.trans (by go_grown) (hb1.mono (by simp))
  have HA : Hid (ArgsAt w1 37 v [.text bStr, .text abbStr]) := ⟨harr.base (Nat.zero_le _), by simp, by simp, by intro a ha; simp at ha; rcases ha with rfl | rfl <;> trivial⟩
  clear harr hb1
  go_wp2_with fail
  refine (find_impl _ _ v w1 HA.out abb_gives).mono ?_
  rintro e w2 ⟨r, rfl, rfl, hb2⟩
  have HB2 : Hid (Below w.heap.size w w2) := HB1.out.trans (hb2.mono HB1.out.size)
  clear hb2
  go_wp2_with (go_at_call 24; go_in)
  refine (same_true (.int 2) _ ⟨by decide, by decide⟩).mono ?_
  rintro e w3 ⟨rfl, hb3⟩
  go_wp2
  go_ret
  exact ⟨rfl, (HB2.out.trans (Below.mono (by go_grown) HB2.out.size)).trans (hb3.mono (by have := HB2.out.size; simp; omega))⟩
end Go.Proofs.YtoebgbojpkflnaaGreatDoor
