/- spec.Ascii; FIND and REPLACEB of arguments made by the laws' helpers; findLives is true. Conditions: as each says. -/
import Derived.Test.YtoebgbojpkflnaaGreatDoorArgs
namespace Go.Proofs.YtoebgbojpkflnaaGreatDoor
open Go Go.RowKit

/-- Only printable bytes of ASCII. -/
def Printable (s : ByteArray) : Prop := ∀ i (h : i < s.size), 32 ≤ (s[i]'h).toNat ∧ (s[i]'h).toNat ≤ 126
theorem Printable.ascii {s : ByteArray} (h : Printable s) : AsciiS s := fun i hi => by have := h i hi; omega

set_option maxRecDepth 20000 in
set_option maxHeartbeats 1000000 in
theorem ascii_yes (s : ByteArray) (hs : s.size ≤ 2147483647) (hp : Printable s) (w : World) :
    Calls Tryz.prog 42 #[.string s] w fun e w' => e = .returned (.bool true) ∧ w = w' := by
  go_enter Tryz.func42, Tryz.ntmps42
  go_wp2
  go_loop [3] (fun i => ∃ k : Nat, k ≤ s.size ∧ i = .int .i64 k) (fun i => s.size - (intOf i).toNat)
  case atStart => exact ⟨0, by omega, rfl⟩
  case round =>
    obtain ⟨k, hk, rfl⟩ := hrel
    by_cases hlt : k < s.size
    · obtain ⟨h1, h2⟩ := hp k hlt
      have g1 : decide (((s[k]'hlt).toNat : Int) < 32) = false := by simp; omega
      have g2 : decide ((126 : Int) < ((s[k]'hlt).toNat : Int)) = false := by simp; omega
      clear h1 h2
      go_wp2
      exact ⟨⟨k + 1, by omega, by go_num⟩, by simp [intOf]; omega⟩
    · go_wp2
      go_ret
      exact ⟨rfl, rfl⟩

set_option maxRecDepth 20000 in
set_option maxHeartbeats 1000000 in
theorem ascii_no (s : ByteArray) (hs : s.size ≤ 2147483647) (hp : ¬ Printable s) (w : World) :
    Calls Tryz.prog 42 #[.string s] w fun e w' => e = .returned (.bool false) ∧ w = w' := by
  have HP : Hid (¬ Printable s) := hp
  clear hp
  go_enter Tryz.func42, Tryz.ntmps42
  go_wp2
  go_loop [3] (fun i => ∃ k : Nat, k ≤ s.size ∧ i = .int .i64 k ∧ ∀ j, j < k → ∀ h : j < s.size, 32 ≤ (s[j]'h).toNat ∧ (s[j]'h).toNat ≤ 126) (fun i => s.size - (intOf i).toNat)
  case atStart => exact ⟨0, by omega, rfl, fun j h => by omega⟩
  case round =>
    obtain ⟨k, hk, rfl, hall⟩ := hrel
    have HA : Hid (∀ j, j < k → ∀ h : j < s.size, 32 ≤ (s[j]'h).toNat ∧ (s[j]'h).toNat ≤ 126) := hall
    clear hall
    by_cases hlt : k < s.size
    · by_cases h1 : (s[k]'hlt).toNat < 32
      · have g1 : decide (((s[k]'hlt).toNat : Int) < 32) = true := by simp; omega
        clear h1
        go_wp2
        go_ret
        exact ⟨rfl, rfl⟩
      · by_cases h2 : 126 < (s[k]'hlt).toNat
        · have g1 : decide (((s[k]'hlt).toNat : Int) < 32) = false := by simp; omega
          have g2 : decide ((126 : Int) < ((s[k]'hlt).toNat : Int)) = true := by simp; omega
          clear h1 h2
          go_wp2
          go_ret
          exact ⟨rfl, rfl⟩
        · have g1 : decide (((s[k]'hlt).toNat : Int) < 32) = false := by simp; omega
          have g2 : decide ((126 : Int) < ((s[k]'hlt).toNat : Int)) = false := by simp; omega
          have HG : Hid (32 ≤ (s[k]'hlt).toNat ∧ (s[k]'hlt).toNat ≤ 126) := ⟨by omega, by omega⟩
          clear h1 h2
          go_wp2
          refine ⟨⟨k + 1, by omega, by go_num, fun j hj h => ?_⟩, by simp [intOf]; omega⟩
          by_cases hjk : j = k
          · subst hjk; exact HG.out
          · exact HA.out j (by omega) h
    · exfalso
      exact HP.out fun i hi => HA.out i (by omega) hi

def FoundP (s sub : ByteArray) (a : Nat) (r : Res) : Prop := ∃ k, r = foundRes s k ∧ First s sub a k
theorem found_gives {s sub : ByteArray} {a : Nat} {w : World} {e : Ending} {w' : World} (h : Found s sub a w e w') : Gives (FoundP s sub a) w e w' :=
  let ⟨k, he, hf, hb⟩ := h; ⟨_, he, ⟨k, rfl, hf⟩, hb⟩

theorem find_gives2 (s sub : ByteArray) (hs : s.size ≤ 1000) (hb : sub.size ≤ 1000) (ha : AsciiS s) (hw : NoWild sub) (hne : sub.toList.isEmpty = false) : MethodGives 99 [.text sub, .text s] (FoundP s sub 0) := by
  intro F B L bs w hil
  have hl := hil.len
  match bs, hl, hil with
  | [b0, b1], _, hil =>
    exact find_method _ F L w fun w1 hb1 => (find_2 s sub hs hb ha hw hne F B L b0 b1 w1 (hil.keep hb1)).mono fun e w2 h => found_gives h
theorem find_gives3 (s sub : ByteArray) (a : Nat) (hs : s.size ≤ 1000) (hb : sub.size ≤ 1000) (ha : AsciiS s) (hw : NoWild sub) (hal : a ≤ 100000) (hne : sub.toList.isEmpty = false) : MethodGives 99 [.text sub, .text s, .num (fx (a + 1) 0)] (FoundP s sub a) := by
  intro F B L bs w hil
  have hl := hil.len
  match bs, hl, hil with
  | [b0, b1, b2], _, hil =>
    exact find_method _ F L w fun w1 hb1 => (find_3 s sub a hs hb ha hw hal hne F B L b0 b1 b2 w1 (hil.keep hb1)).mono fun e w2 h => found_gives h

theorem order_ne_zero {n : Int} (h : n.natAbs < 2 ^ 53) (h0 : n ≠ 0) : (FloatKind.f64.format.order (fx n 0) 0 == some .eq) = false := by
  rw [show FloatKind.f64.format.order (fx n 0) 0 = some (compare n 0) from order_zero h (by omega) (by omega)]
  simp only [compare, compareOfLessAndEq]
  by_cases h1 : n < 0
  · rw [if_pos h1]; rfl
  · rw [if_neg h1, if_neg h0]; rfl
theorem good_ne {n : Int} (h : n.natAbs < 2 ^ 53) : (FloatKind.f64.format.order (fx n 0) (fx n 0) != some .eq) = false := by rw [(good_fx h).1]; rfl

theorem repl_gives (s t : ByteArray) (a n : Nat) (h1 : a + n ≤ s.size) (hs : s.size ≤ 500) (ht : t.size ≤ 500) : MethodGives 101 [.text s, .num (fx (a + 1) 0), .num (fx n 0), .text t] (fun r => r = .text (spliced s t a (a + n))) := by
  intro F B L bs w hil
  have hl := hil.len
  match bs, hl, hil with
  | [b0, b1, b2, b3], _, hil =>
    refine repl_method _ F L w fun w1 hb1 => ?_
    have e1 : ((a : Int) + 1 - 1).toNat = a := by omega
    have e2 : ((a : Int) + 1 - 1 + (n : Int)).toNat = a + n := by omega
    by_cases h0 : n = 0
    · subst h0
      have hz : fx ((0 : Nat) : Int) 0 = 0 := fx_zero 0
      have hil2 := hil.keep hb1
      rw [hz] at hil2
      refine (replace_z s t _ ((a : Int) + 1) 0 (good_ne (by omega)) (order_ne_zero (by omega) (by omega)) (toIntVal_fx (by omega)) (by rw [order00]; rfl) (by rw [order00]; rfl) (by rw [← fx_zero 0]; exact toIntVal_fx (by decide)) (by omega) (by omega) (by omega) (by omega) hs ht F _ B L b0 b1 b2 b3 w1 hil2).mono ?_
      rintro e w2 ⟨rfl, hb⟩
      exact ⟨_, rfl, by rw [e1, show ((a : Int) + 1 - 1 + 0).toNat = a + 0 by omega], hb⟩
    · refine (replace_nz s t _ _ ((a : Int) + 1) n (good_ne (by omega)) (order_ne_zero (by omega) (by omega)) (toIntVal_fx (by omega)) (good_ne (by omega)) (order_ne_zero (by omega) (by omega)) (toIntVal_fx (by omega)) (by omega) (by omega) (by omega) (by omega) hs ht F _ B L b0 b1 b2 b3 w1 (hil.keep hb1)).mono ?_
      rintro e w2 ⟨rfl, hb⟩
      exact ⟨_, rfl, by rw [e1, e2], hb⟩
end Go.Proofs.YtoebgbojpkflnaaGreatDoor
