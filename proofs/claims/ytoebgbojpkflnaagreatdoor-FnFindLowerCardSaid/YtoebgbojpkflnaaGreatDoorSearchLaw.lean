/- The laws' own helpers on strings: findPlain, findAt, findLower, spec.Err. -/
import Derived.Test.YtoebgbojpkflnaaGreatDoorCase
import Derived.Laws.IdiomStrings
namespace Go.Proofs.YtoebgbojpkflnaaGreatDoor
open Go Go.RowKit

/-- Printable, without '*', '?', '~', at most 200 bytes. -/
def FPlain (s : ByteArray) : Prop := (∀ i (h : i < s.size), (s[i]'h).toNat ≠ 42 ∧ (s[i]'h).toNat ≠ 63 ∧ (s[i]'h).toNat ≠ 126) ∧ Printable s ∧ s.size ≤ 200
theorem FPlain.nowild {s : ByteArray} (h : FPlain s) : NoWild s := fun i hi => ⟨(h.1 i hi).1, (h.1 i hi).2.1⟩

/-- It answers whether p holds. -/
def Tells (p : Prop) (e : Ending) : Prop := ∃ b, e = .returned (.bool b) ∧ (b = true ↔ p)
theorem Tells.no {p : Prop} {b : Bool} (hb : b = false) (h : ¬ p) : Tells p (.returned (.bool b)) := ⟨b, rfl, by subst hb; exact ⟨fun e => (by cases e), fun e => absurd e h⟩⟩
theorem Tells.yes {p : Prop} {b : Bool} (hb : b = true) (h : p) : Tells p (.returned (.bool b)) := ⟨b, rfl, by subst hb; exact ⟨fun _ => h, fun _ => rfl⟩⟩
set_option maxRecDepth 20000 in
set_option maxHeartbeats 1000000 in
theorem plain_any (s : ByteArray) (hs : s.size ≤ 2147483647) (w : World) :
    Calls Tryz.prog 34 #[.string s] w fun e w' => Tells (FPlain s) e ∧ w = w' := by
  go_enter Tryz.func34, Tryz.ntmps34
  go_wp2
  go_loop [3] (fun i => ∃ k : Nat, k ≤ s.size ∧ i = .int .i64 k ∧ ∀ j, j < k → ∀ h : j < s.size, (s[j]'h).toNat ≠ 42 ∧ (s[j]'h).toNat ≠ 63 ∧ (s[j]'h).toNat ≠ 126) (fun i => s.size - (intOf i).toNat)
  case atStart => exact ⟨0, by omega, rfl, fun j h => by omega⟩
  case round =>
    obtain ⟨k, hk, rfl, hall⟩ := hrel
    have HA : Hid (∀ j, j < k → ∀ h : j < s.size, (s[j]'h).toNat ≠ 42 ∧ (s[j]'h).toNat ≠ 63 ∧ (s[j]'h).toNat ≠ 126) := hall
    clear hall
    by_cases hlt : k < s.size
    · by_cases h1 : (s[k]'hlt).toNat = 42
      · have g1 : (((s[k]'hlt).toNat : Int) == 42) = true := by simp; omega
        have H1 : Hid ((s[k]'hlt).toNat = 42) := h1
        clear h1
        go_wp2
        go_ret
        exact ⟨Tells.no rfl fun h => (h.1 k hlt).1 H1.out, rfl⟩
      · have g1 : (((s[k]'hlt).toNat : Int) == 42) = false := by simp; omega
        by_cases h2 : (s[k]'hlt).toNat = 63
        · have g2 : (((s[k]'hlt).toNat : Int) == 63) = true := by simp; omega
          have H2 : Hid ((s[k]'hlt).toNat = 63) := h2
          clear h1 h2
          go_wp2
          go_ret
          exact ⟨Tells.no rfl fun h => (h.1 k hlt).2.1 H2.out, rfl⟩
        · have g2 : (((s[k]'hlt).toNat : Int) == 63) = false := by simp; omega
          by_cases h3 : (s[k]'hlt).toNat = 126
          · have g3 : (((s[k]'hlt).toNat : Int) == 126) = true := by simp; omega
            have H3 : Hid ((s[k]'hlt).toNat = 126) := h3
            clear h1 h2 h3
            go_wp2
            go_ret
            exact ⟨Tells.no rfl fun h => (h.1 k hlt).2.2 H3.out, rfl⟩
          · have g3 : (((s[k]'hlt).toNat : Int) == 126) = false := by simp; omega
            have HG : Hid ((s[k]'hlt).toNat ≠ 42 ∧ (s[k]'hlt).toNat ≠ 63 ∧ (s[k]'hlt).toNat ≠ 126) := ⟨h1, h2, h3⟩
            clear h1 h2 h3
            go_wp2
            refine ⟨⟨k + 1, by omega, by go_num, fun j hj h => ?_⟩, by simp [intOf]; omega⟩
            by_cases hjk : j = k
            · subst hjk; exact HG.out
            · exact HA.out j (by omega) h
    · have HALL : Hid (∀ i (h : i < s.size), (s[i]'h).toNat ≠ 42 ∧ (s[i]'h).toNat ≠ 63 ∧ (s[i]'h).toNat ≠ 126) := fun i h => HA.out i (by omega) h
      by_cases hp : Printable s
      · have HP : Hid (Printable s) := hp
        clear hp
        by_cases h200 : s.size ≤ 200
        · have H2 : Hid (s.size ≤ 200) := h200
          go_wp2_with (go_at_call 42; refine (ascii_yes s (by omega) HP.out _).mono ?_; rintro e w1 ⟨rfl, rfl⟩)
          go_ret
          exact ⟨Tells.yes (by first | rfl | (simp; omega)) ⟨HALL.out, HP.out, H2.out⟩, rfl⟩
        · have H2 : Hid (¬ s.size ≤ 200) := h200
          go_wp2_with (go_at_call 42; refine (ascii_yes s (by omega) HP.out _).mono ?_; rintro e w1 ⟨rfl, rfl⟩)
          go_ret
          exact ⟨Tells.no (by first | rfl | (simp; omega)) fun h => H2.out h.2.2, rfl⟩
      · have HP : Hid (¬ Printable s) := hp
        clear hp
        go_wp2_with (go_at_call 42; refine (ascii_no s (by omega) HP.out _).mono ?_; rintro e w1 ⟨rfl, rfl⟩)
        go_ret
        exact ⟨Tells.no rfl fun h => HP.out h.2.1, rfl⟩

/-- What findAt answers. -/
def atInt (s : ByteArray) (k : Nat) : Int := if k < s.size then k else -1
set_option maxRecDepth 20000 in
set_option maxHeartbeats 1000000 in
theorem findAt_any (sub s : ByteArray) (a : Nat) (hs : s.size ≤ 1000) (hb : sub.size ≤ 1000) (hne : 0 < sub.size) (ha : a ≤ s.size) (w : World) :
    Calls Tryz.prog 37 #[.string sub, .string s, .int .i64 a] w fun e w' => (∃ k : Nat, e = .returned (.int .i64 (atInt s k)) ∧ First s sub a k) ∧ w = w' := by
  go_enter Tryz.func37, Tryz.ntmps37
  go_wp2
  go_loop [7] (fun i => ∃ k : Nat, a ≤ k ∧ k ≤ s.size ∧ i = .int .i64 k ∧ ∀ j, a ≤ j → j < k → occ s sub j = false) (fun i => s.size + 1 - (intOf i).toNat)
  case atStart => exact ⟨a, by omega, by omega, rfl, fun j h h' => by omega⟩
  case round =>
    obtain ⟨k, hak, hk, rfl, hh⟩ := hrel
    have HH : Hid (∀ j, a ≤ j → j < k → occ s sub j = false) := hh
    clear hh
    go_wp2
    · have h1 : ((s.extract k (k + sub.size)).toList == sub.toList) = true := by assumption
      have h2 : (k : Int) + sub.size ≤ s.size := by assumption
      go_ret
      have hlt : k < s.size := by omega
      exact ⟨⟨k, by unfold atInt; rw [if_pos hlt]; rfl, by omega, HH.out, fun _ => ⟨hak, occ_of h2 h1⟩⟩, rfl⟩
    · have h1 : ((s.extract k (k + sub.size)).toList == sub.toList) = false := by assumption
      have h2 : (k : Int) + sub.size ≤ s.size := by assumption
      refine ⟨⟨k + 1, by omega, by omega, by go_num, fun j h h' => ?_⟩, by simp [intOf]; omega⟩
      by_cases h0 : j = k
      · subst h0; exact occ_of h2 h1
      · exact HH.out j h (by omega)
    · have h2 : (s.size : Int) < k + sub.size := by assumption
      go_ret
      refine ⟨⟨s.size, by unfold atInt; rw [if_neg (Nat.lt_irrefl _)]; rfl, Nat.le_refl _, fun j h h' => ?_, fun h => absurd h (Nat.lt_irrefl _)⟩, rfl⟩
      by_cases h0 : j < k
      · exact HH.out j h h0
      · exact occ_false_size (by omega)

set_option maxRecDepth 20000 in
theorem specErr_any (s : ByteArray) (w : World) :
    Calls Tryz.prog 36 #[.string s] w fun e w' => e = .returned (.agg #[.int .i64 4, .int .i64 0, .int .i64 0, .string s, .slice none 0 0]) ∧ Below w.heap.size w w' := by
  go_enter Tryz.func36, Tryz.ntmps36
  go_wp2
  go_returns
  exact ⟨rfl, by go_grown⟩
end Go.Proofs.YtoebgbojpkflnaaGreatDoor
