/- Proof of FnSquaresJoined, a part: Go's number formatting, its small parts: what uscale and its companions return, in the operations that they carry out. Conditions: numbers within their kinds. -/
import Derived.Deep.QuietTactic
import Derived.BigQuiet
import Derived.Deep.RegionWith
import Derived.Test.YtoebgbojpkflnaaGreatDoorJList
import Derived.Test.YtoebgbojpkflnaaGreatDoorJShNum
namespace Go.Proofs.YtoebgbojpkflnaaGreatDoor
open Go Go.RowKit
set_option maxRecDepth 20000
theorem log10_any (x : Int) (h1 : -2000 ≤ x) (h2 : x ≤ 2000) (w : World) : Calls Tryz.prog 216 #[.int .i64 x] w fun e w' => e = .returned (.int .i64 (x * 78913 / 262144)) ∧ w = w' := by
  go_enter Tryz.func216, Tryz.ntmps216
  go_wp2
  go_ret
  exact ⟨rfl, rfl⟩
theorem skewed_any (x : Int) (h1 : -2000 ≤ x) (h2 : x ≤ 2000) (w : World) : Calls Tryz.prog 243 #[.int .i64 x] w fun e w' => e = .returned (.int .i64 ((x * 631305 - 261663) / 2097152)) ∧ w = w' := by
  go_enter Tryz.func243, Tryz.ntmps243
  go_wp2
  go_ret
  exact ⟨rfl, rfl⟩
theorem log2_any (x : Int) (h1 : -2000 ≤ x) (h2 : x ≤ 2000) (w : World) : Calls Tryz.prog 245 #[.int .i64 x] w fun e w' => e = .returned (.int .i64 (x * 108853 / 32768)) ∧ w = w' := by
  go_enter Tryz.func245, Tryz.ntmps245
  go_wp2
  go_ret
  exact ⟨rfl, rfl⟩
theorem bool64_any (b : Bool) (w : World) : Calls Tryz.prog 232 #[.bool b] w fun e w' => e = .returned (.int .u64 (if b then 1 else 0)) ∧ w' = w := by
  cases b
  all_goals
    go_enter Tryz.func232, Tryz.ntmps232
    go_wp2
    go_ret
    exact ⟨rfl, rfl⟩
theorem ceil_any (u : Int) (w : World) : Calls Tryz.prog 248 #[.int .u64 u] w fun e w' => e = .returned (.int .u64 (IntKind.u64.wrap (u + 3) / 4)) ∧ w = w' := by
  go_enter Tryz.func248, Tryz.ntmps248
  go_wp2
  go_ret
  exact ⟨rfl, rfl⟩
theorem floor_any (u : Int) (w : World) : Calls Tryz.prog 249 #[.int .u64 u] w fun e w' => e = .returned (.int .u64 (IntKind.u64.wrap (u + 0) / 4)) ∧ w = w' := by
  go_enter Tryz.func249, Tryz.ntmps249
  go_wp2
  go_ret
  exact ⟨by simp, rfl⟩
theorem nudge_any (u k : Int) (w : World) : Calls Tryz.prog 247 #[.int .u64 u, .int .i64 k] w fun e w' => e = .returned (.int .u64 (IntKind.u64.wrap (u + IntKind.u64.wrap k))) ∧ w = w' := by
  go_enter Tryz.func247, Tryz.ntmps247
  go_wp2
  go_ret
  exact ⟨rfl, rfl⟩
/-- What uscale returns, out of the two products' parts. -/
def uscaleW (h m q : Int) (s : Nat) : Int :=
  if (IntKind.u64.wrap (h / 2 ^ s * 2 ^ s) != h) = true then bits .or .u64 (h / 2 ^ s) 1
  else bits .or .u64 (IntKind.u64.wrap (h - (if m < q then 1 else 0)) / 2 ^ s) (if 1 < IntKind.u64.wrap (m - q) then 1 else 0)
def uscaleV (x hi lo s : Nat) : Int := uscaleW ((x * hi / 18446744073709551616 : Nat) : Int) ((x * hi % 18446744073709551616 : Nat) : Int) ((x * lo / 18446744073709551616 : Nat) : Int) s
theorem ret_u64 {a b : Int} (h : a = b) : Ending.returned (.int .u64 a) = .returned (.int .u64 b) := by rw [h]
set_option maxHeartbeats 1000000 in
theorem uscale_any (x hi lo s : Nat) (hx : x < 18446744073709551616) (hh : hi < 18446744073709551616) (hl : lo < 18446744073709551616) (hs : s ≤ 63) (g : Nat) (w : World) (hc : Blk w g 251 [.int .u64 hi, .int .u64 lo, .int .i64 s]) :
    Calls Tryz.prog 246 #[.int .u64 x, .pointer (some ⟨g, 0, none⟩)] w fun e w' => e = .returned (.int .u64 (uscaleV x hi lo s)) ∧ ∃ n, w' = w.drewN n := by
  have c0 := hc.get 0 rfl
  have c1 := hc.get 1 rfl
  have c2 := hc.get 2 rfl
  have h63 : bits .and .i64 (s : Int) 63 = (s : Int) := by
    have : ∀ k : Fin 64, bits .and .i64 (k.val : Int) 63 = (k.val : Int) := by decide +kernel
    exact this ⟨s, by omega⟩
  have hs1 : (s : Int) ≤ 64 := (by omega)
  have hs0 : 0 ≤ (s : Int) := (by omega)
  clear hc
  go_enter Tryz.func246, Tryz.ntmps246
  go_wp2_with fail
  refine (Tryz.bits_Mul64 x hi hx hh _).mono ?_
  rintro e w1 ⟨rfl, rfl⟩
  obtain ⟨h, hh1⟩ : ∃ h : Int, h = ((x * hi / 18446744073709551616 : Nat) : Int) := ⟨_, rfl⟩
  obtain ⟨m, hm1⟩ : ∃ m : Int, m = ((x * hi % 18446744073709551616 : Nat) : Int) := ⟨_, rfl⟩
  obtain ⟨q, hq1⟩ : ∃ q : Int, q = ((x * lo / 18446744073709551616 : Nat) : Int) := ⟨_, rfl⟩
  have HV : Hid (uscaleV x hi lo s = uscaleW h m q s) := (by show uscaleV x hi lo s = uscaleW h m q s; rw [hh1, hm1, hq1]; rfl)
  have HQ : Hid (q = ((x * lo / 18446744073709551616 : Nat) : Int)) := hq1
  rw [← hh1, ← hm1]
  clear hh1 hm1 hq1
  cases hb : (IntKind.u64.wrap (h / 2 ^ s * 2 ^ s) != h) with
  | true =>
    have HR : Hid (uscaleW h m q s = bits .or .u64 (h / 2 ^ s) 1) := if_pos hb
    go_wp2_with fail
    go_ret
    exact ⟨by rw [HV.out, HR.out]; rfl, 0, rfl⟩
  | false =>
    have HR : Hid (uscaleW h m q s = bits .or .u64 (IntKind.u64.wrap (h - (if m < q then 1 else 0)) / 2 ^ s) (if 1 < IntKind.u64.wrap (m - q) then 1 else 0)) := if_neg (by rw [hb]; exact Bool.false_ne_true)
    go_wp2_with fail
    refine (Tryz.bits_Mul64 x lo hx hl _).mono ?_
    rintro e w2 ⟨rfl, rfl⟩
    rw [← HQ.out]
    cases hc1 : decide (m < q)
    all_goals cases hc2 : decide (1 < IntKind.u64.wrap (m - q))
    · have HR2 : Hid (uscaleW h m q s = bits .or .u64 (IntKind.u64.wrap (h) / 2 ^ s) 0) := (by show uscaleW h m q s = _; rw [HR.out, if_neg (of_decide_eq_false hc1), if_neg (of_decide_eq_false hc2)]; simp only [Int.sub_zero])
      go_wp2_with (go_at_call 232; refine (bool64_any _ _).mono ?_; rintro e w3 ⟨rfl, rfl⟩)
      go_quiet ((go_at_call 232; exact Calls.quiet_of_same (bool64_any _ _)))
      go_wp2
      go_ret
      exact ⟨ret_u64 (by rw [HV.out, HR2.out]), _, rfl⟩
    · have HR2 : Hid (uscaleW h m q s = bits .or .u64 (IntKind.u64.wrap (h) / 2 ^ s) 1) := (by show uscaleW h m q s = _; rw [HR.out, if_neg (of_decide_eq_false hc1), if_pos (of_decide_eq_true hc2)]; simp only [Int.sub_zero])
      go_wp2_with (go_at_call 232; refine (bool64_any _ _).mono ?_; rintro e w3 ⟨rfl, rfl⟩)
      go_quiet ((go_at_call 232; exact Calls.quiet_of_same (bool64_any _ _)))
      go_wp2
      go_ret
      exact ⟨ret_u64 (by rw [HV.out, HR2.out]), _, rfl⟩
    · have HR2 : Hid (uscaleW h m q s = bits .or .u64 (IntKind.u64.wrap (h - 1) / 2 ^ s) 0) := (by show uscaleW h m q s = _; rw [HR.out, if_pos (of_decide_eq_true hc1), if_neg (of_decide_eq_false hc2)])
      go_wp2_with (go_at_call 232; refine (bool64_any _ _).mono ?_; rintro e w3 ⟨rfl, rfl⟩)
      go_quiet ((go_at_call 232; exact Calls.quiet_of_same (bool64_any _ _)))
      go_wp2
      go_ret
      exact ⟨ret_u64 (by rw [HV.out, HR2.out]), _, rfl⟩
    · have HR2 : Hid (uscaleW h m q s = bits .or .u64 (IntKind.u64.wrap (h - 1) / 2 ^ s) 1) := (by show uscaleW h m q s = _; rw [HR.out, if_pos (of_decide_eq_true hc1), if_pos (of_decide_eq_true hc2)])
      go_wp2_with (go_at_call 232; refine (bool64_any _ _).mono ?_; rintro e w3 ⟨rfl, rfl⟩)
      go_quiet ((go_at_call 232; exact Calls.quiet_of_same (bool64_any _ _)))
      go_wp2
      go_ret
      exact ⟨ret_u64 (by rw [HV.out, HR2.out]), _, rfl⟩
end Go.Proofs.YtoebgbojpkflnaaGreatDoor
