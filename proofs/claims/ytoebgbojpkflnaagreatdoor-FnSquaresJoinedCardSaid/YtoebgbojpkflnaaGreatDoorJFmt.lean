/- Proof of FnSquaresJoined, a part: strconv.FormatFloat('g', -1, 64) of a short whole number. Conditions: the numbers of its way; the tables as listed. -/
import Derived.Test.YtoebgbojpkflnaaGreatDoorJFtoa
namespace Go.Proofs.YtoebgbojpkflnaaGreatDoor
open Go Go.RowKit
theorem run_float64bits (b : Nat) (w : World) : (callFunc 208 #[.float .f64 b]).run Tryz.prog w = .ok (.value (.int .u64 b)) w := by
  rw [run_callFunc_extern Tryz.func208 (by kernel_rfl) (by kernel_rfl) (by kernel_rfl) (e := Extern.MathFloatBits.float64bits) (by kernel_rfl)]
  rfl
/-- An owned row of bytes, turned into a string. -/
theorem own_string {w : World} {B : Nat} {v : Value} {xs : List UInt8} (h : w.ownsRow B 5 1 v xs.length (xs.map byteVal)) (hx : xs ≠ []) : (convert 75 9 v).run Tryz.prog w = .ok (.string ⟨xs.toArray⟩) w := by
  obtain ⟨_, h1 | ⟨g, cap, cur, rfl, _, hh, _, _, hc, ht⟩⟩ := h
  · exact absurd (List.length_eq_zero_iff.1 h1.2) hx
  · refine run_convert_bytes_back w 75 9 5 ⟨g, 0, none⟩ cap xs Tryz.underlying75 Tryz.underlying5 Tryz.underlying9 fun j hj => ?_
    have e0 : (⟨g, 0, none⟩ : Addr).add j = ⟨g, j, none⟩ := by simp [Addr.add]; intro h; exact h.symm
    have e1 : cur[j]? = some (byteVal xs[j]) := by
      have : (cur.toList.take (xs.length * 1))[j]? = some (byteVal xs[j]) := by rw [ht]; simp [hj]
      rw [List.getElem?_take_of_lt (by omega)] at this
      simpa using this
    rw [e0]
    simp only [World.cell?, hh]
    exact e1
theorem owns_made (w : World) (cap : Nat) (hc : cap ≤ maxLen) : (w.alloc (.cells (Array.replicate cap (.int .u8 0)) 5)).ownsRow w.heap.size 5 1 (.slice (some ⟨w.heap.size, 0, none⟩) 0 cap) 0 [] :=
  ⟨rfl, .inr ⟨w.heap.size, cap, _, rfl, Nat.le_refl _, heap_alloc_new w _, Nat.zero_le _, hc, by simp, by simp⟩⟩
/-- The numbers of FormatFloat's way at the float of bits b, that ends in the bytes R. -/
structure FmtOk (b : Nat) (R : List UInt8) : Prop where
  way : ∃ (neg : Bool) (E M : Int) (M' m : Nat) (pow : Bool) (mn mx : Nat) (p lp : Int) (i s : Nat) (x : Nat × Nat) (dmn dmx : Int) (dn nd k dp : Nat),
    FtoaOk b neg E M M' m ∧ ShortOk pow m (E + -1023 - 11 - 52) mn mx p lp i s x dmn dmx dn ∧ Lib.nDigits dn = nd ∧ (1 ≤ dn ∧ dn < 18446744073709551616 ∧ dn < 10 ^ nd) ∧ (1 ≤ k ∧ k ≤ nd ∧ nd ≤ 20 ∧ k ≤ dp ∧ dp ≤ 6) ∧ ((nd : Int) + -(p - 1) = dp) ∧
    (∀ t, k ≤ t → t < nd → Lib.dg dn (nd - 1 - t) = 48) ∧ Lib.dg dn (nd - k) ≠ 48 ∧ (if neg then [45] else []) ++ (List.range k).map (fun t => Lib.dg dn (nd - 1 - t)) ++ List.replicate (dp - k) 48 = R
  ne : R ≠ []
theorem ftoa_ok {b : Nat} {R : List UInt8} (h : FmtOk b R) (B : Nat) (W w : World) (v : Value) (ht : PowTab w) (ht2 : PowTwo w) (hW : Below B W w) (ho : w.ownsRow B 5 1 v 0 []) (hB : B ≤ w.heap.size) :
    Calls Tryz.prog 188 #[v, .float .f64 b, .int .u8 103, .int .i64 (-1)] w fun e w' => ∃ v', e = .returned v' ∧ (convert 75 9 v').run Tryz.prog w' = .ok (.string ⟨R.toArray⟩) w' ∧ Below B W w' := by
  obtain ⟨neg, E, M, M', m, pow, mn, mx, p, lp, i, s, x, dmn, dmx, dn, nd, k, dp, h1, h2, h3, h4, h5, h6, h7, h8, h9⟩ := h.way
  refine (ftoa_any h1 h2 h3 h4 h5 h6 h7 h8 h9 B W w v ht ht2 hW ho hB (run_float64bits b)).mono ?_
  rintro e w' ⟨v', rfl, hst⟩
  exact ⟨v', rfl, own_string hst.own h.ne, hst.bel⟩
set_option maxRecDepth 20000 in
set_option maxHeartbeats 1000000 in
theorem fmt_inner {b : Nat} {R : List UInt8} (h : FmtOk b R) (w : World) (ht : PowTab w) (ht2 : PowTwo w) :
    Calls Tryz.prog 161 #[.float .f64 b, .int .u8 103, .int .i64 (-1), .int .i64 64] w fun e w' => e = .returned (.string ⟨R.toArray⟩) ∧ Below w.heap.size w w' := by
  have H : Hid (FmtOk b R) := Lib.hid h
  have HT : Hid (PowTab w ∧ PowTwo w) := Lib.hid ⟨ht, ht2⟩
  clear h ht ht2
  have hmx : max (3 : Int) 24 = 24 := (by decide)
  have hmk : ∀ w, (Instr.makeSlice 75 (.int .i64 0) (.int .i64 24)).run Tryz.prog w = .ok (.slice (some ⟨w.heap.size, 0, none⟩) 0 24) (w.alloc (.cells (Array.replicate 24 (.int .u8 0)) 5)) := fun _ => by kernel_rfl
  go_enter Tryz.func161, Tryz.ntmps161
  go_wp2_with fail
  refine (ftoa_ok H.out w.heap.size w _ _ (HT.out.1.below ((Below.refl _ _).alloc (Nat.le_refl _) _)) (HT.out.2.below ((Below.refl _ _).alloc (Nat.le_refl _) _)) ((Below.refl _ _).alloc (Nat.le_refl _) _) (owns_made w 24 (by simp only [maxLen]; omega)) (by simp)).mono ?_
  rintro e w1 ⟨v', rfl, hcv, hb⟩
  have HB := Lib.hid hb
  clear hb
  go_wp2_with fail
  go_ret
  exact ⟨rfl, HB.out⟩
set_option maxRecDepth 20000 in
set_option maxHeartbeats 1000000 in
theorem fmt_any {b : Nat} {R : List UInt8} (h : FmtOk b R) (w : World) (ht : PowTab w) (ht2 : PowTwo w) :
    Calls Tryz.prog 129 #[.float .f64 b, .int .u8 103, .int .i64 (-1), .int .i64 64] w fun e w' => e = .returned (.string ⟨R.toArray⟩) ∧ Below w.heap.size w w' := by
  have HC := Lib.hid (fmt_inner h w ht ht2)
  clear h ht ht2
  go_enter Tryz.func129, Tryz.ntmps129
  go_wp2_with fail
  refine HC.out.mono ?_
  rintro e w1 ⟨rfl, hb⟩
  have HB := Lib.hid hb
  clear hb
  go_wp2_with fail
  go_ret
  exact ⟨rfl, HB.out⟩
end Go.Proofs.YtoebgbojpkflnaaGreatDoor
