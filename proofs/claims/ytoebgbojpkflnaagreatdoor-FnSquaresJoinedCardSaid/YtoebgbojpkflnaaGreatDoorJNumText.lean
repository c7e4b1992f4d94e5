/- Proof of FnSquaresJoined, a part: The texts of the whole numbers within 999, written and read back. -/
import Derived.Test.YtoebgbojpkflnaaGreatDoorJFmtAll
import Derived.Test.YtoebgbojpkflnaaGreatDoorJAtof
namespace Go.Proofs.YtoebgbojpkflnaaGreatDoor
open Go Go.RowKit
theorem fmt_pos : upTo (fun n => fmtB (fx ((n + 1 : Nat) : Int) 0) (decOf (n + 1))) 999 = true := by decide +kernel
theorem fmt_neg : upTo (fun n => fmtB (fx (-((n + 1 : Nat) : Int)) 0) (45 :: decOf (n + 1))) 999 = true := by decide +kernel
/-- Whether a row of bytes is a sign of o bytes and one to three digits that say m. -/
def sgB (l : List UInt8) (o m : Nat) : Bool :=
  decide (o < l.length ∧ l.length ≤ o + 3) && (l.drop o).all (fun b => decide (48 ≤ b.toNat ∧ b.toNat ≤ 57)) && decide (49 ≤ ((l[o]?).getD 0).toNat) && decide (valO ⟨l.toArray⟩ o l.length = m)
theorem at_list (l : List UInt8) (i : Nat) (h : i < (⟨l.toArray⟩ : ByteArray).size) (h' : i < l.length) : (⟨l.toArray⟩ : ByteArray)[i]'h = l[i]'h' := rfl
theorem sgB_ok {l : List UInt8} {o m : Nat} (h : sgB l o m = true) (ho : o ≤ 1) (hs : o = 1 → l[0]? = some 45) : SgS ⟨l.toArray⟩ o ∧ valO ⟨l.toArray⟩ o (⟨l.toArray⟩ : ByteArray).size = m := by
  simp only [sgB, Bool.and_eq_true, decide_eq_true_eq] at h
  obtain ⟨⟨⟨h1, h2⟩, h3⟩, h4⟩ := h
  have hz : (⟨l.toArray⟩ : ByteArray).size = l.length := rfl
  refine ⟨⟨ho, by rw [hz]; exact h1, fun h e => ?_, fun i h hi => ?_, fun h => ?_⟩, by rw [hz]; exact h4⟩
  · have := hs e
    rw [at_list l 0 h (by rw [hz] at h; exact h)]
    rw [List.getElem?_eq_getElem (by rw [hz] at h; exact h)] at this
    exact Option.some.inj this
  · have hl : i < l.length := by rw [hz] at h; exact h
    rw [at_list l i h hl]
    have hm : l[i] ∈ l.drop o := by
      rw [List.mem_iff_getElem?]
      exact ⟨i - o, by rw [List.getElem?_drop, show o + (i - o) = i by omega, List.getElem?_eq_getElem hl]⟩
    exact of_decide_eq_true (List.all_eq_true.1 h2 _ hm)
  · have hl : o < l.length := by rw [hz] at h; exact h
    rw [at_list l o h hl]
    rw [List.getElem?_eq_getElem hl] at h3
    exact h3
theorem sg_pos : upTo (fun n => sgB (decOf (n + 1)) 0 (n + 1)) 999 = true := by decide +kernel
theorem sg_neg : upTo (fun n => sgB (45 :: decOf (n + 1)) 1 (n + 1)) 999 = true := by decide +kernel
/-- The decimal text of a whole number. -/
def sgT (n : Int) : List UInt8 := if n < 0 then 45 :: decOf n.natAbs else decOf n.natAbs
theorem sgT_fmt (n : Int) (h1 : -999 ≤ n) (h2 : n ≤ 999) (h0 : n ≠ 0) : FmtOk (fx n 0) (sgT n) := by
  unfold sgT
  split
  · have := fmtB_ok (upTo_get fmt_neg (n.natAbs - 1) (by omega))
    rw [show n.natAbs - 1 + 1 = n.natAbs by omega, show -((n.natAbs : Nat) : Int) = n by omega] at this
    exact this
  · have := fmtB_ok (upTo_get fmt_pos (n.natAbs - 1) (by omega))
    rw [show n.natAbs - 1 + 1 = n.natAbs by omega, show ((n.natAbs : Nat) : Int) = n by omega] at this
    exact this
theorem sgT_parse (n : Int) (h1 : -999 ≤ n) (h2 : n ≤ 999) (h0 : n ≠ 0) (w : World) (ho : OptAt w) :
    Calls Tryz.prog 115 #[.string ⟨(sgT n).toArray⟩, .int .i64 64] w fun e w' => e = .returned (.tuple #[.float .f64 (fx n 0), .nilIface]) ∧ w = w' := by
  unfold sgT
  split
  · have h := upTo_get sg_neg (n.natAbs - 1) (by omega)
    rw [show n.natAbs - 1 + 1 = n.natAbs by omega] at h
    have hs := sgB_ok h (Nat.le_refl _) (fun _ => rfl)
    have := parse_any _ 1 hs.1 _ hs.2 (by omega) (by omega) w ho
    rw [if_pos (by rfl), show -((n.natAbs : Nat) : Int) = n by omega] at this
    exact this
  · have h := upTo_get sg_pos (n.natAbs - 1) (by omega)
    rw [show n.natAbs - 1 + 1 = n.natAbs by omega] at h
    have hs := sgB_ok h (Nat.zero_le _) (fun e => by omega)
    have := parse_any _ 0 hs.1 _ hs.2 (by omega) (by omega) w ho
    rw [if_neg (by decide), show ((n.natAbs : Nat) : Int) = n by omega] at this
    exact this
theorem sgT_ne (n : Int) (h1 : -999 ≤ n) (h2 : n ≤ 999) (h0 : n ≠ 0) : (⟨(sgT n).toArray⟩ : ByteArray) ≠ ⟨#[]⟩ := by
  unfold sgT
  intro h
  split at h
  · have := congrArg ByteArray.size h; simp [ByteArray.size] at this
  · have hh := upTo_get sg_pos (n.natAbs - 1) (by omega)
    rw [show n.natAbs - 1 + 1 = n.natAbs by omega] at hh
    have hs := (sgB_ok hh (Nat.zero_le _) (fun e => by omega)).1.len.1
    rw [h] at hs; exact absurd hs (by decide)
theorem optAt_of_laid {laid : List (String × DataW Unit)} {w : World} (hl : (laid.all fun x => x.2.handleName?.isNone) = true)
    (hf : laid.filter (fun x => x.1 == "internal/strconv.optimize") = [("internal/strconv.optimize", .lit (.bool true))])
    (hf2 : laid.filter (fun x => x.1 == "internal/strconv.float64info") = [("internal/strconv.float64info", .agg [.lit (.int .u64 52), .lit (.int .u64 11), .lit (.int .i64 (-1023))])]) (h : laidMetH Tryz.prog laid w) : OptAt w := by
  rw [MakeChecks.laidMetH_plain _ _ _ hl] at h
  have h1 := h.filter (fun x => x.1 == "internal/strconv.optimize")
  have h2 := h.filter (fun x => x.1 == "internal/strconv.float64info")
  rw [hf] at h1
  rw [hf2] at h2
  obtain ⟨ps, ⟨g, t, cs, fuel, p, q, hg, ht, hv, htr, _, _⟩, _⟩ := h1
  obtain ⟨ps2, ⟨g2, t2, cs2, fuel2, p2, q2, hg2, ht2, hv2, htr2, _, _⟩, _⟩ := h2
  obtain rfl : 6 = g := Option.some.inj ((show Tryz.prog.globalNamed "internal/strconv.optimize" = some 6 by kernel_rfl).symm.trans hg)
  obtain rfl : 4 = t := Option.some.inj ((show (Tryz.prog.globals[6]?).map (·.type) = some 4 by kernel_rfl).symm.trans ht)
  obtain rfl : 8 = g2 := Option.some.inj ((show Tryz.prog.globalNamed "internal/strconv.float64info" = some 8 by kernel_rfl).symm.trans hg2)
  have hc := World.var?_cell (show Tryz.prog.globalNamed "internal/strconv.optimize" = some 6 by kernel_rfl) hv
  have hc2 := World.var?_cell (show Tryz.prog.globalNamed "internal/strconv.float64info" = some 8 by kernel_rfl) hv2
  obtain rfl : 225 = t2 := Option.some.inj ((show (Tryz.prog.globals[8]?).map (·.type) = some 225 by kernel_rfl).symm.trans ht2)
  obtain ⟨b, e1, e2⟩ := DataW.trod_bool Tryz.underlying4 htr
  simp at e2
  obtain ⟨xs, m, _, hx, hlen, hxl, hff⟩ := DataW.trod_struct Tryz.underlying225 htr2
  have f0 := hff 0 { name := "mantbits", type := 172, offset := 0, embedded := false, tag := "", pkgPath := "internal/strconv", byteOffset := 0 } rfl
  have hc172 : Tryz.prog.cellsOf 172 = 1 := by kernel_rfl
  have hxm : xs.map (·.1) = [.lit (.int .u64 52), .lit (.int .u64 11), .lit (.int .i64 (-1023))] := by simpa using (congrArg Prod.fst hx).symm
  match xs, hxm with
  | [x0, x1, x2], hxm =>
    simp at hxm
    rw [hc172] at f0
    obtain ⟨a', i0, i1, _⟩ := DataW.trod_int Tryz.underlying172 (f0.trans rfl)
    rw [i1] at hxm
    simp at hxm
    have hz : cs2.toList[0]? = some (.int .u64 52) := by
      have : (List.take 1 (List.drop 0 cs2.toList))[0]? = some (.int .u64 52) := by rw [i0, hxm.1]; rfl
      simpa using this
    have hlt : 8 < w.heap.size := by
      rcases Nat.lt_or_ge 8 w.heap.size with h' | h'
      · exact h'
      · have := (hc2 0).trans (by simpa using hz)
        simp [World.cell?, Array.getElem?_eq_none h'] at this
    refine ⟨hlt, (hc 0).trans ?_, (hc2 0).trans (by simpa using hz)⟩
    have : cs.toList[0]? = some (.bool true) := by rw [e1, ← e2.1]; rfl
    simpa using this
theorem optA {w : World} (h : laidMetH Tryz.prog Rows.fnSquaresJoinedRow.laid w) : OptAt w := optAt_of_laid (by kernel_rfl) (by kernel_rfl) (by kernel_rfl) h
end Go.Proofs.YtoebgbojpkflnaaGreatDoor
