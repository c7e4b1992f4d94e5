/- Proof of FnSquaresJoined, a part: Go's ftoa64 of a whole number of at most six digits. Conditions: the numbers of its way, each by its own operation; the tables as listed. -/
import Derived.Deep.RegionHeld3
import Derived.Outline
import Derived.Test.YtoebgbojpkflnaaGreatDoorJEmit
namespace Go.Proofs.YtoebgbojpkflnaaGreatDoor
open Go Go.RowKit
structure FtoaOk (b : Nat) (neg : Bool) (E M : Int) (M' m : Nat) : Prop where
  hneg : ((b : Int) / 9223372036854775808 != 0) = neg
  hE : bits .and .i64 (wrap64 ((b : Int) / 4503599627370496)) 2047 = E
  hM : bits .and .u64 (b : Int) 4503599627370495 = M
  hM' : bits .or .u64 M 4503599627370496 = (M' : Int)
  hE1 : 1 ≤ E ∧ E ≤ 1075
  hm0 : 0 < M' ∧ M' < 18446744073709551616
  hl : Lib.bitLen M' = 53
  hm : IntKind.u64.wrap ((M' : Int) * 2048) = (m : Int)
theorem bufSt_start {B : Nat} {W w : World} {v : Value} {g nd : Nat} {D : Nat → UInt8} (w0 : World) (hW : Below B W w0) (ho : w0.ownsRow B 5 1 v 0 []) (hg : g = w0.heap.size) (hB : B ≤ w0.heap.size) (hb : Below w0.heap.size w0 w) (hgl : g < w.heap.size) (hd : ∀ t, t < nd → w.cell? ⟨g, t, none⟩ = some (byteVal (D t))) : BufSt B W w v [] g nd D :=
  ⟨ownsRow_below ho hb, fun e => by have := (ho.lt g e).2; omega, hd, hW.trans (hb.mono hB), hgl, Nat.le_trans hB hb.size⟩
set_option maxRecDepth 20000 in
set_option maxHeartbeats 2000000 in
theorem ftoa_any {b : Nat} {neg : Bool} {E M : Int} {M' m : Nat} (h : FtoaOk b neg E M M' m)
    {pow : Bool} {mn mx : Nat} {p lp : Int} {i s : Nat} {x : Nat × Nat} {dmn dmx : Int} {dn : Nat} (hs : ShortOk pow m (E + -1023 - 11 - 52) mn mx p lp i s x dmn dmx dn)
    {nd k dp : Nat} (hnd : Lib.nDigits dn = nd) (hdn : 1 ≤ dn ∧ dn < 18446744073709551616 ∧ dn < 10 ^ nd) (hk : 1 ≤ k ∧ k ≤ nd ∧ nd ≤ 20 ∧ k ≤ dp ∧ dp ≤ 6) (hdp : (nd : Int) + -(p - 1) = dp)
    (hz : ∀ t, k ≤ t → t < nd → Lib.dg dn (nd - 1 - t) = 48) (hnz : Lib.dg dn (nd - k) ≠ 48)
    {R : List UInt8} (hR : (if neg then [45] else []) ++ (List.range k).map (fun t => Lib.dg dn (nd - 1 - t)) ++ List.replicate (dp - k) 48 = R)
    (B : Nat) (W w : World) (v : Value) (ht : PowTab w) (ht2 : PowTwo w) (hW : Below B W w) (ho : w.ownsRow B 5 1 v 0 []) (hB : B ≤ w.heap.size)
    (hfb : ∀ w, (callFunc 208 #[.float .f64 b]).run Tryz.prog w = .ok (.value (.int .u64 b)) w) :
    Calls Tryz.prog 188 #[v, .float .f64 b, .int .u8 103, .int .i64 (-1)] w fun e w' => ∃ v', e = .returned v' ∧ BufSt B W w' v' R w.heap.size k (fun t => Lib.dg dn (nd - 1 - t)) := by
  have H : Hid (FtoaOk b neg E M M' m) := h
  have HS : Hid (ShortOk pow m (E + -1023 - 11 - 52) mn mx p lp i s x dmn dmx dn) := hs
  have hneg := h.hneg
  have hE := h.hE
  have hM := h.hM
  have hM' := h.hM'
  have hm := h.hm
  have hE1 := h.hE1.1
  have hE2 := h.hE1.2
  have hm0 : ((M' : Int) == 0) = false := (by have := h.hm0; rw [beq_eq_false_iff_ne]; omega)
  have hE3 : (E == 2047) = false := (by rw [beq_eq_false_iff_ne]; omega)
  have hE4 : (E == 0) = false := (by rw [beq_eq_false_iff_ne]; omega)
  have HND : Hid (Lib.nDigits dn = nd ∧ dn < 10 ^ nd) := ⟨hnd, hdn.2.2⟩
  have HDP : Hid ((nd : Int) + -(p - 1) = dp) := hdp
  have HZ : Hid (∀ t, k ≤ t → t < nd → Lib.dg dn (nd - 1 - t) = 48) := hz
  have HR := Lib.hid hR
  have HNZ : Hid (Lib.dg dn (nd - k) ≠ 48) := hnz
  have HT : Hid (PowTab w ∧ PowTwo w) := ⟨ht, ht2⟩
  have HO : Hid (Below B W w ∧ w.ownsRow B 5 1 v 0 [] ∧ B ≤ w.heap.size) := ⟨hW, ho, hB⟩
  obtain ⟨hk1, hk2, hk3, hk4, hk5⟩ := hk
  have hdn1 := hdn.1
  have hdn2 := hdn.2.1
  have hp1 : -10 ≤ p := (by omega)
  have hp2 : p ≤ 30 := (by omega)
  clear h hs hnd hdn hdp hz hnz ht ht2 hW ho hB hR
  go_enter Tryz.func188, Tryz.ntmps188
  go_wp2_with fail
  go_quiet (fail)
  go_wp2_with fail
  refine abs_calls (fun w' => Blk w' w.heap.size 205 (List.replicate 32 (.int .u8 0)) ∧ Below w.heap.size w w') ⟨Blk.new (w.drewN nq) 205 (List.replicate 32 (.int .u8 0)), (below_drewN' (Below.refl _ _) nq).alloc (Nat.le_refl _) _⟩ ?_
  rintro w1 ⟨hg1, hb1⟩
  have HG1 : Hid (Blk w1 w.heap.size 205 (List.replicate 32 (.int .u8 0))) := hg1
  have HB1 : Hid (Below w.heap.size w w1) := hb1
  clear hg1 hb1
  refine (Tryz.bits_Len64 (M' : Int) _ (by omega) (by have := H.out.hm0; omega)).mono ?_
  rintro e w2 ⟨rfl, rfl⟩
  rw [Int.toNat_natCast, H.out.hl]
  go_wp2_with fail
  refine (short_any HS.out w2 (HT.out.1.below HB1.out)).mono ?_
  rintro e w3 ⟨rfl, hb3⟩
  have HB3 : Hid (Below w2.heap.size w2 w3) := hb3
  clear hb3
  go_wp2_with fail
  have L2 : w.heap.size < w2.heap.size := HG1.out.lt
  have HG3 : Hid (Blk w3 w.heap.size 205 (List.replicate 32 (.int .u8 0))) := HG1.out.below HB3.out L2
  have L3 : w.heap.size < w3.heap.size := HG3.out.lt
  have HT3 : Hid (PowTwo w3) := (HT.out.2.below HB1.out).below (HB3.out)
  go_region_with (first | (go_at_call 215; ( refine (Tryz.internal_strconv_numDigits dn (by omega) (by omega) _ (HT3.out.below (by go_grown))).mono ?_; rintro e w4 ⟨rfl, rfl⟩; rw [HND.out.1])) | (go_at_call 214; go_loud (refine (setDigits_any dn nd k (-(p - 1)) w.heap.size 205 _ (HG3.out.below (by go_grown) L3) HND.out.2 (by omega) (by omega) (by omega) (by omega) (by omega) (by omega) (by omega) HZ.out HNZ.out).mono ?_; rintro e w5 ⟨rfl, hc5, hb5⟩; rw [HDP.out]; have HC5 := Lib.hid hc5; have HB5 := Lib.hid hb5; clear hc5 hb5)))
  go_wp2_with fail
  have HB : Below w.heap.size w w5 := HB1.out.trans ((HB3.out.mono (Nat.le_of_lt L2)).trans (Below.trans (by go_grown) HB5.out))
  refine (efg_any neg w.heap.size k dp (fun t => Lib.dg dn (nd - 1 - t)) B W w5 v (bufSt_start w HO.out.1 HO.out.2.1 rfl HO.out.2.2 HB (Nat.lt_of_lt_of_le L3 HB5.out.size) (fun t ht => HC5.out t (by omega))) hk1 hk4 hk5).mono ?_
  rintro e w6 ⟨v', rfl, hst⟩
  rw [HR.out] at hst
  have HST := Lib.hid hst
  clear hst
  go_wp2_with fail
  go_ret
  exact ⟨v', rfl, HST.out⟩
end Go.Proofs.YtoebgbojpkflnaaGreatDoor
