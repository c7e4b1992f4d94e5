/- ROMAN of a number from 1 to 3999: the numeral. Condition: romanTable as the row lists it. -/
import Derived.Test.YtoebgbojpkflnaaGreatDoorRomTab
import Derived.Test.YtoebgbojpkflnaaGreatDoorRomanF
import Derived.Test.YtoebgbojpkflnaaGreatDoorShBuf
import Derived.Deep.RegionWith
import Derived.Outline
namespace Go.Proofs.YtoebgbojpkflnaaGreatDoor
open Go Go.RowKit
theorem buf_keep {T e : TypeId} {B b : Nat} {bs : List Value} {w w' : World} (h : Lib.IsBuffer T e B b bs w) (hb : Below w.heap.size w w') : Lib.IsBuffer T e B b bs w' := by
  have hlt := h.lt
  obtain ⟨h1, v, lr, h2, h3, h4⟩ := h
  exact ⟨h1, v, lr, (hb.block b hlt).trans h2, ownsRow_below h3 hb, h4⟩
theorem byteCells_app (a b : List UInt8) : Lib.byteCells (a ++ b) = Lib.byteCells a ++ Lib.byteCells b := List.map_append
theorem bytes_one (l : List UInt8) : ∀ v ∈ Lib.byteCells l, v.oneCell' = true := by
  intro v hv
  obtain ⟨b, _, rfl⟩ := List.mem_map.1 hv
  rfl
theorem romVal_le (k : Nat) : romVal k ≤ 4000 := by
  by_cases h : k < 13
  · have : ∀ k, k < 13 → romVals.getD k 1 ≤ 4000 := by decide
    exact this k h
  · show (romVals[k]?).getD 1 ≤ 4000
    rw [List.getElem?_eq_none (by simp [romVals]; omega)]; exact (by decide : (none : Option Nat).getD 1 ≤ 4000)
theorem fx_ge {r v : Nat} (hr : r ≤ 4000) (hv : v ≤ 4000) (h : v ≤ r) : FloatKind.f64.format.order (fx r 0) (fx v 0) = some .eq ∨ FloatKind.f64.format.order (fx r 0) (fx v 0) = some .gt := by
  rw [fx_order hr hv]
  rcases Nat.lt_or_ge v r with h1 | h1
  · exact .inr (by rw [Int.compare_eq_gt.2 (by omega)])
  · exact .inl (by rw [Int.compare_eq_eq.2 (by omega)])
theorem fx_less {r v : Nat} (hr : r ≤ 4000) (hv : v ≤ 4000) (h : r < v) : FloatKind.f64.format.order (fx r 0) (fx v 0) = some .lt := by
  rw [fx_order hr hv, Int.compare_eq_lt.2 (by omega)]
def floatBit : Value → Nat
  | .float _ b => b
  | _ => 0
set_option maxRecDepth 20000 in
set_option maxHeartbeats 1000000 in
theorem roman_1 (n : Nat) (hn : n ≤ 3999) (F : Value) (B L b0 : Nat) (w : World) (ht : RomTab w) (hil : IsList B w L [b0] [.iface 84 (Atom.num (fx n 0)).fa]) :
    Calls Tryz.prog 103 #[F, .pointer (some ⟨L, 0, none⟩)] w (Gives (fun r => r = .text ⟨(numeral n).toArray⟩) w) := by
  have HIL : Hid (IsList B w L [b0] [.iface 84 (Atom.num (fx n 0)).fa]) := hil
  obtain ⟨c0, l0⟩ := hil.at3 0 rfl rfl
  have HT : Hid (RomTab w) := ht
  obtain ⟨x, hx⟩ : ∃ x, x = fx (n : Int) 0 := ⟨_, rfl⟩
  have hfa : (Atom.num x).fa = .agg #[.string ⟨#[]⟩, .float .f64 x, .string ⟨#[]⟩, .slice none 0 0, .slice none 0 0, .bool false, .string ⟨#[]⟩, .int .u8 1, .pointer none, .pointer none] := rfl
  rw [← hx] at HIL c0
  have HX : Hid (x = fx (n : Int) 0) := hx
  have HGD : Hid (Good x) := (by show Good x; rw [hx]; exact good_fx (by omega))
  have HTR : Hid (truncOf x = some x) := (by show truncOf x = some x; rw [hx]; exact trunc_fx (by omega))
  have m0 := lt_k l0
  clear hil ht hx
  have HFA : Hid _ := hfa
  clear hfa
  go_enter Tryz.func103, Tryz.ntmps103
  go_wp2_with (first | (go_at_call 110; refine (len_any _ _ _ _ _ (HIL.out.keep (by go_grown))).mono ?_; rintro e w2 ⟨rfl, rfl⟩) | (go_at_call 112; refine (front_any _ _ _ _ _ _ _ (HIL.out.keep (by go_grown))).mono ?_; rintro e w2 ⟨rfl, rfl⟩))
  refine (toNum_num x HGD.out _).mono ?_
  rintro e w1 ⟨rfl, hb1⟩
  have HR1 : Hid (Blk w1 w.heap.size 84 [.string ⟨#[]⟩, .float .f64 0, .string ⟨#[]⟩, .slice none 0 0, .slice none 0 0, .bool false, .string ⟨#[]⟩, .int .u8 0, .pointer none, .pointer none]) := (Blk.new w 84 [.string ⟨#[]⟩, .float .f64 0, .string ⟨#[]⟩, .slice none 0 0, .slice none 0 0, .bool false, .string ⟨#[]⟩, .int .u8 0, .pointer none, .pointer none]).below hb1 (by simp)
  have HB1 : Hid (Below w.heap.size w w1) := Below.trans (by go_grown) (hb1.mono (by simp))
  clear hb1
  have ht := HT.out.below HB1.out
  obtain ⟨b1, o1, k1, b2, o2, k2, t1, s1, t2, s2, s3, k3, tk⟩ := ht
  have HTK : Hid (∀ k, k < 13 → w1.cell? ⟨b2, o2 + k * 2, none⟩ = some (.float .f64 (fx (romVal k) 0)) ∧ w1.cell? ⟨b2, o2 + k * 2 + 1, none⟩ = some (.string ⟨(romSign k).toArray⟩)) := tk
  clear tk
  go_wp2_with (first
    | (refine store_row rfl 84 (.tmp 6) (.tmp 27) rfl w1.heap.size 84 [.string ⟨#[]⟩, .float .f64 0, .string ⟨#[]⟩, .slice none 0 0, .slice none 0 0, .bool false, .string ⟨#[]⟩, .int .u8 0, .pointer none, .pointer none] (Res.num x).cells rfl rfl (Blk.new w1 84 [.string ⟨#[]⟩, .float .f64 0, .string ⟨#[]⟩, .slice none 0 0, .slice none 0 0, .bool false, .string ⟨#[]⟩, .int .u8 0, .pointer none, .pointer none]) (by rw [Res.len]; exact size84) (by rw [Res.len]; rfl) (Res.one _) w1.heap.size (Nat.le_refl _) ?_; intro w2 hr2 hb2 hp2; have HR2 : Hid (Blk w2 w.heap.size 84 [.string ⟨#[]⟩, .float .f64 0, .string ⟨#[]⟩, .slice none 0 0, .slice none 0 0, .bool false, .string ⟨#[]⟩, .int .u8 0, .pointer none, .pointer none]) := hp2.blk (HR1.out.alloc _) (by have := HR1.out.lt; omega); have HW2 : Hid (Below w1.heap.size w1 w2) := ((Below.refl _ _).alloc (Nat.le_refl _) _).trans hb2; have d7 := hr2.get 7 rfl; have d1 := hr2.get 1 rfl; have u1 : w2.cell? ⟨0, 0, none⟩ = _ := (HW2.out.cell (p := ⟨0, 0, none⟩) s1).trans t1; have u2 : w2.cell? ⟨b1, o1, none⟩ = _ := (HW2.out.cell (p := ⟨b1, o1, none⟩) s2).trans t2; clear hr2 hb2 hp2 HR1 t1 t2)
    | (go_at_call 110; refine (len_any _ _ _ _ _ (HIL.out.keep (HB1.out.trans (HW2.out.mono HB1.out.size)))).mono ?_; rintro e w3 ⟨rfl, rfl⟩)
    | (go_at_call 126; refine (trunc_any HTR.out _).mono ?_; rintro e w3 ⟨rfl, rfl⟩))
  have hbf := Lib.fresh_isBuffer 128 5 w2
  go_loopw [9, 83] (fun v i wr => ∃ k : Nat, k ≤ 13 ∧ i = .int .i64 k ∧ v = .float .f64 (fx (romLeft n k : Nat) 0) ∧ Lib.IsBuffer 128 5 w2.heap.size w2.heap.size (Lib.byteCells (romText n k)) wr ∧ Below w2.heap.size w2 wr) (fun _ i _ => 13 - (intOf i).toNat)
  case atStart => exact ⟨0, by omega, rfl, by rw [HX.out]; rfl, hbf, (Below.refl _ _).alloc (Nat.le_refl _) _⟩
  case round =>
    obtain ⟨k, hk, rfl, rfl, hbuf, hbw⟩ := hrel
    have HBW : Hid (Below w2.heap.size w2 wr) := hbw
    have HBF : Hid (Lib.IsBuffer 128 5 w2.heap.size w2.heap.size (Lib.byteCells (romText n k)) wr) := hbuf
    clear hbw hbuf hbf
    by_cases hlt : k < 13
    · have s4 : b2 < w2.heap.size := Nat.lt_of_lt_of_le s3 HW2.out.size
      have e1 : wr.cell? ⟨b2, o2 + k * 2, none⟩ = _ := (HBW.out.cell (p := ⟨b2, o2 + k * 2, none⟩) s4).trans ((HW2.out.cell (p := ⟨b2, o2 + k * 2, none⟩) s3).trans (HTK.out k hlt).1)
      have e2 : wr.cell? ⟨b2, o2 + k * 2 + 1, none⟩ = _ := (HBW.out.cell (p := ⟨b2, o2 + k * 2 + 1, none⟩) s4).trans ((HW2.out.cell (p := ⟨b2, o2 + k * 2 + 1, none⟩) s3).trans (HTK.out k hlt).2)
      have hp := romVal_pos k
      have hv4 : romVal k ≤ 4000 := romVal_le k
      have hm := romLeft_le n k
      have HN : Hid (romLeft n (k + 1) = romLeft n k % romVal k) := (rfl : romLeft n (k + 1) = romLeft n k % romVal k)
      have HT2 : Hid (∀ j, j = romLeft n k / romVal k → romText n (k + 1) = romText n k ++ romTimes j (romSign k)) := fun j hj => by rw [hj]; rfl
      have HZ : Hid (∀ j, j ≤ romLeft n k → (romAt n k j).size ≤ 2 * n) := fun j hj => romAt_size n k j hj
      have hz2 := romSign_len k
      obtain ⟨m, hmm⟩ : ∃ m, m = romLeft n k := ⟨_, rfl⟩
      obtain ⟨v, hvv⟩ : ∃ v, v = romVal k := ⟨_, rfl⟩
      obtain ⟨sg, hsg⟩ : ∃ sg, sg = romSign k := ⟨_, rfl⟩
      have HSG : Hid (sg = romSign k) := hsg
      rw [← hmm] at hm HN HT2 HZ ⊢
      rw [← hvv] at hp hv4 HN e1 HT2
      rw [← hsg] at e2 hz2 HT2
      clear hmm hvv hsg
      have hltz : decide ((k : Int) < 13) = true := (by rw [decide_eq_true_eq]; omega)
      go_wp2
      refine abs_wp (fun w' => Blk w' wr.heap.size 130 [.float .f64 (fx (v : Int) 0), .string ⟨sg.toArray⟩] ∧ Lib.IsBuffer 128 5 w2.heap.size w2.heap.size (Lib.byteCells (romText n k)) w' ∧ Below w2.heap.size w2 w') ⟨Blk.new wr 130 [.float .f64 (fx (v : Int) 0), .string ⟨sg.toArray⟩], buf_keep HBF.out ((Below.refl _ _).alloc (Nat.le_refl _) _), HBW.out.alloc HBW.out.size _⟩ ?_
      rintro w3 ⟨hr3, hbf3, hbw3⟩
      have hne : wr.heap.size ≠ w2.heap.size := (by have := HBF.out.lt; omega)
      clear e1 e2 HBW HBF
      generalize wr.heap.size = g at hr3 hne ⊢
      go_loopw [9] (fun x wi => ∃ j r : Nat, m = j * v + r ∧ x = .float .f64 (fx (r : Int) 0) ∧ Blk wi g 130 [.float .f64 (fx (v : Int) 0), .string ⟨sg.toArray⟩] ∧ Lib.IsBuffer 128 5 w2.heap.size w2.heap.size (Lib.byteCells (romText n k ++ romTimes j sg)) wi ∧ Below w2.heap.size w2 wi) (fun x _ => floatBit x)
      case atStart => exact ⟨0, m, by omega, rfl, hr3, by simpa [romTimes] using hbf3, hbw3⟩
      case round =>
        obtain ⟨j, r, hj, rfl, hri, hbi, hwi⟩ := hrel
        have HBI : Hid (Lib.IsBuffer 128 5 w2.heap.size w2.heap.size (Lib.byteCells (romText n k ++ romTimes j sg)) wr) := hbi
        have HWI : Hid (Below w2.heap.size w2 wr) := hwi
        have HRI : Hid (Blk wr g 130 [.float .f64 (fx (v : Int) 0), .string ⟨sg.toArray⟩]) := hri
        have f0 := hri.get 0 rfl
        have f1 := hri.get 1 rfl
        have hjm : j ≤ m := (by have := Nat.le_mul_of_pos_right j hp; omega)
        have hz1 := HZ.out j hjm
        have hr : r ≤ 4000 := (by omega)
        have HJ : Hid (m = j * v + r) := hj
        clear hj hri hbi hwi hr3 hbf3 hbw3
        by_cases hvr : v ≤ r
        · have hlen : Hid ((Lib.byteCells (romText n k ++ romTimes j sg)).length + (⟨sg.toArray⟩ : ByteArray).size ≤ 140737488355328) := (by
            show (Lib.byteCells (romText n k ++ romTimes j sg)).length + sg.toArray.size ≤ 140737488355328
            rw [Lib.byteCells_length, List.size_toArray]
            have hza : (romText n k ++ romTimes j (romSign k)).toArray.size ≤ 2 * n := hz1
            rw [← HSG.out, List.size_toArray] at hza
            omega)
          have HSB : Hid (floatBits .sub .f64 (fx r 0) (fx v 0) = some (fx ((r - v : Nat) : Int) 0)) := fx_sub hvr hr
          have hsub : ∀ w', (binOp .sub 34 (.float .f64 (fx r 0)) (.float .f64 (fx v 0))).run Tryz.prog w' = .ok (.float .f64 (fx ((r - v : Nat) : Int) 0)) w' := fun w' => run_float_arith w' .sub 34 .f64 _ _ _ HSB.out
          rcases fx_ge hr hv4 hvr with ho | ho
          all_goals
            go_wp2_with fail
            refine (Tryz.Buffer_WriteString_kept w2.heap.size w2.heap.size _ ⟨sg.toArray⟩ wr HBI.out HWI.out.size (bytes_one _) hlen.out).mono ?_
            rintro e w4 ⟨rfl, hb4, hw4, hk4⟩
            have hri := hk4 g _ HRI.out (by simpa using hne) (by intro c fz e; cases e)
            have hri : Blk w4 g 130 [.float .f64 (fx (v : Int) 0), .string ⟨sg.toArray⟩] := hri
            have f0 := hri.get 0 rfl
            have HB4 : Hid _ := hb4
            have HW4 : Hid (Below w2.heap.size w2 w4) := HWI.out.trans hw4
            have HR4 : Hid _ := hri
            clear hb4 hw4 hk4 hri
            go_wp2_with fail
            have HSL : Hid (r - v < r) := (show r - v < r by omega)
            have HBN : Hid (Lib.IsBuffer 128 5 w2.heap.size w2.heap.size (Lib.byteCells (romText n k ++ romTimes (j + 1) sg)) w4) := (by have hbb := HB4.out; rw [← byteCells_app] at hbb; show Lib.IsBuffer 128 5 w2.heap.size w2.heap.size (Lib.byteCells (romText n k ++ romTimes (j + 1) sg)) w4; rw [romTimes_succ, ← List.append_assoc]; exact hbb)
            refine ⟨⟨j + 1, r - v, by have := HJ.out; rw [Nat.succ_mul]; omega, rfl, HR4.out, HBN.out, HW4.out⟩, fx_lt HSL.out hr⟩
        · have ho := fx_less hr hv4 (by omega)
          have hq := mod_of HJ.out (by omega)
          have HQ1 : Hid (m % v = r) := hq.1
          have HQ2 : Hid (m / v = j) := hq.2
          clear hq
          go_wp2_with fail
          go_roundw
          case rel => exact ⟨k + 1, by omega, by go_num, by rw [HN.out, HQ1.out], by rw [HT2.out j HQ2.out.symm]; exact HBI.out, HWI.out⟩
          case measure => simp [intOf]; omega
    · have HK : Hid (k = 13) := (show k = 13 by omega)
      have hge : ¬ ((k : Int) < 13) := by omega
      go_wp2_with fail
      refine (Tryz.Buffer_String w2.heap.size w2.heap.size (romText n k) wr HBF.out).mono ?_
      rintro e w4 ⟨rfl, nq, rfl⟩
      go_wp2_with fail
      refine (newString_any _ _).mono ?_
      rintro e w5 ⟨rfl, hb5⟩
      have HB4 : Hid (Below w.heap.size w wr) := HB1.out.trans ((HW2.out.trans (HBW.out.mono HW2.out.size)).mono HB1.out.size)
      have HB5 : Hid (Below w.heap.size w w5) := (below_drewN' HB4.out nq).trans (hb5.mono HB4.out.size)
      have HR5 : Hid (Blk w5 w.heap.size 84 [.string ⟨#[]⟩, .float .f64 0, .string ⟨#[]⟩, .slice none 0 0, .slice none 0 0, .bool false, .string ⟨#[]⟩, .int .u8 0, .pointer none, .pointer none]) := ((HR2.out.below HBW.out HR2.out.lt).drewN nq).below hb5 (HR2.out.below HBW.out HR2.out.lt).lt
      clear hb5
      go_wp2_with (refine store_res rfl (.tmp 4) (.tmp 100) rfl w.heap.size [.string ⟨#[]⟩, .float .f64 0, .string ⟨#[]⟩, .slice none 0 0, .slice none 0 0, .bool false, .string ⟨#[]⟩, .int .u8 0, .pointer none, .pointer none] (.text ⟨(romText n k).toArray⟩) rfl rfl HR5.out rfl w.heap.size (Nat.le_refl _) ?_; intro w6 hr6 hb6)
      exact bodyPost_ret (ret_res rfl _ _ w.heap.size (.text ⟨(romText n k).toArray⟩) rfl hr6) rfl ⟨_, rfl, by rw [HK.out]; rfl, HB5.out.trans hb6⟩
end Go.Proofs.YtoebgbojpkflnaaGreatDoor
