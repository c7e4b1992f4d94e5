/- ARABIC of a Roman numeral. Conditions: one text of 1 to 15 letters out of I, V, X, L, C, D, M. -/
import Derived.Test.YtoebgbojpkflnaaGreatDoorDoor
import Derived.Test.YtoebgbojpkflnaaGreatDoorCase
import Derived.Test.YtoebgbojpkflnaaGreatDoorNumeral
import Derived.Test.YtoebgbojpkflnaaGreatDoorMapw
import Derived.Carry
import Derived.Deep.RegionWith
namespace Go.Proofs.YtoebgbojpkflnaaGreatDoor
open Go Go.RowKit

/-- A text of 1 to 15 letters of Roman numerals. -/
def RomanS (s : ByteArray) : Prop := s.data.toList.all isRoman = true ∧ 1 ≤ s.size ∧ s.size ≤ 15
theorem RomanS.at_ {s : ByteArray} (h : RomanS s) (i : Nat) (hi : i < s.size) : isRoman (s[i]'hi) = true := by
  have := List.all_eq_true.1 h.1 (s[i]'hi) (by
    show s.data[i]'hi ∈ s.data.toList
    simp)
  exact this
theorem isRoman_facts (b : UInt8) (h : isRoman b = true) : 65 ≤ b.toNat ∧ b.toNat ≤ 90 ∧ Lib.upperB b = b ∧ 1 ≤ arabVal b ∧ arabVal b ≤ 1000 := by
  have h0 : ∀ n : Fin 256, (fun b : UInt8 => (isRoman b = true → 65 ≤ b.toNat ∧ b.toNat ≤ 90 ∧ Lib.upperB b = b ∧ 1 ≤ arabVal b ∧ arabVal b ≤ 1000)) (UInt8.ofNat n.val) := by decide +kernel
  have hb := h0 ⟨b.toNat, b.toNat_lt⟩
  simp at hb
  simpa using hb h
theorem RomanS.ascii {s : ByteArray} (h : RomanS s) : AsciiS s := fun i hi => by have := (isRoman_facts _ (h.at_ i hi)).2.1; omega
theorem RomanS.up {s : ByteArray} (h : RomanS s) : upS s = s := by
  unfold upS Lib.toUpperA
  have : s.data.toList.map Lib.upperB = s.data.toList := by
    conv => rhs; rw [← List.map_id s.data.toList]
    exact List.map_congr_left fun b hb => (isRoman_facts b (List.all_eq_true.1 h.1 b hb)).2.2.1
  rw [this]

/-- The table of the letters, as it is filled. -/
abbrev romTab : List (Int × Int) := [(73, 1), (86, 5), (88, 10), (76, 50), (67, 100), (68, 500), (77, 1000)]
theorem roman_look (b : UInt8) (h : isRoman b = true) : ∃ j, findIn (b.toNat : Int) romTab 0 = some (j, arabVal b) := by
  have h0 : ∀ n : Fin 256, (fun b : UInt8 => (isRoman b = true → (findIn (b.toNat : Int) romTab 0).map (·.2) = some (arabVal b))) (UInt8.ofNat n.val) := by decide +kernel
  have hb := h0 ⟨b.toNat, b.toNat_lt⟩
  simp at hb
  obtain ⟨j, h⟩ := hb h
  exact ⟨j, h⟩
theorem or_ne (b c : UInt8) (h : isRoman b = true) : (bits .or .u8 (c.toNat : Int) 32 == (b.toNat : Int)) = false := by
  have h1 : ∀ n : Fin 256, 32 ≤ (bits .or .u8 (n.val : Int) 32) % 64 := by decide +kernel
  have h2 : ∀ n : Fin 256, (fun b : UInt8 => (isRoman b = true → (b.toNat : Int) % 64 < 32)) (UInt8.ofNat n.val) := by decide +kernel
  have a := h1 ⟨c.toNat, c.toNat_lt⟩
  have d := h2 ⟨b.toNat, b.toNat_lt⟩
  simp at a d
  have d := d h
  rw [beq_eq_false_iff_ne]
  intro e
  rw [e] at a
  omega
theorem rev_at {s : ByteArray} (i k : Nat) (hi : i < s.size) (h : k + (i + 1) = s.size) : s.data.toList.reverse[k]? = some (s[i]'hi) := by
  have hl : s.data.toList.length = s.size := by simp
  rw [List.getElem?_reverse (by omega), hl, show s.size - 1 - k = i by omega]
  show s.data.toList[i]? = some (s.data[i]'hi)
  rw [Array.getElem?_toList, Array.getElem?_eq_getElem]
theorem arab_up {s : ByteArray} {k i : Nat} {n u q : Int} (hi : i < s.size) (hk : k + (i + 1) = s.size) (h : arabTo s.data.toList k = (n, u, q)) (hq : q ≤ arabVal (s[i]'hi)) :
    arabTo s.data.toList (k + 1) = (n + (arabVal (s[i]'hi) - u), 0, arabVal (s[i]'hi)) := by
  rw [arabTo_succ _ _ _ (rev_at i k hi hk), h]
  exact if_pos hq
theorem arab_down {s : ByteArray} {k i : Nat} {n u q : Int} (hi : i < s.size) (hk : k + (i + 1) = s.size) (h : arabTo s.data.toList k = (n, u, q)) (hq : arabVal (s[i]'hi) < q) :
    arabTo s.data.toList (k + 1) = (n, u + arabVal (s[i]'hi), q) := by
  rw [arabTo_succ _ _ _ (rev_at i k hi hk), h]
  exact if_neg (by simp only; omega)
theorem arab_end {s : ByteArray} {k m p : Nat} {n u q : Int} (hs : s.size = p + 1) (hk : k + m = p + 1) (hm : m = 0) (h : arabTo s.data.toList k = (n, u, q)) : arabRes s.data.toList = n - u := by
  have hl : s.data.toList.length = s.size := by simp
  unfold arabRes
  rw [hl, hs, ← hk, hm, Nat.add_zero, h]
theorem one_part (i : Int) (v : Int) : (i + 1 - i) * v = v := by rw [show i + 1 - i = 1 by omega, Int.one_mul]
theorem ret_intv {a b : Int} (h : a = b) : Value.int .i64 a = .int .i64 b := by rw [h]

theorem arab_bounds (l : List UInt8) (hl : l.all isRoman = true) : ∀ k, 0 ≤ (arabTo l k).2.1 ∧ -1000 * (k : Int) ≤ (arabTo l k).1 - (arabTo l k).2.1 ∧ (arabTo l k).1 + (arabTo l k).2.1 ≤ 1000 * (k : Int) ∧ -1 ≤ (arabTo l k).2.2 ∧ (arabTo l k).2.2 ≤ 1000
  | 0 => by simp [arabTo]
  | k + 1 => by
    have ih := arab_bounds l hl k
    cases hb : l.reverse[k]? with
    | none =>
      have hk := List.getElem?_eq_none_iff.1 hb
      have : arabTo l (k + 1) = arabTo l k := by
        unfold arabTo
        rw [List.take_of_length_le (by omega), List.take_of_length_le hk]
      rw [this]
      omega
    | some b =>
      rw [arabTo_succ l k b hb]
      have hm : b ∈ l := by simpa using List.mem_of_getElem? hb
      have hf := isRoman_facts b (List.all_eq_true.1 hl b hm)
      unfold arabStep
      split
      · simp only
        omega
      · simp only
        omega
set_option maxRecDepth 20000 in
set_option maxHeartbeats 1000000 in
theorem arabic_1 (s : ByteArray) (h : RomanS s) (F : Value) (B L b0 : Nat) (w : World) (hil : IsList B w L [b0] [.iface 84 (Atom.text s).fa]) :
    Calls Tryz.prog 102 #[F, .pointer (some ⟨L, 0, none⟩)] w (Gives (fun r => r = .num (fx (arabRes s.data.toList) 0)) w) := by
  have HIL : Hid (IsList B w L [b0] [.iface 84 (Atom.text s).fa]) := hil
  obtain ⟨c0, l0⟩ := hil.at3 0 rfl rfl
  unfold Atom.fa at c0
  have m0 := lt_k l0
  have HS : Hid (RomanS s) := h
  have z1 := h.2.1
  have z2 := h.2.2
  have HU : Hid (upS s = s) := h.up
  clear hil h
  have hmm := @run_makeMap Tryz.prog
  go_enter Tryz.func102, Tryz.ntmps102
  go_wp2_with (first | (go_at_call 110; refine (len_any _ _ _ _ _ (HIL.out.keep (by go_grown))).mono ?_; rintro e w2 ⟨rfl, rfl⟩) | (go_at_call 112; refine (front_any _ _ _ _ _ _ _ (HIL.out.keep (by go_grown))).mono ?_; rintro e w2 ⟨rfl, rfl⟩) | (go_at_call 116; go_in))
  refine (count_ascii s (by omega) HS.out.ascii _).mono ?_
  rintro e w2 ⟨rfl, hb2⟩
  have HR2 : Hid (Blk w2 w.heap.size 84 [.string ⟨#[]⟩, .float .f64 0, .string ⟨#[]⟩, .slice none 0 0, .slice none 0 0, .bool false, .string ⟨#[]⟩, .int .u8 0, .pointer none, .pointer none]) := ((Blk.new w 84 [.string ⟨#[]⟩, .float .f64 0, .string ⟨#[]⟩, .slice none 0 0, .slice none 0 0, .bool false, .string ⟨#[]⟩, .int .u8 0, .pointer none, .pointer none]).alloc _).below hb2 (by simp; omega)
  have HB2 : Hid (Below w.heap.size w w2) := Below.trans (by go_grown) (hb2.mono (by simp; omega))
  clear hb2
  go_wp2_with fail
  refine (upper_any s (by omega) HS.out.ascii _).mono ?_
  rintro e w3 ⟨rfl, hb3⟩
  rw [HU.out]
  have HR3 : Hid (Blk w3 w.heap.size 84 [.string ⟨#[]⟩, .float .f64 0, .string ⟨#[]⟩, .slice none 0 0, .slice none 0 0, .bool false, .string ⟨#[]⟩, .int .u8 0, .pointer none, .pointer none]) := HR2.out.below hb3 HR2.out.lt
  have HB3 : Hid (Below w.heap.size w w3) := HB2.out.trans (hb3.mono HB2.out.size)
  clear hb3 HR2 HB2
  go_wp2_with fail
  obtain ⟨p, hp⟩ : ∃ p : Nat, s.size = p + 1 := ⟨s.size - 1, by omega⟩
  have hps : p < s.size := (by omega)
  have h0s : 0 < s.size := (by omega)
  rw [show ((s.size : Int) - 1) = (p : Int) by omega]
  have HP : Hid (s.size = p + 1) := hp
  clear hp
  have hb1 := isRoman_facts _ (HS.out.at_ p hps)
  have hb0 := isRoman_facts _ (HS.out.at_ 0 h0s)
  have e1 : ((s[p].toNat : Int) == 32) = false := (by rw [beq_eq_false_iff_ne]; omega)
  have e2 : ((s[0].toNat : Int) == 32) = false := (by rw [beq_eq_false_iff_ne]; omega)
  have e3 : ((s[0].toNat : Int) == 45) = false := (by rw [beq_eq_false_iff_ne]; omega)
  clear hb1 hb0
  go_loop [8] (fun i => i = .int .i64 p) (fun _ => 0)
  case atStart => rfl
  case round =>
    obtain rfl := hrel
    go_wp2
    go_loop [7] (fun i => i = .int .i64 0) (fun _ => 0)
    case atStart => rfl
    case round =>
      obtain rfl := hrel
      have HF : Filling w3.heap.size w3 (w3.alloc (.map #[] 0)) w3.heap.size [] := ⟨IsMap.made w3, (Below.refl _ _).alloc (Nat.le_refl _) _, Nat.le_refl _⟩
      go_wp2_with (refine insert_next rfl (.tmp 69) _ _ rfl w3.heap.size _ _ _ rfl rfl rfl w3.heap.size w3 HF (by decide) ?_; intro w4 HF2; clear HF; have HF := HF2; clear HF2)
      have HM : Hid (IsMap w4 w3.heap.size romTab) := HF.1
      have HB4 : Hid (Below w.heap.size w w4) := HB3.out.trans (HF.2.1.mono HB3.out.size)
      have HR4 : Hid (Blk w4 w.heap.size 84 [.string ⟨#[]⟩, .float .f64 0, .string ⟨#[]⟩, .slice none 0 0, .slice none 0 0, .bool false, .string ⟨#[]⟩, .int .u8 0, .pointer none, .pointer none]) := HR3.out.below HF.2.1 HR3.out.lt
      clear HF HB3 HR3 e1 e2 e3 c0 m0 l0
      generalize w3.heap.size = g at HM ⊢
      go_loop [6, 8, 11, 14] (fun nu ix su pr => ∃ (k m : Nat) (idx n u q : Int), k + m = p + 1 ∧ idx = (m : Int) - 1 ∧ arabTo s.data.toList k = (n, u, q) ∧ nu = .int .i64 n ∧ ix = .int .i64 idx ∧ su = .int .i64 u ∧ pr = .int .i64 q) (fun _ ix _ _ => (intOf ix + 1).toNat)
      case atStart => exact ⟨0, p + 1, p, 0, 0, -1, by omega, by omega, rfl, rfl, rfl, rfl, rfl⟩
      case round =>
        obtain ⟨k, m, idx, n, u, q, hkm, hidx, hat, rfl, rfl, rfl, rfl⟩ := hrel
        have bd := arab_bounds s.data.toList HS.out.1 k
        rw [hat] at bd
        obtain ⟨bd1, bd2, bd3, bd4, bd5⟩ := bd
        simp only at bd1 bd2 bd3 bd4 bd5
        have HAT : Hid (arabTo s.data.toList k = (n, u, q)) := hat
        clear hat
        by_cases hm : m = 0
        · have HE : Hid (arabRes s.data.toList = n - u) := arab_end HP.out hkm hm HAT.out
          have hlt : idx < 0 := (by omega)
          have hk15 : k ≤ 15 := (by omega)
          have ci := conv_int (n - u)
          generalize hbb : fx (n - u) 0 = b at ci
          have HBB : Hid (b = fx (n - u) 0) := hbb.symm
          have HGD : Hid (Good b) := (by show Good b; rw [← hbb]; exact good_fx (by omega))
          have HRS : Hid ((Res.num b) = .num (fx (arabRes s.data.toList) 0)) := (by show Res.num b = _; rw [HE.out, hbb])
          clear hbb hm hidx hkm
          by_cases hu : u = 0
          · subst hu
            simp only [Int.sub_zero] at ci
            go_wp2_with fail
            refine (newNum_any b _ HGD.out).mono ?_
            rintro e w5 ⟨rfl, hb5⟩
            have HR5 : Hid (Blk w5 w.heap.size 84 [.string ⟨#[]⟩, .float .f64 0, .string ⟨#[]⟩, .slice none 0 0, .slice none 0 0, .bool false, .string ⟨#[]⟩, .int .u8 0, .pointer none, .pointer none]) := HR4.out.below hb5 HR4.out.lt
            have HB5 : Hid (Below w.heap.size w w5) := HB4.out.trans (hb5.mono HB4.out.size)
            clear hb5
            go_wp2_with (refine store_res rfl (.tmp 4) (.tmp 124) rfl w.heap.size [.string ⟨#[]⟩, .float .f64 0, .string ⟨#[]⟩, .slice none 0 0, .slice none 0 0, .bool false, .string ⟨#[]⟩, .int .u8 0, .pointer none, .pointer none] (.num b) rfl rfl HR5.out rfl w.heap.size (Nat.le_refl _) ?_; intro w6 hr6 hb6)
            exact bodyPost_ret (ret_res rfl _ _ w.heap.size (.num b) rfl hr6) rfl ⟨_, rfl, HRS.out, HB5.out.trans hb6⟩
          · have hne : (u != 0) = true := (by rw [bne_iff_ne]; exact hu)
            clear hu
            go_wp2_with fail
            refine (newNum_any b _ HGD.out).mono ?_
            rintro e w5 ⟨rfl, hb5⟩
            have HR5 : Hid (Blk w5 w.heap.size 84 [.string ⟨#[]⟩, .float .f64 0, .string ⟨#[]⟩, .slice none 0 0, .slice none 0 0, .bool false, .string ⟨#[]⟩, .int .u8 0, .pointer none, .pointer none]) := HR4.out.below hb5 HR4.out.lt
            have HB5 : Hid (Below w.heap.size w w5) := HB4.out.trans (hb5.mono HB4.out.size)
            clear hb5
            go_wp2_with (refine store_res rfl (.tmp 4) (.tmp 124) rfl w.heap.size [.string ⟨#[]⟩, .float .f64 0, .string ⟨#[]⟩, .slice none 0 0, .slice none 0 0, .bool false, .string ⟨#[]⟩, .int .u8 0, .pointer none, .pointer none] (.num b) rfl rfl HR5.out rfl w.heap.size (Nat.le_refl _) ?_; intro w6 hr6 hb6)
            exact bodyPost_ret (ret_res rfl _ _ w.heap.size (.num b) rfl hr6) rfl ⟨_, rfl, HRS.out, HB5.out.trans hb6⟩
        · obtain ⟨i, hi⟩ : ∃ i : Nat, m = i + 1 := ⟨m - 1, by omega⟩
          obtain rfl : idx = (i : Int) := by omega
          have his : i < s.size := (by omega)
          have HI : Hid (k + m = p + 1 ∧ m = i + 1) := ⟨hkm, hi⟩
          have hk15 : k ≤ 15 := (by omega)
          clear hkm hi hidx hm
          obtain ⟨j, hj⟩ := roman_look _ (HS.out.at_ i his)
          have hlk := run_look HM.out _ j _ hj
          have hbf := isRoman_facts _ (HS.out.at_ i his)
          obtain ⟨f1, f2, f3, f4, f5⟩ := hbf
          clear hj f3
          by_cases hi0 : i = 0
          · subst hi0
            go_wp2
            go_loop [8] (fun ix => ix = .int .i64 (-1)) (fun _ => 0)
            case atStart => rfl
            case round =>
              obtain rfl := hrel
              go_wp2
              · refine ⟨⟨k + 1, 0, _, _, _, _, by have := HI.out; omega, by omega, arab_up his (by have := HI.out; rw [HP.out]; omega) HAT.out (by assumption), rfl, rfl, rfl, rfl⟩, by simp [intOf]⟩
              · refine ⟨⟨k + 1, 0, _, _, _, _, by have := HI.out; omega, by omega, arab_down his (by have := HI.out; rw [HP.out]; omega) HAT.out (by assumption), rfl, rfl, rfl, rfl⟩, by simp [intOf]⟩
          · obtain ⟨i', rfl⟩ : ∃ i' : Nat, i = i' + 1 := ⟨i - 1, by omega⟩
            have his' : i' < s.size := (by omega)
            have hor := or_ne _ (s[i']) (HS.out.at_ (i' + 1) his)
            clear hi0
            go_wp2
            go_loop [8] (fun ix => ix = .int .i64 i') (fun _ => 0)
            case atStart => rfl
            case round =>
              obtain rfl := hrel
              go_wp2
              · refine ⟨⟨k + 1, i' + 1, _, _, _, _, by have := HI.out; omega, by omega, arab_up his (by have := HI.out; rw [HP.out]; omega) HAT.out (by assumption), ret_intv (by rw [one_part]), rfl, rfl, rfl⟩, by simp [intOf]; try omega⟩
              · refine ⟨⟨k + 1, i' + 1, _, _, _, _, by have := HI.out; omega, by omega, arab_down his (by have := HI.out; rw [HP.out]; omega) HAT.out (by assumption), rfl, rfl, ret_intv (by rw [one_part]), rfl⟩, by simp [intOf]; try omega⟩
end Go.Proofs.YtoebgbojpkflnaaGreatDoor
