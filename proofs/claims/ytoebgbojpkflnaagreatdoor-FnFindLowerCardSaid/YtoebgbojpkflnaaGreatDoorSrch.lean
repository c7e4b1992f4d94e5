/- The closure behind SEARCH. -/
import Derived.Test.YtoebgbojpkflnaaGreatDoorCase
import Derived.Test.YtoebgbojpkflnaaGreatDoorFind
import Derived.Deep.RegionHeld3
namespace Go.Proofs.YtoebgbojpkflnaaGreatDoor
open Go Go.RowKit

theorem abs_then {K : Act → World → Prop} {Q : Exit → Act → World → Prop} {a : Act} {W : World} (F : World → Prop) (hF : F W) (h : ∀ w', F w' → Exit.then K Q .normal a w') : Exit.then K Q .normal a W := h W hF
def FoundS (s sub : ByteArray) (a B : Nat) (w : World) (e : Ending) (w' : World) : Prop := ∃ k : Nat, e = .returned (foundRes s k).fa ∧ First (upS s) (upS sub) a k ∧ Below B w w'

set_option maxRecDepth 20000 in
set_option maxHeartbeats 1000000 in
theorem find1_search (s sub : ByteArray) (a : Nat) (hs : s.size ≤ 1000) (hb : sub.size ≤ 1000) (ha : AsciiS s) (hab : AsciiS sub) (hw : NoWild sub) (hal : a ≤ 1000000) (hne : sub.toList.isEmpty = false) (b10 b12 b9 b11 B : Nat) (w : World)
    (h10 : Blk w b10 3 [.int .i64 (a + 1)]) (h12 : Blk w b12 4 [.bool true]) (h9 : Blk w b9 9 [.string s]) (h11 : Blk w b11 4 [.bool false]) (hB : B ≤ b9) (d1 : b9 ≠ b10) (d2 : b9 ≠ b11) :
    Calls Tryz.prog 163 #[.string sub, .pointer (some ⟨b10, 0, none⟩), .pointer (some ⟨b12, 0, none⟩), .pointer (some ⟨b9, 0, none⟩), .pointer (some ⟨b11, 0, none⟩)] w (FoundS s sub a B w) := by
  have H9 : Hid (Blk w b9 9 [.string s]) := h9
  have H10 : Hid (Blk w b10 3 [.int .i64 (a + 1)]) := h10
  have H11 : Hid (Blk w b11 4 [.bool false]) := h11
  have HBB : Hid (B ≤ b9 ∧ b9 ≠ b10 ∧ b9 ≠ b11) := ⟨hB, d1, d2⟩
  have c10 := h10.get 0 rfl
  have c12 := h12.get 0 rfl
  have c9 := h9.get 0 rfl
  have c11 := h11.get 0 rfl
  have l10 := h10.lt
  have l12 := h12.lt
  have l9 := h9.lt
  have l11 := h11.lt
  clear h10 h12 h9 h11 hB d1 d2
  go_enter Tryz.func163, Tryz.ntmps163
  go_wp2_with fail
  refine abs_wp (fun w' => Blk w' w.heap.size 84 [.string ⟨#[]⟩, .float .f64 0, .string ⟨#[]⟩, .slice none 0 0, .slice none 0 0, .bool false, .string ⟨#[]⟩, .int .u8 0, .pointer none, .pointer none] ∧ Blk w' b10 3 [.int .i64 (a + 1)] ∧ Blk w' b9 9 [.string s] ∧ Blk w' b11 4 [.bool false] ∧ Below w.heap.size w w') ⟨Blk.new w 84 [.string ⟨#[]⟩, .float .f64 0, .string ⟨#[]⟩, .slice none 0 0, .slice none 0 0, .bool false, .string ⟨#[]⟩, .int .u8 0, .pointer none, .pointer none], H10.out.alloc _, H9.out.alloc _, H11.out.alloc _, by go_grown⟩ ?_
  rintro w1 ⟨hr, h10, h9, h11, hb1⟩
  have HR1 : Hid (Blk w1 w.heap.size 84 [.string ⟨#[]⟩, .float .f64 0, .string ⟨#[]⟩, .slice none 0 0, .slice none 0 0, .bool false, .string ⟨#[]⟩, .int .u8 0, .pointer none, .pointer none]) := hr
  have H101 : Hid (Blk w1 b10 3 [.int .i64 (a + 1)]) := h10
  have H91 : Hid (Blk w1 b9 9 [.string s]) := h9
  have H111 : Hid (Blk w1 b11 4 [.bool false]) := h11
  have HB1 : Hid (Below w.heap.size w w1) := hb1
  have HL : Hid (b10 < w.heap.size ∧ b9 < w.heap.size ∧ b11 < w.heap.size) := ⟨l10, l9, l11⟩
  have c9' := h9.get 0 rfl
  have l9' := h9.lt
  clear hr h10 h9 h11 hb1 H9 H10 H11 c10 c12 c9 c11 l10 l12 l9 l11
  go_region_with (first | (go_at_call_of 128 (sub); refine (upper_any sub hb hab _).mono ?_; rintro e w2 ⟨rfl, hb2⟩; have k2 := (hb2.block b9 l9').trans H91.out; have c92 := (show Blk w2 b9 9 [.string s] from k2).get 0 rfl; have l92 := (show Blk w2 b9 9 [.string s] from k2).lt; have t2 : Below w1.heap.size w1 w2 := Below.trans (by go_grown) hb2) | (go_at_call_of 128 (s); refine (upper_any s hs ha _).mono ?_; rintro e w3 ⟨rfl, hb3⟩; have k3 := (hb3.block b9 l92).trans k2; have c93 := (show Blk w3 b9 9 [.string s] from k3).get 0 rfl; have f93 := (show Blk w3 b9 9 [.string s] from k3).free 0; have t3 : Below w1.heap.size w1 w3 := t2.trans (Below.mono (Below.trans (show Below w2.heap.size w2 _ by go_grown) hb3) t2.size)))
  all_goals
    have g3 : Blk w3 b9 9 [.string s] := k3
    have e10 := (H101.out.below t3 H101.out.lt).other (a := ⟨b9, 0, none⟩) (fun h => HBB.out.2.1 h.symm) (.string (upS s))
    have e11 := (H111.out.below t3 H111.out.lt).other (a := ⟨b9, 0, none⟩) (fun h => HBB.out.2.2 h.symm) (.string (upS s))
    have er := (HR1.out.below t3 HR1.out.lt).other (a := ⟨b9, 0, none⟩) (fun h => absurd HL.out.2.1 (by rw [h]; exact Nat.lt_irrefl _)) (.string (upS s))
    have eb : Below B w (w3.setCell ⟨b9, 0, none⟩ (.string (upS s))) := ((HB1.out.trans (t3.mono HB1.out.size)).mono (by have := HL.out.2.1; have := HBB.out.1; omega)).setCell HBB.out.1 _
    have e9 : Blk (w3.setCell ⟨b9, 0, none⟩ (.string (upS s))) b9 9 [.string (upS s)] := g3.set 0 _
    refine abs_then (fun w' => Blk w' w.heap.size 84 [.string ⟨#[]⟩, .float .f64 0, .string ⟨#[]⟩, .slice none 0 0, .slice none 0 0, .bool false, .string ⟨#[]⟩, .int .u8 0, .pointer none, .pointer none] ∧ Blk w' b10 3 [.int .i64 (a + 1)] ∧ Blk w' b9 9 [.string (upS s)] ∧ Blk w' b11 4 [.bool false] ∧ Below B w w') ⟨er, e10, e9, e11, eb⟩ ?_
    clear er e10 e9 e11 eb g3 k3 k2 c93 f93 t3 t2 hb2 hb3 c92 l92 c9' l9'
    rintro w4 ⟨hr, h10, h9, h11, hb1⟩
    have HR2 : Hid (Blk w4 w.heap.size 84 [.string ⟨#[]⟩, .float .f64 0, .string ⟨#[]⟩, .slice none 0 0, .slice none 0 0, .bool false, .string ⟨#[]⟩, .int .u8 0, .pointer none, .pointer none]) := hr
    have HB2 : Hid (Below B w w4) := hb1
    have c10 := h10.get 0 rfl
    have c9 := h9.get 0 rfl
    have c11 := h11.get 0 rfl
    have HBW : Hid (B ≤ w.heap.size) := (show B ≤ w.heap.size by have := HL.out.2.1; have := HBB.out.1; omega)
    have HSZ : Hid (w.heap.size ≤ w1.heap.size) := HB1.out.size
    have d11 := h11
    have l11 := h11.lt
    clear hr hb1 h10 h9 h11
    clear HR1 H101 H91 H111 HB1 HL HBB
    go_wp2_with fail
    refine (match_any (upS s) (upS sub) a (by rw [upS_size]; exact hs) (by rw [upS_size]; exact hb) (upS_ascii ha) (upS_nowild hw) false hal _).mono ?_
    rintro e w5 ⟨k, rfl, hf, hb5⟩
    have HF : Hid (First (upS s) (upS sub) a k) := hf
    have HR5 : Hid (Blk w5 w.heap.size 84 [.string ⟨#[]⟩, .float .f64 0, .string ⟨#[]⟩, .slice none 0 0, .slice none 0 0, .bool false, .string ⟨#[]⟩, .int .u8 0, .pointer none, .pointer none]) := HR2.out.below hb5 HR2.out.lt
    have d5 := (d11.below hb5 l11).get 0 rfl
    have HB5 : Hid (Below B w w5) := HB2.out.trans (hb5.mono (by have := HB2.out.size; have := HBW.out; omega))
    have hk : k ≤ 1000 := (by have := hf.1; rw [upS_size] at this; omega)
    clear hf hb5 c10 c9 c11 d11 l11
    obtain ⟨r, hrr⟩ : ∃ r, r = w.heap.size := ⟨_, rfl⟩
    rw [← hrr] at HR5 ⊢
    have HRR : Hid (r = w.heap.size) := hrr
    clear hrr
    by_cases hlt : k < s.size
    · have hd : decide (k < (upS s).size) = true := decide_eq_true (by rw [upS_size]; exact hlt)
      have HLT : Hid (k < s.size) := hlt
      obtain ⟨b, hbb⟩ : ∃ b, b = fx (k + 1) 0 := ⟨_, rfl⟩
      have cv : ∀ w', (convert 3 34 (.int .i64 (k + 1))).run Tryz.prog w' = .ok (.float .f64 b) w' := fun w' => by rw [hbb, ← floatOfInt_fx]; exact run_convert_int_float w' 3 34 .i64 .f64 (k + 1) (by rw [Tryz.underlying3]; rfl) Tryz.underlying34
      have hgood : Good b := by rw [hbb]; exact good_fx (by omega)
      have HG : Hid (Good b) := hgood
      have HBB : Hid (b = fx (k + 1) 0) := hbb
      clear hlt hbb hgood
      rw [hd]
      go_wp2_with fail
      refine (newNum_any _ _ HG.out).mono ?_
      rintro e w3 ⟨rfl, hb3⟩
      go_wp2_with (refine store_row rfl 84 (.tmp 6) (.tmp 52) rfl r 84 [.string ⟨#[]⟩, .float .f64 0, .string ⟨#[]⟩, .slice none 0 0, .slice none 0 0, .bool false, .string ⟨#[]⟩, .int .u8 0, .pointer none, .pointer none] _ rfl rfl (HR5.out.below hb3 HR5.out.lt) size84 rfl rfl w.heap.size (by rw [HRR.out]; exact Nat.le_refl _) ?_; intro w6 hr6 hb6 _)
      exact bodyPost_ret (ret_row rfl _ _ r 84 _ _ rfl hr6 Tryz.underlying84 rfl size84) rfl ⟨k, congrArg Ending.returned (found_yes HLT.out HBB.out), HF.out, (HB5.out.trans (hb3.mono (Nat.le_trans HBW.out HB5.out.size))).trans (hb6.mono HBW.out)⟩
    · have hd : decide (k < (upS s).size) = false := decide_eq_false (by rw [upS_size]; exact hlt)
      have HLT : Hid (¬ k < s.size) := hlt
      clear hlt
      rw [hd]
      go_wp2_with fail
      refine (newErr_any _ _ _).mono ?_
      rintro e w3 ⟨rfl, hb3⟩
      go_wp2_with (refine store_row rfl 84 (.tmp 6) (.tmp 32) rfl r 84 [.string ⟨#[]⟩, .float .f64 0, .string ⟨#[]⟩, .slice none 0 0, .slice none 0 0, .bool false, .string ⟨#[]⟩, .int .u8 0, .pointer none, .pointer none] _ rfl rfl (HR5.out.below hb3 HR5.out.lt) size84 rfl rfl w.heap.size (by rw [HRR.out]; exact Nat.le_refl _) ?_; intro w6 hr6 hb6 _)
      exact bodyPost_ret (ret_row rfl _ _ r 84 _ _ rfl hr6 Tryz.underlying84 rfl size84) rfl ⟨k, congrArg Ending.returned (found_no HLT.out), HF.out, (HB5.out.trans (hb3.mono (Nat.le_trans HBW.out HB5.out.size))).trans (hb6.mono HBW.out)⟩

end Go.Proofs.YtoebgbojpkflnaaGreatDoor
