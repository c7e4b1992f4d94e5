/- AVERAGEA, MAXA and MINA of one table; the arguments of a function as a list of tables. -/
import Derived.Test.YtoebgbojpkflnaaGreatDoorTabFun
import Derived.Test.YtoebgbojpkflnaaGreatDoorDiv
namespace Go.Proofs.YtoebgbojpkflnaaGreatDoor
open Go Go.RowKit
/-- A slice of one matrix. -/
def CsRel (w : World) (n s : Nat) (a b i : Value) (wr : World) : Prop := (i = .int .i64 0 ∧ a = .float .f64 0 ∧ b = .float .f64 0 ∧ wr = w) ∨ (i = .int .i64 1 ∧ a = .float .f64 (fx (n : Int) 0) ∧ b = .float .f64 (fx (s : Int) 0) ∧ Below w.heap.size w wr)
theorem add0_run {s : Nat} (hs : s ≤ 10000000) (w' : World) : (binOp .add 34 (.float .f64 0) (.float .f64 (fx (s : Int) 0))).run Tryz.prog w' = .ok (.float .f64 (fx (s : Int) 0)) w' := by
  have h := add_run (a := 0) (b := s) (s := s) (by omega) hs (by omega) w'
  rw [show fx ((0 : Nat) : Int) 0 = 0 from fx_zero 0] at h
  exact h
theorem nums_sum_le {cs : List Cel} (hok : ∀ x ∈ cs, x.Ok) (hn : cs.length ≤ 60) : (nums cs).sum ≤ 6000000 := by
  have h1 := sum_le (nums_le hok)
  have h2 := nums_len cs
  have h3 : (nums cs).length * 100000 ≤ 60 * 100000 := Nat.mul_le_mul_right _ (by omega)
  omega
set_option maxRecDepth 20000 in
set_option maxHeartbeats 8000000 in
theorem countSum_mat (cs : List Cel) (hok : ∀ x ∈ cs, x.Ok) (hn : cs.length ≤ 60) (hne : cs ≠ []) (F : Value) (rg rn rc : Nat) (p q : Option Addr) (w : World) (htab : Tab 0 w 79 84 10 (.slice (some ⟨rg, 0, none⟩) rn rc) ((cs.map Cel.atom).map fun a => [a.facells])) (g c : Nat) (harr : Arr 0 w 84 10 (.slice (some ⟨g, 0, none⟩) 1 c) [[.string ⟨#[]⟩, .float .f64 0, .string ⟨#[]⟩, .slice none 0 0, .slice (some ⟨rg, 0, none⟩) rn rc, .bool false, .string ⟨#[]⟩, .int .u8 4, .pointer p, .pointer q]]) :
    Calls Tryz.prog 121 #[F, .bool true, .slice (some ⟨g, 0, none⟩) 1 c] w fun e w' => e = .returned (.tuple #[.float .f64 (fx ((nums cs).length : Int) 0), .float .f64 (fx ((nums cs).sum : Int) 0)]) ∧ Below w.heap.size w w' := by
  obtain ⟨n, hnn⟩ : ∃ n, n = (nums cs).length := ⟨_, rfl⟩
  obtain ⟨s, hss⟩ : ∃ s, s = (nums cs).sum := ⟨_, rfl⟩
  have HNS : Hid (n = (nums cs).length ∧ s = (nums cs).sum) := Lib.hid ⟨hnn, hss⟩
  have hn6 : n ≤ 60 := (by rw [hnn]; exact Nat.le_trans (nums_len cs) hn)
  have hs6 : s ≤ 6000000 := (by rw [hss]; exact nums_sum_le hok hn)
  have r1 := add0_run (s := n) (by omega)
  have r2 := add0_run (s := s) (by omega)
  have HA := Lib.hid harr
  have HT := Lib.hid htab
  have HOK := Lib.hid hok
  have HNE := Lib.hid hne
  have HL := Lib.hid hn
  have d0 := harr.cell0 (i := 0) (u := .string ⟨#[]⟩) rfl rfl
  have d1 := harr.cell (i := 0) (j := 1) (u := .float .f64 0) rfl rfl
  have d2 := harr.cell (i := 0) (j := 2) (u := .string ⟨#[]⟩) rfl rfl
  have d3 := harr.cell (i := 0) (j := 3) (u := .slice none 0 0) rfl rfl
  have d4 := harr.cell (i := 0) (j := 4) (u := .slice (some ⟨rg, 0, none⟩) rn rc) rfl rfl
  have d5 := harr.cell (i := 0) (j := 5) (u := .bool false) rfl rfl
  have d6 := harr.cell (i := 0) (j := 6) (u := .string ⟨#[]⟩) rfl rfl
  have d7 := harr.cell (i := 0) (j := 7) (u := .int .u8 4) rfl rfl
  have d8 := harr.cell (i := 0) (j := 8) (u := .pointer p) rfl rfl
  have d9 := harr.cell (i := 0) (j := 9) (u := .pointer q) rfl rfl
  rw [← hnn, ← hss]
  clear hnn hss harr htab hok hne hn
  go_enter Tryz.func121, Tryz.ntmps121
  go_wp2_with fail
  go_loopw [6, 7, 16] (fun a b i wr => CsRel w n s a b i wr) (fun _ _ i _ => 1 - (intOf i).toNat)
  case atStart => exact .inl ⟨rfl, rfl, rfl, rfl⟩
  case round =>
    rcases hrel with ⟨rfl, rfl, rfl, rfl⟩ | ⟨rfl, rfl, rfl, hb⟩
    · go_wp2_with fail
      refine (toList_mat (cs.map Cel.atom) (by rw [List.length_map]; have := HL.out; omega) (fun h => HNE.out (List.map_eq_nil_iff.1 h)) _ p q _ (HT.out.keep (by go_grown))).mono ?_
      rintro e w2 ⟨v2, rfl, ha, hb⟩
      have HA2 := Lib.hid ha
      have HB : Hid (Below wr.heap.size wr w2) := Below.trans (by go_grown) (hb.mono (by simp))
      obtain ⟨g3, c3, hv2⟩ : ∃ g3 c3, v2 = .slice (some ⟨g3, 0, none⟩) cs.length c3 := (by
        rcases ha.shape with ⟨_, h⟩ | ⟨g3, c3, h, _⟩
        · exact absurd (List.map_eq_nil_iff.1 (List.map_eq_nil_iff.1 h)) HNE.out
        · exact ⟨g3, c3, by rw [h, List.length_map, List.length_map]⟩)
      subst hv2
      clear ha hb d0 d1 d2 d3 d4 d5 d6 d7 d8 d9
      go_wp2_with fail
      refine (countSum_cells cs HOK.out HL.out _ _ g3 c3 (HA2.out.base (Nat.zero_le _))).mono ?_
      rintro e w3 ⟨rfl, hb3⟩
      rw [← HNS.out.1, ← HNS.out.2]
      have HB3 : Hid (Below wr.heap.size wr w3) := HB.out.trans (hb3.mono HB.out.size)
      clear hb3
      go_wp2_with fail
      exact ⟨.inr ⟨rfl, rfl, rfl, HB3.out⟩, by simp [intOf]⟩
    · have HB := Lib.hid hb
      clear hb d0 d1 d2 d3 d4 d5 d6 d7 d8 d9
      go_wp2_with fail
      go_ret2
      exact ⟨rfl, HB.out⟩
theorem innerList_tabs (ts : List (List Atom)) (hok : ∀ t ∈ ts, ∀ a ∈ t, a.Ok) (hne : ∀ t ∈ ts, t ≠ []) (hts : ∀ t ∈ ts, t.length ≤ 100) (hn : ts.length ≤ 100) (w : World) (g c : Nat) (hv : TabVals w 66 64 (.slice (some ⟨g, 0, none⟩) ts.length c) ts) :
    Calls Tryz.prog 84 #[.slice (some ⟨g, 0, none⟩) ts.length c] w fun e w' => ∃ (L : Nat) (bs : List Nat) (fs : List Value), e = .returned (.pointer (some ⟨L, 0, none⟩)) ∧ IsList w.heap.size w' L bs (fs.map (.iface 84)) ∧ fs.length = ts.length ∧ (∀ (i : Nat) f t, fs[i]? = some f → ts[i]? = some t → MatAt w' f t) ∧ Below w.heap.size w w' := by
  obtain ⟨rs, h1, h2, h3⟩ := hv
  refine (innerList_any (rs.map tabRow) _ (fun w' => ∀ (i : Nat) r (t : List Atom), rs[i]? = some r → ts[i]? = some t → Tab 0 w' 66 64 4 r (t.map fun a : Atom => [a.cells])) (fun i w f => ∀ t, ts[i]? = some t → MatAt w f t) w g c (by rw [List.length_map, h2]) h1 (by
    intro x hx
    obtain ⟨r, hr, rfl⟩ := List.mem_map.1 hx
    obtain ⟨i, hi, rfl⟩ := List.mem_iff_getElem.1 hr
    have := h3 i _ (ts[i]'(by omega)) (List.getElem?_eq_getElem hi) (List.getElem?_eq_getElem _)
    rcases this.cases with h | ⟨g, n, c, h⟩ <;> exact ⟨_, _, _, _, _, _, by rw [h]; rfl⟩) (by rw [List.length_map]; omega) h3 ⟨fun w1 w2 hs hb i r t hr ht => (hs i r t hr ht).keep hb⟩ ?_).mono ?_
  · intro i x hx w1 hS
    rw [List.getElem?_map] at hx
    obtain ⟨r, hr, rfl⟩ := Option.map_eq_some_iff.1 hx
    obtain ⟨t, ht⟩ : ∃ t, ts[i]? = some t := ⟨_, List.getElem?_eq_getElem (by have := (List.getElem?_eq_some_iff.1 hr).1; omega)⟩
    have hm := List.mem_of_getElem? ht
    have htab := hS i r t hr ht
    obtain ⟨rg, rc, hrv⟩ : ∃ rg rc, r = .slice (some ⟨rg, 0, none⟩) t.length rc := by
      rcases htab.shape with ⟨_, h⟩ | ⟨g, c, h, _⟩
      · exact absurd (List.map_eq_nil_iff.1 h) (hne t hm)
      · exact ⟨g, c, by rw [h, List.length_map]⟩
    subst hrv
    refine (innerArg_tab t (hok t hm) (hts t hm) (hne t hm) w1 rg rc htab).mono ?_
    rintro e w2 ⟨v, p, q, rfl, hp, hq, htab2, hb⟩
    refine ⟨_, rfl, On.mk' fun w3 hw3 t' ht' => ?_, hb⟩
    rw [ht] at ht'
    cases ht'
    exact ⟨v, p, q, rfl, htab2.cases, hp, hq, (htab2.above (w' := w3) fun k hk hB => hw3 k hB hk).base (Nat.zero_le _)⟩
  · rintro e w' ⟨L, bs, fs, he, hl, hil, hh, hb⟩
    exact ⟨L, bs, fs, he, hil, by rw [hl, List.length_map, h2], fun i f t hf ht => (hh.get hf) t ht, hb⟩
/-- The method m answers so, called with these tables, where S holds. -/
def MethodTabs (S : World → Prop) (m : Nat) (ts : List (List Atom)) (P : Res → Prop) : Prop := ∀ (F : Value) (B L : Nat) (bs : List Nat) (fs : List Value) (w : World), S w → IsList B w L bs (fs.map (.iface 84)) → fs.length = ts.length → (∀ (i : Nat) f t, fs[i]? = some f → ts[i]? = some t → MatAt w f t) → Calls Tryz.prog m #[F, .pointer (some ⟨L, 0, none⟩)] w (Gives P w)
/-- One table among the arguments, taken apart. -/
theorem one_tab {B L : Nat} {bs : List Nat} {fs : List Value} {w : World} {t : List Atom} (hne : t ≠ []) (hil : IsList B w L bs (fs.map (.iface 84))) (hl : fs.length = 1) (hm : ∀ (i : Nat) f t', fs[i]? = some f → [t][i]? = some t' → MatAt w f t') :
    ∃ b0 rg rn rc p q, bs = [b0] ∧ IsList B w L [b0] [.iface 84 (.agg #[.string ⟨#[]⟩, .float .f64 0, .string ⟨#[]⟩, .slice none 0 0, .slice (some ⟨rg, 0, none⟩) rn rc, .bool false, .string ⟨#[]⟩, .int .u8 4, .pointer p, .pointer q])] ∧ Tab 0 w 79 84 10 (.slice (some ⟨rg, 0, none⟩) rn rc) (t.map fun a => [a.facells]) := by
  match fs, hl, hil, hm with
  | [f], _, hil, hm =>
    obtain ⟨v, p, q, rfl, hv, ⟨p', rfl⟩, ⟨q', rfl⟩, htab⟩ := hm 0 f t rfl rfl
    obtain ⟨rg, rc, rfl⟩ : ∃ rg rc, v = .slice (some ⟨rg, 0, none⟩) t.length rc := by
      rcases htab.shape with ⟨_, h⟩ | ⟨g, c, h, _⟩
      · exact absurd (List.map_eq_nil_iff.1 h) hne
      · exact ⟨g, c, by rw [h, List.length_map]⟩
    have hbl := hil.len
    match bs, hbl, hil with
    | [b0], _, hil => exact ⟨b0, rg, _, rc, p', q', rfl, hil, htab⟩
def VRel (w : World) (b0 : Nat) (z r : Nat) (a i : Value) (wr : World) : Prop := (i = .pointer (some ⟨b0, 0, none⟩) ∧ a = .float .f64 z ∧ wr = w) ∨ (i = .pointer none ∧ a = .float .f64 r ∧ Below w.heap.size w wr)

set_option maxRecDepth 20000 in
set_option maxHeartbeats 8000000 in
theorem maxValue_tab (cs : List Cel) (hok : ∀ x ∈ cs, x.Ok) (hn : cs.length ≤ 60) (m : Nat) (hm : IsMax (nums cs) m) (F : Value) (B L b0 rg rn rc : Nat) (p q : Option Addr) (w : World) (hil : IsList B w L [b0] [.iface 84 (.agg #[.string ⟨#[]⟩, .float .f64 0, .string ⟨#[]⟩, .slice none 0 0, .slice (some ⟨rg, 0, none⟩) rn rc, .bool false, .string ⟨#[]⟩, .int .u8 4, .pointer p, .pointer q])]) (htab : Tab 0 w 79 84 10 (.slice (some ⟨rg, 0, none⟩) rn rc) ((cs.map Cel.atom).map fun a => [a.facells])) :
    Calls Tryz.prog 120 #[F, .bool true, .pointer (some ⟨L, 0, none⟩)] w (Gives (fun r => r = .num (fx (m : Int) 0)) w) := by
  have hne : cs ≠ [] := (by rintro rfl; have := hm.1; simp [nums] at this)
  have hms : mxb (maxOf (nums cs)) = fx (m : Int) 0 := (by
    rcases maxOf_spec (nums cs) with ⟨h, _⟩ | ⟨k, h1, h2⟩
    · have := hm.1; rw [h] at this; simp at this
    · rw [h1, h2.eq hm]; rfl)
  have hm5 : m ≤ 100000 := nums_le hok m hm.1
  obtain ⟨bm, hbm⟩ : ∃ bm, bm = fx (m : Int) 0 := ⟨_, rfl⟩
  have ho := order_negmax (n := m) (by omega)
  rw [← hbm] at ho hms
  have HGD : Hid (Good bm) := (by show Good bm; rw [hbm]; exact good_fx (by omega))
  have HBM := Lib.hid hbm
  have HIL := Lib.hid hil
  have HT := Lib.hid htab
  have HOK := Lib.hid hok
  have HNE := Lib.hid hne
  have HMS := Lib.hid hms
  obtain ⟨c0, l0⟩ := hil.at3 0 rfl rfl
  have m0 := lt_k l0
  have hn100 : Hid (cs.length ≤ 100) := Lib.hid (by omega)
  rw [← hbm]
  clear hil htab hok hne hms hm hbm hn hm5
  go_enter Tryz.func120, Tryz.ntmps120
  go_wp2_with (go_at_call 112; refine (front_any _ _ _ _ _ _ _ (HIL.out.keep (by go_grown))).mono ?_; rintro e w2 ⟨rfl, rfl⟩)
  refine abs_wp (fun w' => Blk w' w.heap.size 84 [.string ⟨#[]⟩, .float .f64 0, .string ⟨#[]⟩, .slice none 0 0, .slice none 0 0, .bool false, .string ⟨#[]⟩, .int .u8 0, .pointer none, .pointer none] ∧ Below w.heap.size w w') ⟨Blk.new w 84 _, by go_grown⟩ ?_
  rintro w1 ⟨hr1, hb1⟩
  have HR1 := Lib.hid hr1
  have HB1 := Lib.hid hb1
  have lr1 := hr1.lt
  have c1 : w1.cell? ⟨b0, 3, none⟩ = _ := (hb1.cell (p := ⟨b0, 3, none⟩) l0).trans c0
  have l1 : b0 < w1.heap.size := Nat.lt_of_lt_of_le l0 hb1.size
  have m1 := lt_k l1
  clear hr1 hb1 c0 m0
  go_loopw [7, 8] (fun a i wr => VRel w1 b0 18442240474082181119 bm a i wr) (fun _ i _ => match i with | .pointer (some _) => 1 | _ => 0)
  case atStart => exact .inl ⟨rfl, rfl, rfl⟩
  case round =>
    rcases hrel with ⟨rfl, rfl, rfl⟩ | ⟨rfl, rfl, hb⟩
    · go_wp2_with fail
      have hcm := calcMax_any cs HOK.out hn100.out HNE.out (.slice (some ⟨rg, 0, none⟩) rn rc) (.inr ⟨_, _, _, rfl⟩) p q (wr.alloc (.cells #[.string ⟨#[]⟩, .float .f64 0, .string ⟨#[]⟩, .slice none 0 0, .slice (some ⟨rg, 0, none⟩) rn rc, .bool false, .string ⟨#[]⟩, .int .u8 4, .pointer p, .pointer q] 84)) ((HT.out.keep HB1.out).keep ((Below.refl _ _).alloc (Nat.le_refl _) _)) 18442240474082181119 rfl
      rw [HMS.out] at hcm
      have HCM := Lib.hid hcm
      clear hcm
      refine HCM.out.mono ?_
      rintro e w3 ⟨rfl, hb3⟩
      have HB3 : Hid (Below wr.heap.size wr w3) := Below.trans (by go_grown) (hb3.mono (by simp))
      have HIL3 := Lib.hid ((HIL.out.keep HB1.out).keep HB3.out)
      clear hb3 c1
      go_wp2_with (go_at_call 113; refine (next_last _ _ _ _ _ HIL3.out 0 b0 rfl rfl).mono ?_; rintro e w4 ⟨rfl, rfl⟩)
      exact ⟨.inr ⟨rfl, rfl, HB3.out⟩, Nat.zero_lt_one⟩
    · have HB := Lib.hid hb
      have HR := Lib.hid (HR1.out.below hb lr1)
      clear hb c1
      go_wp2_with fail
      refine (newNum_any _ _ HGD.out).mono ?_
      rintro e w6 ⟨rfl, hb6⟩
      have HB6 : Hid (Below w.heap.size w w6) := (HB1.out.trans (HB.out.mono HB1.out.size)).trans (hb6.mono (Nat.le_trans HB1.out.size HB.out.size))
      have HR6 := Lib.hid (HR.out.below hb6 HR.out.lt)
      clear hb6
      go_wp2_with (refine store_res rfl (.tmp 6) (.tmp 86) rfl w.heap.size [.string ⟨#[]⟩, .float .f64 0, .string ⟨#[]⟩, .slice none 0 0, .slice none 0 0, .bool false, .string ⟨#[]⟩, .int .u8 0, .pointer none, .pointer none] (.num bm) rfl rfl HR6.out rfl w.heap.size (Nat.le_refl _) ?_; intro w7 hr7 hb7)
      exact bodyPost_ret (ret_res rfl _ _ w.heap.size (.num bm) rfl hr7) rfl ⟨_, rfl, rfl, HB6.out.trans hb7⟩
set_option maxRecDepth 20000 in
set_option maxHeartbeats 4000000 in
theorem maxa_gives (cs : List Cel) (hok : ∀ x ∈ cs, x.Ok) (hn : cs.length ≤ 60) (m : Nat) (hm : IsMax (nums cs) m) : MethodTabs (fun _ => True) 92 [cs.map Cel.atom] (fun r => r = .num (fx (m : Int) 0)) := by
  intro F B L bs fs w _ hil hl hmat
  have hne : cs ≠ [] := (by rintro rfl; have := hm.1; simp [nums] at this)
  obtain ⟨b0, rg, rn, rc, p, q, rfl, hil1, htab⟩ := one_tab (fun h => hne (List.map_eq_nil_iff.1 h)) hil hl hmat
  have HIL := Lib.hid hil1
  have HT := Lib.hid htab
  have HOK := Lib.hid hok
  have HM := Lib.hid hm
  have HN := Lib.hid hn
  clear hil hl hmat hne hil1 htab hok hm hn
  go_enter Tryz.func92, Tryz.ntmps92
  go_wp2_with (go_at_call 110; refine (len_any _ _ _ _ _ (HIL.out.keep (by go_grown))).mono ?_; rintro e w2 ⟨rfl, rfl⟩)
  refine (maxValue_tab cs HOK.out HN.out m HM.out _ _ _ b0 rg rn rc p q _ (HIL.out.keep (by go_grown)) (HT.out.keep (by go_grown))).mono ?_
  rintro e w6 ⟨r, rfl, hr, hb6⟩
  have HRR := Lib.hid hr
  have HB6 : Hid (Below w.heap.size w w6) := Below.trans (by go_grown) (hb6.mono (by simp))
  have HR6 : Hid (Blk w6 w.heap.size 84 [.string ⟨#[]⟩, .float .f64 0, .string ⟨#[]⟩, .slice none 0 0, .slice none 0 0, .bool false, .string ⟨#[]⟩, .int .u8 0, .pointer none, .pointer none]) := (Blk.new w 84 [.string ⟨#[]⟩, .float .f64 0, .string ⟨#[]⟩, .slice none 0 0, .slice none 0 0, .bool false, .string ⟨#[]⟩, .int .u8 0, .pointer none, .pointer none]).below hb6 (by simp)
  clear hb6 hr
  go_wp2_with (refine store_res rfl (.tmp 4) (.tmp 11) rfl w.heap.size [.string ⟨#[]⟩, .float .f64 0, .string ⟨#[]⟩, .slice none 0 0, .slice none 0 0, .bool false, .string ⟨#[]⟩, .int .u8 0, .pointer none, .pointer none] r rfl rfl HR6.out rfl w.heap.size (Nat.le_refl _) ?_; intro w7 hr7 hb7)
  exact bodyPost_ret (ret_res rfl _ _ w.heap.size r rfl hr7) rfl ⟨_, rfl, HRR.out, HB6.out.trans hb7⟩

set_option maxRecDepth 20000 in
set_option maxHeartbeats 8000000 in
theorem minValue_tab (cs : List Cel) (hok : ∀ x ∈ cs, x.Ok) (hn : cs.length ≤ 60) (m : Nat) (hm : IsMin (nums cs) m) (F : Value) (B L b0 rg rn rc : Nat) (p q : Option Addr) (w : World) (hil : IsList B w L [b0] [.iface 84 (.agg #[.string ⟨#[]⟩, .float .f64 0, .string ⟨#[]⟩, .slice none 0 0, .slice (some ⟨rg, 0, none⟩) rn rc, .bool false, .string ⟨#[]⟩, .int .u8 4, .pointer p, .pointer q])]) (htab : Tab 0 w 79 84 10 (.slice (some ⟨rg, 0, none⟩) rn rc) ((cs.map Cel.atom).map fun a => [a.facells])) :
    Calls Tryz.prog 122 #[F, .bool true, .pointer (some ⟨L, 0, none⟩)] w (Gives (fun r => r = .num (fx (m : Int) 0)) w) := by
  have hne : cs ≠ [] := (by rintro rfl; have := hm.1; simp [nums] at this)
  have hms : mnb (minOf (nums cs)) = fx (m : Int) 0 := (by
    rcases minOf_spec (nums cs) with ⟨h, _⟩ | ⟨k, h1, h2⟩
    · have := hm.1; rw [h] at this; simp at this
    · rw [h1, h2.eq hm]; rfl)
  have hm5 : m ≤ 100000 := nums_le hok m hm.1
  obtain ⟨bm, hbm⟩ : ∃ bm, bm = fx (m : Int) 0 := ⟨_, rfl⟩
  have ho := order_posmax (n := m) (by omega)
  rw [← hbm] at ho hms
  have HGD : Hid (Good bm) := (by show Good bm; rw [hbm]; exact good_fx (by omega))
  have HBM := Lib.hid hbm
  have HIL := Lib.hid hil
  have HT := Lib.hid htab
  have HOK := Lib.hid hok
  have HNE := Lib.hid hne
  have HMS := Lib.hid hms
  obtain ⟨c0, l0⟩ := hil.at3 0 rfl rfl
  have m0 := lt_k l0
  have hn100 : Hid (cs.length ≤ 100) := Lib.hid (by omega)
  rw [← hbm]
  clear hil htab hok hne hms hm hbm hn hm5
  go_enter Tryz.func122, Tryz.ntmps122
  go_wp2_with (go_at_call 112; refine (front_any _ _ _ _ _ _ _ (HIL.out.keep (by go_grown))).mono ?_; rintro e w2 ⟨rfl, rfl⟩)
  refine abs_wp (fun w' => Blk w' w.heap.size 84 [.string ⟨#[]⟩, .float .f64 0, .string ⟨#[]⟩, .slice none 0 0, .slice none 0 0, .bool false, .string ⟨#[]⟩, .int .u8 0, .pointer none, .pointer none] ∧ Below w.heap.size w w') ⟨Blk.new w 84 _, by go_grown⟩ ?_
  rintro w1 ⟨hr1, hb1⟩
  have HR1 := Lib.hid hr1
  have HB1 := Lib.hid hb1
  have lr1 := hr1.lt
  have c1 : w1.cell? ⟨b0, 3, none⟩ = _ := (hb1.cell (p := ⟨b0, 3, none⟩) l0).trans c0
  have l1 : b0 < w1.heap.size := Nat.lt_of_lt_of_le l0 hb1.size
  have m1 := lt_k l1
  clear hr1 hb1 c0 m0
  go_loopw [7, 8] (fun a i wr => VRel w1 b0 9218868437227405311 bm a i wr) (fun _ i _ => match i with | .pointer (some _) => 1 | _ => 0)
  case atStart => exact .inl ⟨rfl, rfl, rfl⟩
  case round =>
    rcases hrel with ⟨rfl, rfl, rfl⟩ | ⟨rfl, rfl, hb⟩
    · go_wp2_with fail
      have hcm := calcMin_any cs HOK.out hn100.out HNE.out (.slice (some ⟨rg, 0, none⟩) rn rc) (.inr ⟨_, _, _, rfl⟩) p q (wr.alloc (.cells #[.string ⟨#[]⟩, .float .f64 0, .string ⟨#[]⟩, .slice none 0 0, .slice (some ⟨rg, 0, none⟩) rn rc, .bool false, .string ⟨#[]⟩, .int .u8 4, .pointer p, .pointer q] 84)) ((HT.out.keep HB1.out).keep ((Below.refl _ _).alloc (Nat.le_refl _) _)) 9218868437227405311 rfl
      rw [HMS.out] at hcm
      have HCM := Lib.hid hcm
      clear hcm
      refine HCM.out.mono ?_
      rintro e w3 ⟨rfl, hb3⟩
      have HB3 : Hid (Below wr.heap.size wr w3) := Below.trans (by go_grown) (hb3.mono (by simp))
      have HIL3 := Lib.hid ((HIL.out.keep HB1.out).keep HB3.out)
      clear hb3 c1
      go_wp2_with (go_at_call 113; refine (next_last _ _ _ _ _ HIL3.out 0 b0 rfl rfl).mono ?_; rintro e w4 ⟨rfl, rfl⟩)
      exact ⟨.inr ⟨rfl, rfl, HB3.out⟩, Nat.zero_lt_one⟩
    · have HB := Lib.hid hb
      have HR := Lib.hid (HR1.out.below hb lr1)
      clear hb c1
      go_wp2_with fail
      refine (newNum_any _ _ HGD.out).mono ?_
      rintro e w6 ⟨rfl, hb6⟩
      have HB6 : Hid (Below w.heap.size w w6) := (HB1.out.trans (HB.out.mono HB1.out.size)).trans (hb6.mono (Nat.le_trans HB1.out.size HB.out.size))
      have HR6 := Lib.hid (HR.out.below hb6 HR.out.lt)
      clear hb6
      go_wp2_with (refine store_res rfl (.tmp 6) (.tmp 86) rfl w.heap.size [.string ⟨#[]⟩, .float .f64 0, .string ⟨#[]⟩, .slice none 0 0, .slice none 0 0, .bool false, .string ⟨#[]⟩, .int .u8 0, .pointer none, .pointer none] (.num bm) rfl rfl HR6.out rfl w.heap.size (Nat.le_refl _) ?_; intro w7 hr7 hb7)
      exact bodyPost_ret (ret_res rfl _ _ w.heap.size (.num bm) rfl hr7) rfl ⟨_, rfl, rfl, HB6.out.trans hb7⟩
set_option maxRecDepth 20000 in
set_option maxHeartbeats 4000000 in
theorem mina_gives (cs : List Cel) (hok : ∀ x ∈ cs, x.Ok) (hn : cs.length ≤ 60) (m : Nat) (hm : IsMin (nums cs) m) : MethodTabs (fun _ => True) 94 [cs.map Cel.atom] (fun r => r = .num (fx (m : Int) 0)) := by
  intro F B L bs fs w _ hil hl hmat
  have hne : cs ≠ [] := (by rintro rfl; have := hm.1; simp [nums] at this)
  obtain ⟨b0, rg, rn, rc, p, q, rfl, hil1, htab⟩ := one_tab (fun h => hne (List.map_eq_nil_iff.1 h)) hil hl hmat
  have HIL := Lib.hid hil1
  have HT := Lib.hid htab
  have HOK := Lib.hid hok
  have HM := Lib.hid hm
  have HN := Lib.hid hn
  clear hil hl hmat hne hil1 htab hok hm hn
  go_enter Tryz.func94, Tryz.ntmps94
  go_wp2_with (go_at_call 110; refine (len_any _ _ _ _ _ (HIL.out.keep (by go_grown))).mono ?_; rintro e w2 ⟨rfl, rfl⟩)
  refine (minValue_tab cs HOK.out HN.out m HM.out _ _ _ b0 rg rn rc p q _ (HIL.out.keep (by go_grown)) (HT.out.keep (by go_grown))).mono ?_
  rintro e w6 ⟨r, rfl, hr, hb6⟩
  have HRR := Lib.hid hr
  have HB6 : Hid (Below w.heap.size w w6) := Below.trans (by go_grown) (hb6.mono (by simp))
  have HR6 : Hid (Blk w6 w.heap.size 84 [.string ⟨#[]⟩, .float .f64 0, .string ⟨#[]⟩, .slice none 0 0, .slice none 0 0, .bool false, .string ⟨#[]⟩, .int .u8 0, .pointer none, .pointer none]) := (Blk.new w 84 [.string ⟨#[]⟩, .float .f64 0, .string ⟨#[]⟩, .slice none 0 0, .slice none 0 0, .bool false, .string ⟨#[]⟩, .int .u8 0, .pointer none, .pointer none]).below hb6 (by simp)
  clear hb6 hr
  go_wp2_with (refine store_res rfl (.tmp 4) (.tmp 11) rfl w.heap.size [.string ⟨#[]⟩, .float .f64 0, .string ⟨#[]⟩, .slice none 0 0, .slice none 0 0, .bool false, .string ⟨#[]⟩, .int .u8 0, .pointer none, .pointer none] r rfl rfl HR6.out rfl w.heap.size (Nat.le_refl _) ?_; intro w7 hr7 hb7)
  exact bodyPost_ret (ret_res rfl _ _ w.heap.size r rfl hr7) rfl ⟨_, rfl, HRR.out, HB6.out.trans hb7⟩
end Go.Proofs.YtoebgbojpkflnaaGreatDoor
