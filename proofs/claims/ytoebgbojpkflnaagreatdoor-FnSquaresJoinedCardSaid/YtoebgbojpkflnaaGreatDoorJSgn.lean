/- Proof of FnSquaresJoined, a part: The laws' of and all at whole numbers of either sign. -/
import Derived.Outline
import Derived.Test.YtoebgbojpkflnaaGreatDoorJAllTab
namespace Go.Proofs.YtoebgbojpkflnaaGreatDoor
open Go Go.RowKit
/-- A whole number of either sign as a cell of the laws' tables. -/
inductive Sg where
  | int (n : Int)
def Sg.cells : Sg → List Value
  | .int n => iCells n
def Sg.Ok : Sg → Prop
  | .int n => -999 ≤ n ∧ n ≤ 999
def Sg.atom : Sg → Atom
  | .int n => .num (fx n 0)
theorem Sg.clen (c : Sg) : c.cells.length = 5 := by cases c; rfl
theorem Sg.aquad (c : Sg) : ∃ k b s, c.atom.cells = [.int .i64 k, .float .f64 b, .string s, .slice none 0 0] := by
  cases c; exact ⟨_, _, _, rfl⟩
theorem of_sg (c : Sg) (h : c.Ok) (w : World) : Calls Tryz.prog 51 #[.agg c.cells.toArray] w fun e w' => e = .returned c.atom.val ∧ Below w.heap.size w w' := by
  rcases c with ⟨n⟩
  have hn : -999 ≤ n ∧ n ≤ 999 := h
  exact of_any (.int n) w ⟨by omega, by omega⟩
set_option maxRecDepth 20000 in
set_option maxHeartbeats 1000000 in
theorem all_sg (cs : List Sg) (hok : ∀ x ∈ cs, x.Ok) (w : World) (g c : Nat) (hrow : Arr 0 w 27 5 (.slice (some ⟨g, 0, none⟩) cs.length c) (cs.map Sg.cells)) (hn : cs.length ≤ 100) :
    Calls Tryz.prog 13 #[.slice (some ⟨g, 0, none⟩) cs.length c] w fun e w' => ∃ v, e = .returned v ∧ Arr w.heap.size w' 37 4 v (cs.map fun x => x.atom.cells) ∧ Below w.heap.size w w' := by
  have HR := Lib.hid hrow
  have HOK := Lib.hid hok
  obtain ⟨n, hnn⟩ : ∃ n, n = cs.length := ⟨_, rfl⟩
  have HN : Hid (n = cs.length) := hnn
  rw [← hnn] at hn HR ⊢
  clear hnn hrow hok
  go_enter Tryz.func13, Tryz.ntmps13
  go_wp2_with fail
  go_loopw [3, 4] (fun v i wr => ∃ k : Nat, k ≤ n ∧ i = .int .i64 k ∧ Arr w.heap.size wr 37 4 v ((cs.take k).map fun x => x.atom.cells) ∧ Below w.heap.size w wr) (fun _ i _ => n - (intOf i).toNat)
  case atStart => exact ⟨0, Nat.zero_le _, rfl, Arr.nil _ _ _ _, Below.refl _ _⟩
  case round =>
    obtain ⟨k, hk, rfl, harr, hb2⟩ := hrel
    have HA := Lib.hid harr
    have HB2 := Lib.hid hb2
    clear harr
    by_cases hlt : k < n
    · obtain ⟨x, hx⟩ : ∃ x, cs[k]? = some x := ⟨_, List.getElem?_eq_getElem (by rw [← HN.out]; exact hlt)⟩
      have hRr := HR.out.keep hb2
      have hxx : (cs.map Sg.cells)[k]? = some x.cells := by rw [List.getElem?_map, hx]; rfl
      obtain ⟨x0, x1, x2, x3, x4, hc5⟩ := five_of x.clen
      have e0 := hRr.cell0 hxx (u := x0) (by rw [hc5]; rfl)
      have e1 := hRr.cell hxx (j := 1) (u := x1) (by rw [hc5]; rfl)
      have e2 := hRr.cell hxx (j := 2) (u := x2) (by rw [hc5]; rfl)
      have e3 := hRr.cell hxx (j := 3) (u := x3) (by rw [hc5]; rfl)
      have e4 := hRr.cell hxx (j := 4) (u := x4) (by rw [hc5]; rfl)
      have HX := Lib.hid hx
      have HC5 := Lib.hid hc5
      have HL4 : Hid (((cs.take k).map fun x => x.atom.cells).length ≤ 4000000000) := by
        have := List.length_take_le k cs; show _ ≤ _; rw [List.length_map]; omega
      clear hb2 hRr hxx hx hc5
      go_wp2_with fail
      have hof := of_sg x (HOK.out x (List.mem_of_getElem? HX.out)) wr
      obtain ⟨k', b, t, hq⟩ := x.aquad
      have HQ := Lib.hid hq
      rw [HC5.out, Atom.val_eq, hq] at hof
      clear hq
      refine Calls.mono (show Calls Tryz.prog 51 #[.agg #[x0, x1, x2, x3, x4]] wr _ from hof) ?_
      rintro e w2 ⟨rfl, hb3⟩
      have HA2 : Hid (Arr w.heap.size w2 37 4 _ ((cs.take k).map fun x => x.atom.cells)) := HA.out.keep hb3
      have HB3 : Hid (Below w.heap.size w w2) := HB2.out.trans (hb3.mono HB2.out.size)
      clear hb3
      go_wp2_with (at_builtin; refine append_one rfl _ _ 29 rfl w.heap.size 37 _ 4 56 Tryz.underlying29 info37 rfl (by decide) (by decide) _ _ rfl (HA2.out.alloc _) ⟨w2.heap.size, 0, none⟩ 1 [.int .i64 k', .float .f64 b, .string t, .slice none 0 0] rfl rfl (news_cells _ _ _ _ rfl) (quad_one _ _ _ _ _ _) HL4.out (le_alloc1 HB3.out.size _) ?_; intro v' w3 harr2 hb4)
      refine ⟨⟨k + 1, by omega, by go_num, by rw [take_snoc HX.out, List.map_append]; simpa [HQ.out] using harr2, (HB3.out.alloc HB3.out.size _).trans hb4⟩, by simp [intOf]; omega⟩
    · have hkn : k = n := by omega
      subst hkn
      go_wp2_with fail
      go_ret
      exact ⟨_, rfl, by have := HA.out; rw [List.take_of_length_le (by rw [← HN.out]; exact Nat.le_refl _)] at this; exact this, HB2.out⟩
set_option maxRecDepth 20000 in
set_option maxHeartbeats 4000000 in
theorem table_sg (cs : List Sg) (hok : ∀ x ∈ cs, x.Ok) (w : World) (g c : Nat) (htab : Tab 0 w 31 27 5 (.slice (some ⟨g, 0, none⟩) cs.length c) (cs.map fun x => [x.cells])) (hn : cs.length ≤ 100) :
    Calls Tryz.prog 51 #[.agg #[.int .i64 5, .int .i64 0, .int .i64 0, .string ⟨#[]⟩, .slice (some ⟨g, 0, none⟩) cs.length c]] w fun e w' => ∃ v, e = .returned (.agg #[.int .i64 5, .float .f64 0, .string ⟨#[]⟩, v]) ∧ Tab w.heap.size w' 29 37 4 v (cs.map fun x => [x.atom.cells]) ∧ Below w.heap.size w w' := by
  have HT := Lib.hid htab
  have HOK := Lib.hid hok
  obtain ⟨n, hnn⟩ : ∃ n, n = cs.length := ⟨_, rfl⟩
  have HN : Hid (n = cs.length) := hnn
  rw [← hnn] at hn HT ⊢
  clear hnn htab hok
  go_enter Tryz.func51, Tryz.ntmps51
  go_wp2_with fail
  refine abs_wp (fun w' => Blk w' w.heap.size 27 [.int .i64 5, .int .i64 0, .int .i64 0, .string ⟨#[]⟩, .slice (some ⟨g, 0, none⟩) n c] ∧ Blk w' (w.heap.size + 1) 37 [.int .i64 0, .float .f64 0, .string ⟨#[]⟩, .slice none 0 0] ∧ Blk w' (w.heap.size + 1 + 1) 37 [.int .i64 5, .float .f64 0, .string ⟨#[]⟩, .slice none 0 0] ∧ Below w.heap.size w w') ⟨((Blk.new w 27 _).alloc _).alloc _, (blk_at (by simp) (Blk.new (w.alloc _) 37 _)).alloc _, blk_at (by simp) (Blk.new ((w.alloc _).alloc _) 37 _), by go_grown⟩ ?_
  rintro w1 ⟨hb27, hb37, hb38, hbl⟩
  have HG : Hid (g < w.heap.size ∨ n = 0) := (by
    rcases HT.out.shape with ⟨h, _⟩ | ⟨g', c', h, hl⟩
    · cases h
    · left; injection h with h1; injection h1 with h1; injection h1 with h1; rw [h1]; exact hl)
  go_loopw [4] (fun i wr => ∃ (k : Nat) (vk : Value), k ≤ n ∧ i = .int .i64 k ∧ Blk wr w.heap.size 27 [.int .i64 5, .int .i64 0, .int .i64 0, .string ⟨#[]⟩, .slice (some ⟨g, 0, none⟩) n c] ∧ Blk wr (w.heap.size + 1) 37 [.int .i64 0, .float .f64 0, .string ⟨#[]⟩, .slice none 0 0] ∧ Blk wr (w.heap.size + 1 + 1) 37 [.int .i64 5, .float .f64 0, .string ⟨#[]⟩, vk] ∧ Tab (w.heap.size + 1 + 1 + 1) wr 29 37 4 vk ((cs.take k).map fun x => [x.atom.cells]) ∧ Below w.heap.size w wr) (fun i _ => n - (intOf i).toNat)
  case atStart => exact ⟨0, .slice none 0 0, Nat.zero_le _, rfl, hb27, hb37, hb38, Tab.nil, hbl⟩
  case round =>
    obtain ⟨k, vk, hk, rfl, h27, h37, h38, htk, hbk⟩ := hrel
    have H27 := Lib.hid h27
    have H37 := Lib.hid h37
    have H38 := Lib.hid h38
    have HTK := Lib.hid htk
    have HBK := Lib.hid hbk
    have b4 := h27.get 4 rfl
    clear h27 h37 h38 htk hbk hb27 hb37 hb38 hbl
    by_cases hlt : k < n
    · obtain ⟨x, hx⟩ : ∃ x, cs[k]? = some x := ⟨_, List.getElem?_eq_getElem (by rw [← HN.out]; exact hlt)⟩
      have hgl : g < w.heap.size := HG.out.resolve_right (by omega)
      obtain ⟨r, hr, har⟩ := HT.out.at (i := k) (x := [x.cells]) (by rw [List.getElem?_map, hx]; rfl)
      have er : wr.cell? ⟨g, k, none⟩ = some r := (HBK.out.cell (p := ⟨g, k, none⟩) hgl).trans hr
      have HAR := Lib.hid (har.keep HBK.out)
      obtain ⟨g1, c1, hr1⟩ : ∃ g1 c1, r = .slice (some ⟨g1, 0, none⟩) 1 c1 := (by
        rcases har.shape with ⟨_, h⟩ | ⟨g1, c1, h, _⟩
        · cases h
        · exact ⟨g1, c1, h⟩)
      subst hr1
      have HX := Lib.hid hx
      have d3 := H38.out.get 3 rfl
      have l38 := H38.out.lt
      have HO1 : Hid (∀ y ∈ [x], y.Ok) := (by show ∀ y ∈ [x], y.Ok; intro y hy; simp at hy; subst hy; exact HOK.out _ (List.mem_of_getElem? HX.out))
      have HL4 : Hid (((cs.take k).map fun x => [x.atom.cells]).length ≤ 4000000000) := by
        have := List.length_take_le k cs; show _ ≤ _; rw [List.length_map]; omega
      clear hr har hx
      go_wp2_with fail
      go_region_law (first
        | (refine step_fn1 (by rfl) 13 Tryz.f13 (.tmp 43) 31 (by rfl) Tryz.func13 (by kernel_rfl) (by rfl) (.slice (some ⟨g1, 0, none⟩) 1 c1) (by simp [Act.eval]) (all_sg [x] HO1.out _ g1 c1 (HAR.out.keep (by go_grown)) (by simp)) ?_; rintro e w2 ⟨v2, rfl, har2, hb2⟩; refine ⟨v2, rfl, ?_⟩; have hb2' : Below wr.heap.size wr w2 := Below.trans (by go_grown) hb2; obtain ⟨g2, c2, rfl⟩ : ∃ g2 c2, v2 = .slice (some ⟨g2, 0, none⟩) 1 c2 := (by rcases har2.shape with ⟨_, h⟩ | ⟨g2, c2, h, _⟩; cases h; exact ⟨g2, c2, h⟩); have d3' := (H38.out.below hb2' l38).get 3 rfl; have l38' := (H38.out.below hb2' l38).lt; have HAR2 : Hid (Arr wr.heap.size w2 37 4 (.slice (some ⟨g2, 0, none⟩) 1 c2) [x.atom.cells]) := Lib.hid har2; have HB2 := Lib.hid hb2'; clear har2 hb2 hb2')
        | (go_loud (refine step_append_tab (by rfl) (.tmp 38) (.tmp 45) 35 (by rfl) (w.heap.size + 1 + 1 + 1) 29 37 4 _ 24 Tryz.underlying35 info29 rfl (by decide) vk _ (by simp [Act.eval]) (HTK.out.keep (HB2.out.trans (Below.mono (by go_grown) HB2.out.size))) ⟨w2.heap.size, 0, none⟩ 1 (.slice (some ⟨g2, 0, none⟩) 1 c2) [x.atom.cells] (by simp [Act.eval]) (news_cells w2 29 [.slice (some ⟨g2, 0, none⟩) 1 c2] w2.heap.size rfl 0 _ rfl) rfl ((HAR2.out.base (by have := l38; omega)).alloc _) (fun k hk e => by have h1 := HTK.out.own_lt k hk; have h2 := (HAR2.out.row.lt k e).1; omega) HL4.out (by have := HB2.out.size; simp; omega) ?_; intro v3 w3 ht3 hg3; obtain ⟨g3, n3, c3, rfl⟩ : ∃ g3 n3 c3, v3 = .slice (some ⟨g3, 0, none⟩) n3 c3 := (by rcases ht3.shape with ⟨_, h⟩ | ⟨g3, c3, h, _⟩; simp at h; exact ⟨g3, _, c3, h⟩); have h38c := ((H38.out.below HB2.out l38).alloc (.cells #[.slice (some ⟨g2, 0, none⟩) 1 c2] 29)).grownBy' hg3 (fun e => by have := HTK.out.own_ge _ e; omega); have H38C := Lib.hid h38c; have k3 := h38c.get 3 rfl; have kf := h38c.free 3; have HT3 := Lib.hid ht3; have HB3 : Hid (Below (w.heap.size + 1 + 1 + 1) wr w3) := Lib.hid (((HB2.out.mono (by omega)).alloc (by have := HB2.out.size; omega) _).trans ((Below.refl _ _).grown hg3 (by have := HB2.out.size; simp; omega) (fun k hk => HTK.out.own_ge k hk))); clear h38c ht3 hg3)))
      all_goals
        have HT4 : Hid (Tab (w.heap.size + 1 + 1 + 1) w3 29 37 4 (.slice (some ⟨g3, 0, none⟩) n3 c3) ((cs.take (k + 1)).map fun x => [x.atom.cells])) := (by show Tab _ _ _ _ _ _ _; rw [take_snoc HX.out, List.map_append]; exact HT3.out)
        clear HT3
        go_wp2_with fail
        refine ⟨⟨k + 1, _, by omega, by go_num, (H27.out.below HB3.out (by omega)).other (by show w.heap.size ≠ w.heap.size + 1 + 1; omega) _, (H37.out.below HB3.out (by omega)).other (by show w.heap.size + 1 ≠ w.heap.size + 1 + 1; omega) _, (H38.out.below HB3.out (by omega)).set 3 _, HT4.out.above (fun j hj hB => Below.heap_setCell _ _ _ j (by show j ≠ w.heap.size + 1 + 1; omega)), (HBK.out.trans (HB3.out.mono (by omega))).setCell (by show w.heap.size ≤ w.heap.size + 1 + 1; omega) _⟩, by simp [intOf]; omega⟩
    · have hkn : k = n := by omega
      have HV : Hid (vk = .slice none 0 0 ∨ ∃ g n c, vk = .slice (some ⟨g, 0, none⟩) n c) := (by
        rcases HTK.out.shape with ⟨h, _⟩ | ⟨g, c, h, _⟩
        · exact .inl h
        · exact .inr ⟨g, _, c, h⟩)
      have hone : ([.int .i64 5, .float .f64 0, .string ⟨#[]⟩, vk] : List Value).all (fun u => u.oneCell') = true := (by rcases HV.out with h | ⟨g', n', c', h⟩ <;> rw [h] <;> rfl)
      have HO := Lib.hid hone
      have d0 := H38.out.get 0 rfl
      have d1 := H38.out.get 1 rfl
      have d2 := H38.out.get 2 rfl
      have d3 := H38.out.get 3 rfl
      clear hone
      go_wp2_with (refine store_row rfl 37 (.tmp 2) (.tmp 48) rfl (w.heap.size + 1) 37 [.int .i64 0, .float .f64 0, .string ⟨#[]⟩, .slice none 0 0] [.int .i64 5, .float .f64 0, .string ⟨#[]⟩, vk] rfl rfl H37.out size37 rfl HO.out w.heap.size (Nat.le_succ _) ?_; intro w6 hr6 hb6 hp6)
      have ht6 := (HTK.out.above (fun k hk hB => hp6.kept k hk (by omega))).base (B' := w.heap.size) (by omega)
      rw [hkn, HN.out, List.take_length] at ht6
      exact bodyPost_ret (ret_row rfl _ _ (w.heap.size + 1) 37 [.int .i64 5, .float .f64 0, .string ⟨#[]⟩, vk] _ rfl hr6 Tryz.underlying37 rfl size37) rfl ⟨vk, rfl, ht6, HBK.out.trans hb6⟩
theorem tab_sg (cs : List Sg) (hok : ∀ x ∈ cs, x.Ok) (r : Value) (w : World) (htab : Tab 0 w 31 27 5 r (cs.map fun x => [x.cells])) (hn : cs.length ≤ 100) :
    Calls Tryz.prog 51 #[.agg #[.int .i64 5, .int .i64 0, .int .i64 0, .string ⟨#[]⟩, r]] w fun e w' => ∃ v, e = .returned (.agg #[.int .i64 5, .float .f64 0, .string ⟨#[]⟩, v]) ∧ Tab w.heap.size w' 29 37 4 v (cs.map fun x => [x.atom.cells]) ∧ Below w.heap.size w w' := by
  rcases htab.shape with ⟨rfl, h0⟩ | ⟨g, c, hv, hl⟩
  · have : cs = [] := List.map_eq_nil_iff.1 h0
    subst this
    refine (of_nil w).mono ?_
    rintro e w' ⟨rfl, hb⟩
    exact ⟨_, rfl, Tab.nil, hb⟩
  · rw [List.length_map] at hv
    subst hv
    exact table_sg cs hok w g c htab hn
/-- A slice of the spec's tables. -/
def SgTabs (w : World) (v : Value) (ts : List (List Sg)) : Prop :=
  ∃ rs : List Value, Arr 0 w 27 5 v (rs.map sRow) ∧ rs.length = ts.length ∧ ∀ (i : Nat) r t, rs[i]? = some r → ts[i]? = some t → Tab 0 w 31 27 5 r (t.map fun x => [x.cells])
set_option maxRecDepth 20000 in
set_option maxHeartbeats 4000000 in
theorem sg_tabs (ts : List (List Sg)) (hok : ∀ t ∈ ts, ∀ x ∈ t, x.Ok) (hts : ∀ t ∈ ts, t.length ≤ 100) (hn : ts.length ≤ 100) (w : World) (g c : Nat) (hst : SgTabs w (.slice (some ⟨g, 0, none⟩) ts.length c) ts) :
    Calls Tryz.prog 13 #[.slice (some ⟨g, 0, none⟩) ts.length c] w fun e w' => ∃ v, e = .returned v ∧ TabVals w' 29 37 v (ts.map fun t => t.map Sg.atom) ∧ Below w.heap.size w w' := by
  obtain ⟨rs, hr1, hr2, hr3⟩ := hst
  have HR := Lib.hid hr1
  have HR2 := Lib.hid hr2
  have HR3 : Hid (∀ (i : Nat) r t, rs[i]? = some r → ts[i]? = some t → Tab 0 w 31 27 5 r (t.map fun x => [x.cells])) := Lib.hid hr3
  have HOK := Lib.hid hok
  have HTS := Lib.hid hts
  obtain ⟨n, hnn⟩ : ∃ n, n = ts.length := ⟨_, rfl⟩
  have HN : Hid (n = ts.length) := hnn
  rw [← hnn] at hn HR ⊢
  clear hnn hr1 hr2 hr3 hok hts
  go_enter Tryz.func13, Tryz.ntmps13
  go_wp2_with fail
  go_loopw [3, 4] (fun v i wr => ∃ (k : Nat) (fs : List Value), k ≤ n ∧ i = .int .i64 k ∧ fs.length = k ∧ Arr w.heap.size wr 37 4 v (fs.map tabRow) ∧ Held (TabOf 29 37 (ts.map fun t => t.map Sg.atom)) v.ownBlock.toList wr fs ∧ Below w.heap.size w wr) (fun _ i _ => n - (intOf i).toNat)
  case atStart => exact ⟨0, [], Nat.zero_le _, rfl, rfl, Arr.nil _ _ _ _, Held.nil, Below.refl _ _⟩
  case round =>
    obtain ⟨k, fs, hk, rfl, hfl, ha, hh, hb⟩ := hrel
    have HA := Lib.hid ha
    have HB := Lib.hid hb
    have HH := Lib.hid hh
    have HFL := Lib.hid hfl
    have hbs := hb.size
    clear ha hb hh hfl
    by_cases hlt : k < n
    · obtain ⟨t, ht⟩ := one_at HN.out.symm hlt
      obtain ⟨r, hr⟩ := one_at (HR2.out.trans HN.out.symm) hlt
      have hrow2 := HR.out.keep HB.out
      have hxx : (rs.map sRow)[k]? = some (sRow r) := by rw [List.getElem?_map, hr]; rfl
      have c0 := hrow2.cell0 hxx (u := .int .i64 5) rfl
      have c1 := hrow2.cell hxx (j := 1) (u := .int .i64 0) rfl
      have c2 := hrow2.cell hxx (j := 2) (u := .int .i64 0) rfl
      have c3 := hrow2.cell hxx (j := 3) (u := .string ⟨#[]⟩) rfl
      have c4 := hrow2.cell hxx (j := 4) (u := r) rfl
      have HT := Lib.hid ((HR3.out k r t hr ht).keep HB.out)
      have HTO : Hid (∀ x ∈ t, x.Ok) := Lib.hid (HOK.out t (List.mem_of_getElem? ht))
      have HTL : Hid (t.length ≤ 100) := Lib.hid (HTS.out t (List.mem_of_getElem? ht))
      have HX := Lib.hid ht
      have HL4 : Hid ((fs.map tabRow).length ≤ 4000000000) := (by show _ ≤ _; rw [List.length_map, HFL.out]; omega)
      clear hrow2 hxx ht hr
      go_wp2_with fail
      refine (tab_sg t HTO.out r _ HT.out HTL.out).mono ?_
      rintro e w2 ⟨v2, rfl, ht2, hb2⟩
      have HT2 := Lib.hid ht2
      have HA2 := Lib.hid (HA.out.keep hb2)
      have HH2 := Lib.hid (HH.out.below hb2)
      have HB2 : Hid (Below w.heap.size w w2) := HB.out.trans (hb2.mono hbs)
      have hwr := hb2.size
      have HO := Lib.hid (tabRow_one ht2.cases)
      clear ht2 hb2
      go_wp2_with (at_builtin; refine append_at rfl (.tmp 11) (.tmp 17) 29 rfl w.heap.size 37 _ 4 56 Tryz.underlying29 info37 rfl (by decide) (by decide) _ _ rfl (HA2.out.alloc _) ⟨w2.heap.size, 0, none⟩ 1 (tabRow v2) rfl rfl (news_cells _ _ _ _ rfl) (List.all_eq_true.1 HO.out) HL4.out (le_alloc1 HB2.out.size _) ?_; intro v3 w3 ha3 hg3 hv3 hb3)
      have hh3 := held_app (HH2.out.below ((Below.refl _ _).alloc (Nat.le_refl _) _)) ⟨wr.heap.size, w2.heap.size, fun j hj => .inl (Value.own_lt_arr HA.out j hj), (by
        have := HT2.out.on.below ((Below.refl _ _).alloc (Nat.le_refl _) (.cells (tabRow v2).toArray 37))
        refine ⟨this.1, fun w' hw' u hu => ?_⟩
        rw [HFL.out, List.getElem?_map, HX.out] at hu
        cases hu
        rw [List.map_map]; exact this.2 w' hw')⟩ hg3 hv3
      refine ⟨⟨k + 1, fs ++ [v2], by omega, by go_num, by simp [HFL.out], by rw [List.map_append]; exact ha3, hh3, (HB2.out.alloc HB2.out.size _).trans hb3⟩, by simp [intOf]; omega⟩
    · have hkn : k = n := by omega
      go_wp2_with fail
      go_ret
      exact ⟨_, rfl, TabVals.of_held HA.out (by rw [HFL.out, hkn, List.length_map, HN.out]) HH.out, HB.out⟩
end Go.Proofs.YtoebgbojpkflnaaGreatDoor
