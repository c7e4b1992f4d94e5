/- Proof of FnSquaresJoined, a part: The laws' all at tables; the thin package's in at tables. -/
import Derived.Test.YtoebgbojpkflnaaGreatDoorJOfTab
namespace Go.Proofs.YtoebgbojpkflnaaGreatDoor
open Go Go.RowKit
set_option maxRecDepth 20000 in
set_option maxHeartbeats 2000000 in
theorem of_nil (w : World) : Calls Tryz.prog 51 #[.agg #[.int .i64 5, .int .i64 0, .int .i64 0, .string ⟨#[]⟩, .slice none 0 0]] w fun e w' => e = .returned (.agg #[.int .i64 5, .float .f64 0, .string ⟨#[]⟩, .slice none 0 0]) ∧ Below w.heap.size w w' := by
  go_enter Tryz.func51, Tryz.ntmps51
  go_wp2_with fail
  refine wp_loop_rounds 1 ?_
  rw [rounds_succ]
  go_wp2
  go_returns
  exact ⟨rfl, by go_grown⟩
def sRow (r : Value) : List Value := [.int .i64 5, .int .i64 0, .int .i64 0, .string ⟨#[]⟩, r]
theorem one_at {α : Type} {xs : List α} {n i : Nat} (h : xs.length = n) (hi : i < n) : ∃ x, xs[i]? = some x := ⟨_, List.getElem?_eq_getElem (by omega)⟩
/-- What holds of table i among tables. -/
abbrev TabOf (eo e : Nat) (ts : List (List Atom)) (i : Nat) (w : World) (r : Value) : Prop := ∀ t, ts[i]? = some t → Tab 0 w eo e 4 r (t.map fun a => [a.cells])
theorem Value.own_lt_arr {B : Nat} {w : World} {e sz : Nat} {v : Value} {xs : List (List Value)} (h : Arr B w e sz v xs) : ∀ k, v.ownBlock = some k → k < w.heap.size := fun k hk => (h.row.lt k hk).2
theorem info66 : (Tryz.prog.info? 66).map (fun i => (i.zero, i.size, i.bytes)) = some (some (.slice none 0 0), 1, 24) := by kernel_rfl
set_option maxRecDepth 20000 in
set_option maxHeartbeats 8000000 in
theorem in_tabs (ts : List (List Atom)) (hts : ∀ t ∈ ts, t.length ≤ 100) (hn : ts.length ≤ 100) (w : World) (g c : Nat) (hst : TabVals w 29 37 (.slice (some ⟨g, 0, none⟩) ts.length c) ts) :
    Calls Tryz.prog 54 #[.slice (some ⟨g, 0, none⟩) ts.length c] w fun e w' => ∃ v, e = .returned v ∧ TabVals w' 66 64 v ts ∧ Below w.heap.size w w' := by
  obtain ⟨rs, hr1, hr2, hr3⟩ := hst
  have HR := Lib.hid hr1
  have HR2 := Lib.hid hr2
  have HR3 : Hid (∀ (i : Nat) r t, rs[i]? = some r → ts[i]? = some t → Tab 0 w 29 37 4 r (t.map fun a => [a.cells])) := Lib.hid hr3
  have HTS := Lib.hid hts
  obtain ⟨n, hnn⟩ : ∃ n, n = ts.length := ⟨_, rfl⟩
  have HN : Hid (n = ts.length) := hnn
  rw [← hnn] at hn HR ⊢
  clear hnn hr1 hr2 hr3 hts
  go_enter Tryz.func54, Tryz.ntmps54
  go_wp2_with fail
  go_loopw [3, 11] (fun v i wr => ∃ (k : Nat) (fs : List Value), k ≤ n ∧ i = .int .i64 k ∧ fs.length = k ∧ Arr w.heap.size wr 64 4 v (fs.map tabRow) ∧ Held (TabOf 66 64 ts) v.ownBlock.toList wr fs ∧ Below w.heap.size w wr) (fun _ i _ => n - (intOf i).toNat)
  case atStart => exact ⟨0, [], Nat.zero_le _, rfl, rfl, Arr.nil _ _ _ _, Held.nil, Below.refl _ _⟩
  case round =>
    obtain ⟨k, fs, hk, rfl, hfl, ha, hh, hb⟩ := hrel
    have HA := Lib.hid ha
    have HB := Lib.hid hb
    have HH := Lib.hid hh
    have HFL := Lib.hid hfl
    have hbs := hb.size
    clear ha hb hh hfl
    by_cases hlt : k < n
    · obtain ⟨t, ht⟩ := one_at HN.out.symm hlt
      obtain ⟨r, hr⟩ := one_at (HR2.out.trans HN.out.symm) hlt
      have hrow2 := HR.out.keep HB.out
      have hxx : (rs.map tabRow)[k]? = some (tabRow r) := by rw [List.getElem?_map, hr]; rfl
      have c0 := hrow2.cell0 hxx (u := .int .i64 5) rfl
      have c1 := hrow2.cell hxx (j := 1) (u := .float .f64 0) rfl
      have c2 := hrow2.cell hxx (j := 2) (u := .string ⟨#[]⟩) rfl
      have c3 := hrow2.cell hxx (j := 3) (u := r) rfl
      have HT := Lib.hid ((HR3.out k r t hr ht).keep HB.out)
      have HTL : Hid (t.length ≤ 100) := Lib.hid (HTS.out t (List.mem_of_getElem? ht))
      have HX := Lib.hid ht
      have HL4 : Hid ((fs.map tabRow).length ≤ 4000000000) := (by show _ ≤ _; rw [List.length_map, HFL.out]; omega)
      obtain ⟨m, hm⟩ : ∃ m, m = t.length := ⟨_, rfl⟩
      have HM := Lib.hid hm
      have hm100 : m ≤ 100 := (by rw [hm]; exact HTL.out)
      have HRC : Hid ((r = .slice none 0 0 ∧ m = 0) ∨ ∃ g2 c2, r = .slice (some ⟨g2, 0, none⟩) m c2 ∧ g2 < wr.heap.size) := (by
        rcases HT.out.shape with ⟨h1, h2⟩ | ⟨g2, c2, h1, h2⟩
        · exact .inl ⟨h1, by rw [hm]; exact List.length_eq_zero_iff.2 (List.map_eq_nil_iff.1 h2)⟩
        · exact .inr ⟨g2, c2, by rw [h1, List.length_map, hm], h2⟩)
      clear hrow2 hxx ht hr hm
      rename World => wo
      rcases HRC.out with ⟨rfl, rfl⟩ | ⟨g2, cp, rfl, hg2⟩
      · have ht0 : t = [] := List.length_eq_zero_iff.1 HM.out.symm
        subst ht0
        go_wp2_with fail
        refine wp_loop_rounds 1 ?_
        rw [rounds_succ]
        go_wp2_with (at_builtin; refine append_at rfl (.tmp 37) (.tmp 39) 66 rfl w.heap.size 64 _ 4 56 Tryz.underlying66 info64 rfl (by decide) (by decide) _ _ rfl (((HA.out.alloc _).alloc _).alloc _) ⟨wo.heap.size + 1 + 1, 0, none⟩ 1 (tabRow (.slice none 0 0)) rfl rfl (news_cells _ _ _ _ (by simp)) (List.all_eq_true.1 (tabRow_one (.inl rfl))) HL4.out (le_alloc3 hbs _ _ _) ?_; intro v3 w3 ha3 hg3 hv3 hb3)
        have hh3 := held_app ((HH.out.below (((Below.refl _ _).alloc (Nat.le_refl _) _).alloc (by simp) _)).below ((Below.refl _ _).alloc (Nat.le_refl _) _)) ⟨wo.heap.size, wo.heap.size, fun j hj => .inl (Value.own_lt_arr HA.out j hj), (by
          refine ⟨by simp; omega, fun w' hw' u hu => ?_⟩
          rw [HFL.out, HX.out] at hu
          cases hu
          exact Tab.nil)⟩ hg3 hv3
        refine ⟨⟨k + 1, fs ++ [.slice none 0 0], by omega, by go_num, by simp [HFL.out], by rw [List.map_append]; exact ha3, hh3, (((HB.out.alloc hbs _).alloc (le_alloc1 hbs _) _).alloc (le_alloc2 hbs _ _) _).trans hb3⟩, by simp [intOf]; omega⟩
      · go_wp2_with fail
        refine abs_wp (fun w' => Blk w' wo.heap.size 37 [.int .i64 5, .float .f64 0, .string ⟨#[]⟩, .slice (some ⟨g2, 0, none⟩) m cp] ∧ Blk w' (wo.heap.size + 1) 64 [.int .i64 5, .float .f64 0, .string ⟨#[]⟩, .slice none 0 0] ∧ Below wo.heap.size wo w') ⟨(Blk.new wo 37 _).alloc _, blk_at (by simp) (Blk.new (wo.alloc _) 64 _), by go_grown⟩ ?_
        rintro w1 ⟨hb37, hb64, hbl⟩
        go_loopw [25] (fun i wq => ∃ (j : Nat) (vk : Value), j ≤ m ∧ i = .int .i64 j ∧ Blk wq (wo.heap.size + 1) 64 [.int .i64 5, .float .f64 0, .string ⟨#[]⟩, vk] ∧ Tab (wo.heap.size + 1 + 1) wq 66 64 4 vk ((t.take j).map fun a => [a.cells]) ∧ Below wo.heap.size wo wq) (fun i _ => m - (intOf i).toNat)
        case atStart => exact ⟨0, .slice none 0 0, Nat.zero_le _, rfl, hb64, Tab.nil, hbl⟩
        case round =>
          obtain ⟨j, vk, hj, rfl, h64, htk, hbk⟩ := hrel
          have H64 := Lib.hid h64
          have HTK := Lib.hid htk
          have HBK := Lib.hid hbk
          clear h64 htk hbk hb37 hb64 hbl c0 c1 c2 c3
          by_cases hjm : j < m
          · obtain ⟨x, hx⟩ := one_at HM.out.symm hjm
            obtain ⟨q, hq, haq⟩ := HT.out.at (i := j) (x := [x.cells]) (by rw [List.getElem?_map, hx]; rfl)
            have er : wr.cell? ⟨g2, j, none⟩ = some q := (HBK.out.cell (p := ⟨g2, j, none⟩) hg2).trans hq
            have HAR := Lib.hid (haq.keep HBK.out)
            obtain ⟨g1, c1, hr1⟩ : ∃ g1 c1, q = .slice (some ⟨g1, 0, none⟩) 1 c1 := (by
              rcases haq.shape with ⟨_, h⟩ | ⟨g1, c1, h, _⟩
              · cases h
              · exact ⟨g1, c1, h⟩)
            subst hr1
            have HXX := Lib.hid hx
            have d3 := H64.out.get 3 rfl
            have l64 := H64.out.lt
            have HTR : Hid (∀ y ∈ [x.cells], Trio y) := (by show ∀ y ∈ [x.cells], Trio y; intro y hy; simp at hy; subst hy; exact x.trio)
            have HL5 : Hid (((t.take j).map fun a => [a.cells]).length ≤ 4000000000) := by
              have := List.length_take_le j t; show _ ≤ _; rw [List.length_map]; omega
            clear hq haq hx
            go_wp2_with fail
            go_region_law (first
              | (refine step_fn1 (by rfl) 54 Tryz.f54 (.tmp 31) 29 (by rfl) Tryz.func54 (by kernel_rfl) (by rfl) (.slice (some ⟨g1, 0, none⟩) 1 c1) (by simp [Act.eval, Act.put]) (in_plain [x.cells] (.slice (some ⟨g1, 0, none⟩) 1 c1) _ g1 c1 rfl (HAR.out.keep (by go_grown)) HTR.out (by simp)) ?_; rintro e w2 ⟨v2, rfl, har2, hb2⟩; refine ⟨v2, rfl, ?_⟩; have hb2' : Below wr.heap.size wr w2 := Below.trans (by go_grown) hb2; obtain ⟨g3, c3, rfl⟩ : ∃ g3 c3, v2 = .slice (some ⟨g3, 0, none⟩) 1 c3 := (by rcases har2.shape with ⟨_, h⟩ | ⟨g3, c3, h, _⟩; cases h; exact ⟨g3, c3, h⟩); have d3' := (H64.out.below hb2' l64).get 3 rfl; have l64' := (H64.out.below hb2' l64).lt; have HAR2 : Hid (Arr wr.heap.size w2 64 4 (.slice (some ⟨g3, 0, none⟩) 1 c3) [x.cells]) := Lib.hid har2; have HB2 := Lib.hid hb2'; clear har2 hb2 hb2')
              | (refine step_append_tab (by rfl) (.tmp 30) (.tmp 33) 62 (by rfl) (wo.heap.size + 1 + 1) 66 64 4 _ 24 Tryz.underlying62 info66 rfl (by decide) vk _ (by simp [Act.eval]) (HTK.out.keep (HB2.out.trans (Below.mono (by go_grown) HB2.out.size))) ⟨w2.heap.size, 0, none⟩ 1 (.slice (some ⟨g3, 0, none⟩) 1 c3) [x.cells] (by simp [Act.eval]) (news_cells w2 66 [.slice (some ⟨g3, 0, none⟩) 1 c3] w2.heap.size rfl 0 _ rfl) rfl ((HAR2.out.base (by omega)).alloc _) (fun k hk e => by have h1 := HTK.out.own_lt k hk; have h2 := (HAR2.out.row.lt k e).1; omega) HL5.out (by have := HB2.out.size; simp; omega) ?_; intro v3 w3 ht3 hg3; obtain ⟨g4, n4, c4, rfl⟩ : ∃ g4 n4 c4, v3 = .slice (some ⟨g4, 0, none⟩) n4 c4 := (by rcases ht3.shape with ⟨_, h⟩ | ⟨g4, c4, h, _⟩; simp at h; exact ⟨g4, _, c4, h⟩); have h64c := ((H64.out.below HB2.out l64).alloc (.cells #[.slice (some ⟨g3, 0, none⟩) 1 c3] 66)).grownBy' hg3 (fun e => by have := HTK.out.own_ge _ e; omega); have k3 := h64c.get 3 rfl; have kf := h64c.free 3; have HT3 := Lib.hid ht3; have HB3 : Hid (Below (wo.heap.size + 1 + 1) wr w3) := Lib.hid (((HB2.out.mono (by omega)).alloc (by have := HB2.out.size; omega) _).trans ((Below.refl _ _).grown hg3 (by have := HB2.out.size; simp; omega) (fun k hk => HTK.out.own_ge k hk))); clear h64c ht3 hg3))
            all_goals
              have HT4 : Hid (Tab (wo.heap.size + 1 + 1) w3 66 64 4 (.slice (some ⟨g4, 0, none⟩) n4 c4) ((t.take (j + 1)).map fun a => [a.cells])) := (by show Tab _ _ _ _ _ _ _; rw [take_snoc HXX.out, List.map_append]; exact HT3.out)
              clear HT3
              go_wp2_with fail
              refine ⟨⟨j + 1, _, by omega, by go_num, (H64.out.below HB3.out (by omega)).set 3 _, HT4.out.above (fun i hi hB => Below.heap_setCell _ _ _ i (by show i ≠ wo.heap.size + 1; omega)), (HBK.out.trans (HB3.out.mono (by omega))).setCell (by show wo.heap.size ≤ wo.heap.size + 1; omega) _⟩, by simp [intOf]; omega⟩
          · have hjm2 : j = m := by omega
            have d0 := H64.out.get 0 rfl
            have d1 := H64.out.get 1 rfl
            have d2 := H64.out.get 2 rfl
            have d3 := H64.out.get 3 rfl
            have HT9 := Lib.hid HTK.out
            have HO := Lib.hid (tabRow_one HTK.out.cases)
            have HA2 := Lib.hid (HA.out.keep HBK.out)
            have HH2 := Lib.hid (HH.out.below HBK.out)
            have HB2 : Hid (Below w.heap.size w wr) := HB.out.trans (HBK.out.mono hbs)
            have hwr := HBK.out.size
            go_wp2_with (at_builtin; refine append_at rfl (.tmp 37) (.tmp 39) 66 rfl w.heap.size 64 _ 4 56 Tryz.underlying66 info64 rfl (by decide) (by decide) _ _ rfl (HA2.out.alloc _) ⟨wr.heap.size, 0, none⟩ 1 (tabRow vk) rfl rfl (news_cells _ _ _ _ rfl) (List.all_eq_true.1 HO.out) HL4.out (le_alloc1 HB2.out.size _) ?_; intro v3 w3 ha3 hg3 hv3 hb3)
            have hh3 := held_app (HH2.out.below ((Below.refl _ _).alloc (Nat.le_refl _) _)) ⟨wo.heap.size + 1 + 1, wr.heap.size, fun i hi => .inl (by have := Value.own_lt_arr HA.out i hi; omega), (by
              have := HT9.out.on.below ((Below.refl _ _).alloc (Nat.le_refl _) (.cells (tabRow vk).toArray 64))
              refine ⟨this.1, fun w' hw' u hu => ?_⟩
              rw [HFL.out, HX.out] at hu
              cases hu
              have h9 := this.2 w' hw'
              rw [hjm2, HM.out, List.take_length] at h9
              exact h9)⟩ hg3 hv3
            refine ⟨⟨k + 1, fs ++ [vk], by omega, by go_num, by simp [HFL.out], by rw [List.map_append]; exact ha3, hh3, (HB2.out.alloc HB2.out.size _).trans hb3⟩, by simp [intOf]; omega⟩
    · have hkn : k = n := by omega
      go_wp2_with fail
      go_ret
      exact ⟨_, rfl, TabVals.of_held HA.out (by rw [HFL.out, hkn, HN.out]) HH.out, HB.out⟩
end Go.Proofs.YtoebgbojpkflnaaGreatDoor
