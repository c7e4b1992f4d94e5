/- The spec's Flat, sumsValues and SumsA; the laws' doubtful. -/
import Derived.Test.YtoebgbojpkflnaaGreatDoorSpecB
namespace Go.Proofs.YtoebgbojpkflnaaGreatDoor
open Go Go.RowKit
/-- The cells of a value of the spec that is no matrix. -/
def Plain5 (x : List Value) : Prop := ∃ (k a d : Int), k ≠ 5 ∧ x = [.int .i64 k, .int .i64 a, .int .i64 d, .string ⟨#[]⟩, .slice none 0 0]
theorem Cel.plain5 (c : Cel) : Plain5 c.cells := by
  rcases c with n | x | _
  · exact ⟨1, _, _, by decide, rfl⟩
  · cases x <;> exact ⟨3, _, _, by decide, rfl⟩
  · exact ⟨0, _, _, by decide, rfl⟩
theorem Plain5.one {x : List Value} (h : Plain5 x) : ∀ u ∈ x, u.oneCell' = true := by
  obtain ⟨k, a, d, _, rfl⟩ := h
  intro u hu; simp at hu; rcases hu with rfl | rfl | rfl | rfl | rfl <;> rfl
theorem Plain5.len {x : List Value} (h : Plain5 x) : x.length = 5 := by
  obtain ⟨k, a, d, _, rfl⟩ := h; rfl
set_option maxRecDepth 20000 in
set_option maxHeartbeats 4000000 in
theorem flat_one (x : List Value) (hx : Plain5 x) (w : World) (g c : Nat) (hrow : Arr 0 w 27 5 (.slice (some ⟨g, 0, none⟩) 1 c) [x]) :
    Calls Tryz.prog 66 #[.slice (some ⟨g, 0, none⟩) 1 c] w fun e w' => ∃ v, e = .returned v ∧ Arr w.heap.size w' 27 5 v [x] ∧ Below w.heap.size w w' := by
  obtain ⟨k, a, d, hk5, rfl⟩ := hx
  have hk : (k != 5) = true := (by simpa using hk5)
  have HR := Lib.hid hrow
  have c0 := hrow.cell0 (i := 0) (u := .int .i64 k) rfl rfl
  have c1 := hrow.cell (i := 0) (j := 1) (u := .int .i64 a) rfl rfl
  have c2 := hrow.cell (i := 0) (j := 2) (u := .int .i64 d) rfl rfl
  have c3 := hrow.cell (i := 0) (j := 3) (u := .string ⟨#[]⟩) rfl rfl
  have c4 := hrow.cell (i := 0) (j := 4) (u := .slice none 0 0) rfl rfl
  have hg := World.block_lt_of_cell? _ _ c0
  clear hrow
  go_enter Tryz.func66, Tryz.ntmps66
  go_wp2_with fail
  go_loopw [3, 4] (fun v i wr => ∃ j : Nat, j ≤ 1 ∧ i = .int .i64 j ∧ Arr w.heap.size wr 27 5 v (([[.int .i64 k, .int .i64 a, .int .i64 d, .string ⟨#[]⟩, .slice none 0 0]] : List (List Value)).take j) ∧ (j = 0 → v = .slice none 0 0 ∧ wr = w) ∧ Below w.heap.size w wr) (fun _ i _ => 1 - (intOf i).toNat)
  case atStart => exact ⟨0, by omega, rfl, Arr.nil _ _ _ _, fun _ => ⟨rfl, rfl⟩, Below.refl _ _⟩
  case round =>
    obtain ⟨j, hj, rfl, ha, hj0, hb⟩ := hrel
    by_cases h0 : j = 0
    · subst h0
      obtain ⟨rfl, rfl⟩ := hj0 rfl
      clear ha hb hj0
      go_wp2_with (at_builtin; refine append_one rfl (.tmp 18) (.tmp 23) 31 rfl wr.heap.size 27 _ 5 64 Tryz.underlying31 info27 rfl (by decide) (by decide) (.slice none 0 0) [] rfl (Arr.nil _ _ _ _) ⟨wr.heap.size, 0, none⟩ 1 [.int .i64 k, .int .i64 a, .int .i64 d, .string ⟨#[]⟩, .slice none 0 0] rfl rfl (news_cells _ _ _ _ rfl) (Plain5.one ⟨k, a, d, hk5, rfl⟩) (by simp) (le_alloc1 (Nat.le_refl _) _) ?_; intro v2 w2 ha2 hb2)
      refine ⟨⟨1, by omega, by go_num, by simpa using ha2, fun h => by omega, Below.trans ((Below.refl _ _).alloc (Nat.le_refl _) _) hb2⟩, by simp [intOf]⟩
    · have h1 : j = 1 := by omega
      subst h1
      have HA := Lib.hid ha
      have HB := Lib.hid hb
      clear ha hb hj0 c0 c1 c2 c3 c4
      go_wp2_with fail
      go_ret
      exact ⟨_, rfl, HA.out, HB.out⟩
def FlatRel (w : World) (xs : List (List Value)) (v i : Value) (wr : World) : Prop := (i = .int .i64 0 ∧ v = .slice none 0 0 ∧ wr = w) ∨ (i = .int .i64 1 ∧ Arr w.heap.size wr 27 5 v xs ∧ Below w.heap.size w wr)
set_option maxRecDepth 20000 in
set_option maxHeartbeats 4000000 in
theorem flat_tab (cs : List Cel) (hn : cs.length ≤ 100) (r : Value) (w : World) (g c : Nat) (hrow : Arr 0 w 27 5 (.slice (some ⟨g, 0, none⟩) 1 c) [[.int .i64 5, .int .i64 0, .int .i64 0, .string ⟨#[]⟩, r]]) (htab : Tab 0 w 31 27 5 r (cs.map fun x => [x.cells])) :
    Calls Tryz.prog 66 #[.slice (some ⟨g, 0, none⟩) 1 c] w fun e w' => ∃ v, e = .returned v ∧ Arr w.heap.size w' 27 5 v (cs.map Cel.cells) ∧ Below w.heap.size w w' := by
  have HR := Lib.hid hrow
  have HT := Lib.hid htab
  have HL := Lib.hid hn
  have hg := World.block_lt_of_cell? _ _ (hrow.cell0 (i := 0) (u := .int .i64 5) rfl rfl)
  clear hrow htab
  obtain ⟨n, hnn⟩ : ∃ n, n = cs.length := ⟨_, rfl⟩
  have HN := Lib.hid hnn
  rw [← hnn] at hn
  clear hnn
  have HRV : Hid ((r = .slice none 0 0 ∧ n = 0) ∨ ∃ g2 c2, r = .slice (some ⟨g2, 0, none⟩) n c2 ∧ g2 < w.heap.size) := (by
    rcases HT.out.shape with ⟨h1, h2⟩ | ⟨g2, c2, h1, h2⟩
    · exact .inl ⟨h1, by rw [HN.out]; exact List.length_eq_zero_iff.2 (List.map_eq_nil_iff.1 h2)⟩
    · exact .inr ⟨g2, c2, by rw [h1, List.length_map, HN.out], h2⟩)
  go_enter Tryz.func66, Tryz.ntmps66
  go_wp2_with fail
  go_loopw [3, 4] (fun v i wr => FlatRel w (cs.map Cel.cells) v i wr) (fun _ i _ => 1 - (intOf i).toNat)
  case atStart => exact .inl ⟨rfl, rfl, rfl⟩
  case round =>
    rcases hrel with ⟨rfl, rfl, rfl⟩ | ⟨rfl, ha, hb⟩
    · rename World => wo
      have c0 := HR.out.cell0 (i := 0) (u := .int .i64 5) rfl rfl
      have c4 := HR.out.cell (i := 0) (j := 4) (u := r) rfl rfl
      rcases HRV.out with ⟨rfl, rfl⟩ | ⟨g2, c2, rfl, hg2⟩
      · go_wp2_with fail
        refine wp_loop_rounds 1 ?_
        rw [rounds_succ]
        go_wp2_with fail
        refine ⟨.inr ⟨rfl, ?_, Below.refl _ _⟩, by simp [intOf]⟩
        have : cs = [] := List.length_eq_zero_iff.1 HN.out.symm
        subst this
        exact Arr.nil _ _ _ _
      · go_wp2_with fail
        go_loopw [3, 5] (fun v i wr => ∃ k : Nat, k ≤ n ∧ i = .int .i64 k ∧ Arr wo.heap.size wr 27 5 v ((cs.take k).map Cel.cells) ∧ Below wo.heap.size wo wr) (fun _ i _ => n - (intOf i).toNat)
        case atStart => exact ⟨0, Nat.zero_le _, rfl, Arr.nil _ _ _ _, Below.refl _ _⟩
        case round =>
          obtain ⟨k, hk, rfl, ha, hb⟩ := hrel
          have HA := Lib.hid ha
          have HB := Lib.hid hb
          clear ha hb c0 c4
          have c0 := (HR.out.keep HB.out).cell0 (i := 0) (u := .int .i64 5) rfl rfl
          have c4 := (HR.out.keep HB.out).cell (i := 0) (j := 4) (u := .slice (some ⟨g2, 0, none⟩) n c2) rfl rfl
          by_cases hlt : k < n
          · obtain ⟨x, hx⟩ : ∃ x, cs[k]? = some x := ⟨_, List.getElem?_eq_getElem (by rw [← HN.out]; exact hlt)⟩
            obtain ⟨q, hq, haq⟩ := HT.out.at (i := k) (x := [x.cells]) (by rw [List.getElem?_map, hx]; rfl)
            obtain ⟨g1, c1, hr1⟩ : ∃ g1 c1, q = .slice (some ⟨g1, 0, none⟩) 1 c1 := (by
              rcases haq.shape with ⟨_, h⟩ | ⟨g1, c1, h, _⟩
              · cases h
              · exact ⟨g1, c1, h⟩)
            subst hr1
            have er : wr.cell? ⟨g2, k, none⟩ = some (.slice (some ⟨g1, 0, none⟩) 1 c1) := (HB.out.cell (p := ⟨g2, k, none⟩) hg2).trans hq
            have HQ := Lib.hid (haq.keep HB.out)
            have HX := Lib.hid hx
            have HL4 : Hid (((cs.take k).map Cel.cells).length + 1 ≤ 4000000000) := by
              have := List.length_take_le k cs; show _ ≤ _; rw [List.length_map]; omega
            clear hq haq hx
            go_wp2_with fail
            refine (flat_one x.cells x.plain5 _ g1 c1 HQ.out).mono ?_
            rintro e w2 ⟨v2, rfl, ha2, hb2⟩
            have HA2 := Lib.hid ha2
            have HB2 : Hid (Below wo.heap.size wo w2) := HB.out.trans (hb2.mono HB.out.size)
            have HA1 := Lib.hid (HA.out.keep hb2)
            clear ha2 hb2
            go_wp2_with (at_builtin; refine append_two rfl (.tmp 35) (.tmp 44) 31 rfl wo.heap.size 27 _ 5 64 Tryz.underlying31 info27 rfl (by decide) (by decide) _ _ rfl HA1.out v2 _ [x.cells] rfl HA2.out (by simp) (by intro y hy; simp at hy; subst hy; exact x.plain5.one) HL4.out HB2.out.size ?_; intro v3 w3 ha3 hb3)
            refine ⟨⟨k + 1, by omega, by go_num, by rw [take_snoc HX.out, List.map_append]; exact ha3, HB2.out.trans hb3⟩, by simp [intOf]; omega⟩
          · have hkn : k = n := by omega
            subst hkn
            go_wp2_with fail
            refine ⟨.inr ⟨rfl, ?_, HB.out⟩, by simp [intOf]⟩
            have := HA.out
            rw [HN.out, List.take_length] at this
            simpa using this
    · have HA := Lib.hid ha
      have HB := Lib.hid hb
      clear ha hb
      go_wp2_with fail
      go_ret
      exact ⟨_, rfl, HA.out, HB.out⟩

theorem iCells_bool (x : Bool) : (Cel.bool x).cells = [.int .i64 3, .int .i64 (if x then 1 else 0), .int .i64 0, .string ⟨#[]⟩, .slice none 0 0] := by cases x <;> rfl
set_option maxRecDepth 20000 in
set_option maxHeartbeats 4000000 in
theorem values_any (cs : List Cel) (hok : ∀ x ∈ cs, x.Ok) (hn : cs.length ≤ 60) (r : Value) (w : World) (htab : Tab 0 w 31 27 5 r (cs.map fun x => [x.cells])) :
    Calls Tryz.prog 60 #[.agg #[.int .i64 5, .int .i64 0, .int .i64 0, .string ⟨#[]⟩, r]] w fun e w' => ∃ v, e = .returned v ∧ Arr w.heap.size w' 27 5 v ((nums cs).map iC) ∧ Below w.heap.size w w' := by
  have HOK := Lib.hid hok
  have HT := Lib.hid htab
  have HL := Lib.hid hn
  obtain ⟨n, hnn⟩ : ∃ n, n = cs.length := ⟨_, rfl⟩
  have HN := Lib.hid hnn
  rw [← hnn] at hn
  clear hnn hok htab
  go_enter Tryz.func60, Tryz.ntmps60
  go_wp2_with fail
  refine (flat_tab cs (Nat.le_trans HL.out (by omega)) r _ (w.heap.size + 1) 1 (arab_ofBlk (xs := [[.int .i64 5, .int .i64 0, .int .i64 0, .string ⟨#[]⟩, r]]) (blk_at (by simp) (Blk.new (w.alloc _) 27 [.int .i64 5, .int .i64 0, .int .i64 0, .string ⟨#[]⟩, r])) (by intro y hy; simp at hy; subst hy; rfl) (Nat.zero_le _) (by simp [maxLen])) (HT.out.keep (by go_grown))).mono ?_
  rintro e w2 ⟨v4, rfl, ha, hb⟩
  have HA := Lib.hid ha
  have HB2 : Hid (Below w.heap.size w w2) := Below.trans (by go_grown) (hb.mono (by simp; omega))
  clear hb
  rcases ha.shape with ⟨hv, h0⟩ | ⟨g, cap, hv, _, hg, hcap, _⟩
  · have hcs : cs = [] := List.map_eq_nil_iff.1 h0
    subst hv hcs
    clear ha h0
    go_wp2_with fail
    refine wp_loop_rounds 1 ?_
    rw [rounds_succ]
    go_wp2_with fail
    go_ret
    exact ⟨_, rfl, Arr.nil _ _ _ _, HB2.out⟩
  · rw [List.length_map, ← HN.out] at hv hcap
    subst hv
    clear ha
    go_wp2_with fail
    go_loopw [3, 5] (fun v i wr => ∃ k : Nat, k ≤ n ∧ i = .int .i64 k ∧ Arr w2.heap.size wr 27 5 v ((nums (cs.take k)).map iC) ∧ Below w2.heap.size w2 wr) (fun _ i _ => n - (intOf i).toNat)
    case atStart => exact ⟨0, Nat.zero_le _, rfl, Arr.nil _ _ _ _, Below.refl _ _⟩
    case round =>
      obtain ⟨k, hk, rfl, hv, hb⟩ := hrel
      have HV := Lib.hid hv
      have HB := Lib.hid hb
      have hbs := hb.size
      clear hv hb
      by_cases hlt : k < n
      · obtain ⟨x, hx⟩ : ∃ x, cs[k]? = some x := ⟨_, List.getElem?_eq_getElem (by rw [← HN.out]; exact hlt)⟩
        have hrow2 := HA.out.keep HB.out
        have hxx : (cs.map Cel.cells)[k]? = some x.cells := by rw [List.getElem?_map, hx]; rfl
        have HX : Hid (nums (cs.take (k + 1)) = nums (cs.take k) ++ x.num?.toList) := (by show _ = _; rw [take_snoc hx, nums_snoc])
        have hxok : x.Ok := HOK.out x (List.mem_of_getElem? hx)
        have HL4 : Hid (((nums (cs.take k)).map iC).length ≤ 4000000000) := (by
          show _ ≤ _
          have h1 := nums_len (cs.take k)
          have h2 := List.length_take_le k cs
          rw [List.length_map]; omega)
        clear hx
        rcases x with m | q | _
        · have hm : m ≤ 100000 := hxok
          have c0 := hrow2.cell0 hxx (u := .int .i64 1) rfl
          have c1 := hrow2.cell hxx (j := 1) (u := .int .i64 m) rfl
          have c2 := hrow2.cell hxx (j := 2) (u := .int .i64 1) rfl
          have c3 := hrow2.cell hxx (j := 3) (u := .string ⟨#[]⟩) rfl
          have c4 := hrow2.cell hxx (j := 4) (u := .slice none 0 0) rfl
          clear hrow2 hxx hxok
          go_wp2_with (at_builtin; refine append_one rfl (.tmp 22) (.tmp 27) 31 rfl w2.heap.size 27 _ 5 64 Tryz.underlying31 info27 rfl (by decide) (by decide) _ _ rfl (HV.out.alloc _) ⟨wr.heap.size, 0, none⟩ 1 (iC m) rfl rfl (news_cells _ _ _ _ rfl) (iCells_one _) HL4.out (le_alloc1 hbs _) ?_; intro v3 w3 ha3 hb3)
          refine ⟨⟨k + 1, by omega, by go_num, by rw [HX.out, List.map_append]; exact ha3, (HB.out.alloc hbs _).trans hb3⟩, by simp [intOf]; omega⟩
        · rw [iCells_bool] at hxx
          obtain ⟨m, hm⟩ : ∃ m : Nat, m = (if q then 1 else 0) := ⟨_, rfl⟩
          have hm1 : m ≤ 1 := (by cases q <;> simp at hm <;> omega)
          have hmi : (if q then (1 : Int) else 0) = (m : Int) := (by rw [hm]; cases q <;> rfl)
          rw [hmi] at hxx
          have HX2 : Hid ((Cel.bool q).num?.toList = [m]) := (by show _ = _; rw [hm]; cases q <;> rfl)
          have c0 := hrow2.cell0 hxx (u := .int .i64 3) rfl
          have c1 := hrow2.cell hxx (j := 1) (u := .int .i64 m) rfl
          have c2 := hrow2.cell hxx (j := 2) (u := .int .i64 0) rfl
          have c3 := hrow2.cell hxx (j := 3) (u := .string ⟨#[]⟩) rfl
          have c4 := hrow2.cell hxx (j := 4) (u := .slice none 0 0) rfl
          clear hrow2 hxx hxok hm hmi
          go_wp2_with fail
          refine (int_spec m (by omega) (by omega) _).mono ?_
          rintro e w5 ⟨rfl, hb5⟩
          have HV5 := Lib.hid (HV.out.keep hb5)
          have HB5 : Hid (Below w2.heap.size w2 w5) := HB.out.trans (hb5.mono hbs)
          have hbs5 := HB5.out.size
          clear hb5 c0 c1 c2 c3 c4
          go_wp2_with (at_builtin; refine append_one rfl (.tmp 31) (.tmp 38) 31 rfl w2.heap.size 27 _ 5 64 Tryz.underlying31 info27 rfl (by decide) (by decide) _ _ rfl (HV5.out.alloc _) ⟨w5.heap.size, 0, none⟩ 1 (iC m) rfl rfl (news_cells _ _ _ _ rfl) (iCells_one _) HL4.out (le_alloc1 hbs5 _) ?_; intro v3 w3 ha3 hb3)
          refine ⟨⟨k + 1, by omega, by go_num, by rw [HX.out, HX2.out, List.map_append]; exact ha3, (HB5.out.alloc hbs5 _).trans hb3⟩, by simp [intOf]; omega⟩
        · have c0 := hrow2.cell0 hxx (u := .int .i64 0) rfl
          clear hrow2 hxx hxok
          go_wp2_with fail
          refine ⟨⟨k + 1, by omega, by go_num, by rw [HX.out]; simpa [Cel.num?] using HV.out, HB.out⟩, by simp [intOf]; omega⟩
      · have hkn : k = n := by omega
        go_wp2_with fail
        go_ret
        exact ⟨_, rfl, by have := HV.out.base (B' := w.heap.size) HB2.out.size; rw [hkn, HN.out, List.take_length] at this; exact this, HB2.out.trans (HB.out.mono HB2.out.size)⟩
set_option maxRecDepth 20000 in
set_option maxHeartbeats 4000000 in
theorem doubtful_yes (k a d : Int) (hk5 : k ≠ 5) (h6 : (k == 6) = true) (w : World) :
    Calls Tryz.prog 25 #[.agg #[.int .i64 k, .int .i64 a, .int .i64 d, .string ⟨#[]⟩, .slice none 0 0]] w fun e w' => e = .returned (.bool true) ∧ Below w.heap.size w w' := by
  have HP : Hid (Plain5 [.int .i64 k, .int .i64 a, .int .i64 d, .string ⟨#[]⟩, .slice none 0 0]) := Lib.hid ⟨k, a, d, hk5, rfl⟩
  clear hk5
  go_enter Tryz.func25, Tryz.ntmps25
  go_wp2_with fail
  refine (flat_one [.int .i64 k, .int .i64 a, .int .i64 d, .string ⟨#[]⟩, .slice none 0 0] HP.out _ (w.heap.size + 1) 1 (arab_ofBlk (xs := [[.int .i64 k, .int .i64 a, .int .i64 d, .string ⟨#[]⟩, .slice none 0 0]]) (blk_at (by simp) (Blk.new (w.alloc _) 27 [.int .i64 k, .int .i64 a, .int .i64 d, .string ⟨#[]⟩, .slice none 0 0])) (by intro y hy; simp at hy; subst hy; rfl) (Nat.zero_le _) (by simp [maxLen]))).mono ?_
  rintro e w2 ⟨v4, rfl, ha, hb⟩
  have HB2 : Hid (Below w.heap.size w w2) := Below.trans (by go_grown) (hb.mono (by simp; omega))
  clear hb
  rcases ha.shape with ⟨_, h0⟩ | ⟨g, cap, hv, _, hg, hcap, _⟩
  · cases h0
  · have hv : v4 = .slice (some ⟨g, 0, none⟩) 1 cap := hv
    subst hv
    have c0 := ha.cell0 (i := 0) (u := .int .i64 k) rfl rfl
    clear ha
    go_wp2_with fail
    refine wp_loop_rounds 1 ?_
    rw [rounds_succ]
    go_wp2_with fail
    go_ret
    exact ⟨rfl, HB2.out⟩
set_option maxRecDepth 20000 in
set_option maxHeartbeats 4000000 in
theorem doubtful_no (k a d : Int) (hk5 : k ≠ 5) (h6 : (k == 6) = false) (w : World) :
    Calls Tryz.prog 25 #[.agg #[.int .i64 k, .int .i64 a, .int .i64 d, .string ⟨#[]⟩, .slice none 0 0]] w fun e w' => e = .returned (.bool false) ∧ Below w.heap.size w w' := by
  have HP : Hid (Plain5 [.int .i64 k, .int .i64 a, .int .i64 d, .string ⟨#[]⟩, .slice none 0 0]) := Lib.hid ⟨k, a, d, hk5, rfl⟩
  clear hk5
  go_enter Tryz.func25, Tryz.ntmps25
  go_wp2_with fail
  refine (flat_one [.int .i64 k, .int .i64 a, .int .i64 d, .string ⟨#[]⟩, .slice none 0 0] HP.out _ (w.heap.size + 1) 1 (arab_ofBlk (xs := [[.int .i64 k, .int .i64 a, .int .i64 d, .string ⟨#[]⟩, .slice none 0 0]]) (blk_at (by simp) (Blk.new (w.alloc _) 27 [.int .i64 k, .int .i64 a, .int .i64 d, .string ⟨#[]⟩, .slice none 0 0])) (by intro y hy; simp at hy; subst hy; rfl) (Nat.zero_le _) (by simp [maxLen]))).mono ?_
  rintro e w2 ⟨v4, rfl, ha, hb⟩
  have HB2 : Hid (Below w.heap.size w w2) := Below.trans (by go_grown) (hb.mono (by simp; omega))
  clear hb
  rcases ha.shape with ⟨_, h0⟩ | ⟨g, cap, hv, _, hg, hcap, _⟩
  · cases h0
  · have hv : v4 = .slice (some ⟨g, 0, none⟩) 1 cap := hv
    subst hv
    have c0 := ha.cell0 (i := 0) (u := .int .i64 k) rfl rfl
    clear ha
    go_wp2_with fail
    go_loopw [4] (fun i wr => (i = .int .i64 0 ∨ i = .int .i64 1) ∧ wr = w2) (fun i _ => 1 - (intOf i).toNat)
    case atStart => exact ⟨.inl rfl, rfl⟩
    case round =>
      obtain ⟨hi, rfl⟩ := hrel
      rcases hi with rfl | rfl
      · go_wp2_with fail
        refine ⟨⟨by first | exact .inr rfl | trivial, by first | rfl | trivial⟩, by simp [intOf]⟩
      · go_wp2_with fail
        go_ret
        exact ⟨rfl, HB2.out⟩

set_option maxRecDepth 20000 in
set_option maxHeartbeats 4000000 in
theorem sumsA_none (nm : ByteArray) (cs : List Cel) (hok : ∀ x ∈ cs, x.Ok) (hn : cs.length ≤ 60) (r : Value) (w : World) (hr : r = .slice none 0 0 ∨ ∃ g n c, r = .slice (some ⟨g, 0, none⟩) n c) (htab : Tab 0 w 31 27 5 r (cs.map fun x => [x.cells])) (hnn : nums cs = []) :
    Calls Tryz.prog 21 #[.string nm, .agg #[.int .i64 5, .int .i64 0, .int .i64 0, .string ⟨#[]⟩, r]] w fun e w' => e = .returned (.agg dCells.toArray) ∧ Below w.heap.size w w' := by
  have HOK := Lib.hid hok
  have HT := Lib.hid htab
  have HL := Lib.hid hn
  have HNN := Lib.hid hnn
  clear hnn
  clear hok htab hn
  have hone : ([.int .i64 5, .int .i64 0, .int .i64 0, .string ⟨#[]⟩, r] : List Value).all (fun u => u.oneCell') = true := (by rcases hr with h | ⟨g', n', c', h⟩ <;> rw [h] <;> rfl)
  have HO := Lib.hid hone
  clear hone
  rcases hr with rfl | ⟨rg, rn, rc, rfl⟩
  all_goals
    go_enter Tryz.func21, Tryz.ntmps21
    go_wp2_with fail
    refine (values_any cs HOK.out HL.out _ _ (HT.out.keep (by go_grown))).mono ?_
    rintro e w2 ⟨v5, rfl, ha, hb⟩
    have HA4 : Hid (Blk w2 (w.heap.size + 1) 27 [.int .i64 0, .int .i64 0, .int .i64 0, .string ⟨#[]⟩, .slice none 0 0]) := (blk_at (by simp) (Blk.new (w.alloc _) 27 [.int .i64 0, .int .i64 0, .int .i64 0, .string ⟨#[]⟩, .slice none 0 0])).below hb (by simp)
    have HB2 : Hid (Below w.heap.size w w2) := Below.trans (by go_grown) (hb.mono (by simp; omega))
    have lt2 := HA4.out.lt
    clear hb
    have HA := Lib.hid ha
    clear ha
    have h0 : ∃ A c, v5 = .slice A 0 c := (by
      have h := HA.out.shape
      rw [HNN.out] at h
      rcases h with ⟨h, _⟩ | ⟨g, c, h, _⟩
      · exact ⟨_, _, h⟩
      · exact ⟨_, _, h⟩)
    obtain ⟨A5, c5, rfl⟩ := h0
    go_wp2_with fail
    refine (doubt_any _).mono ?_
    rintro e w3 ⟨rfl, hb3⟩
    have HB3 : Hid (Below w.heap.size w w3) := HB2.out.trans (hb3.mono HB2.out.size)
    have HA5 : Hid (Blk w3 (w.heap.size + 1) 27 [.int .i64 0, .int .i64 0, .int .i64 0, .string ⟨#[]⟩, .slice none 0 0]) := HA4.out.below hb3 lt2
    clear hb3
    go_wp2_with (refine store_row rfl 27 (.tmp 4) (.tmp 11) rfl (w.heap.size + 1) 27 [.int .i64 0, .int .i64 0, .int .i64 0, .string ⟨#[]⟩, .slice none 0 0] dCells rfl rfl HA5.out sz27 rfl rfl w.heap.size (by omega) ?_; intro w6 hr6 hb6 _)
    exact bodyPost_ret (ret_row rfl _ _ (w.heap.size + 1) 27 dCells _ rfl hr6 Tryz.underlying27 rfl sz27) rfl ⟨rfl, HB3.out.trans hb6⟩

set_option maxRecDepth 20000 in
set_option maxHeartbeats 4000000 in
theorem sumsA_max (cs : List Cel) (hok : ∀ x ∈ cs, x.Ok) (hn : cs.length ≤ 60) (r : Value) (w : World) (hr : r = .slice none 0 0 ∨ ∃ g n c, r = .slice (some ⟨g, 0, none⟩) n c) (htab : Tab 0 w 31 27 5 r (cs.map fun x => [x.cells])) (hne : nums cs ≠ []) :
    Calls Tryz.prog 21 #[.string ⟨#[77, 65, 88, 65]⟩, .agg #[.int .i64 5, .int .i64 0, .int .i64 0, .string ⟨#[]⟩, r]] w fun e w' => (∃ m : Nat, IsMax (nums cs) m ∧ e = .returned (.agg (iC m).toArray)) ∧ Below w.heap.size w w' := by
  have HOK := Lib.hid hok
  have HT := Lib.hid htab
  have HL := Lib.hid hn
  have HNE := Lib.hid hne
  clear hne
  have e1 : ((⟨#[77, 65, 88, 65]⟩ : ByteArray) == ⟨#[77, 65, 88, 65]⟩) = true := (by decide)
  clear hok htab hn
  have hone : ([.int .i64 5, .int .i64 0, .int .i64 0, .string ⟨#[]⟩, r] : List Value).all (fun u => u.oneCell') = true := (by rcases hr with h | ⟨g', n', c', h⟩ <;> rw [h] <;> rfl)
  have HO := Lib.hid hone
  clear hone
  rcases hr with rfl | ⟨rg, rn, rc, rfl⟩
  all_goals
    go_enter Tryz.func21, Tryz.ntmps21
    go_wp2_with fail
    refine (values_any cs HOK.out HL.out _ _ (HT.out.keep (by go_grown))).mono ?_
    rintro e w2 ⟨v5, rfl, ha, hb⟩
    have HA4 : Hid (Blk w2 (w.heap.size + 1) 27 [.int .i64 0, .int .i64 0, .int .i64 0, .string ⟨#[]⟩, .slice none 0 0]) := (blk_at (by simp) (Blk.new (w.alloc _) 27 [.int .i64 0, .int .i64 0, .int .i64 0, .string ⟨#[]⟩, .slice none 0 0])).below hb (by simp)
    have HB2 : Hid (Below w.heap.size w w2) := Below.trans (by go_grown) (hb.mono (by simp; omega))
    have lt2 := HA4.out.lt
    clear hb
    obtain ⟨g, cap, hv⟩ : ∃ g cap, v5 = .slice (some ⟨g, 0, none⟩) (nums cs).length cap := (by
      rcases ha.shape with ⟨_, h⟩ | ⟨g, cap, h, _⟩
      · exact absurd (List.map_eq_nil_iff.1 h) HNE.out
      · exact ⟨g, cap, by rw [h, List.length_map]⟩)
    subst hv
    have hlen : Hid ((nums cs).length ≤ 60) := Lib.hid (Nat.le_trans (nums_len cs) HL.out)
    obtain ⟨m, hm⟩ : ∃ m, m = (nums cs).length := ⟨_, rfl⟩
    have hm0 : 0 < m := (by rw [hm]; exact List.length_pos_iff.2 HNE.out)
    have HM := Lib.hid hm
    rw [← hm]
    have hmz : ((m : Int) == 0) = false := (by simp; omega)
    clear hm
    have HA := Lib.hid ha
    clear ha
    go_wp2_with fail
    have hcall := greatest_any (nums cs) (nums_le HOK.out) HNE.out  w2 g cap (HA.out.base (Nat.zero_le _)) hlen.out
    rw [← HM.out] at hcall
    have HCALL := Lib.hid hcall
    clear hcall
    refine HCALL.out.mono ?_
    rintro e w3 ⟨⟨q, hq, rfl⟩, hb3⟩
    have HB3 : Hid (Below w.heap.size w w3) := HB2.out.trans (hb3.mono HB2.out.size)
    have HA5 : Hid (Blk w3 (w.heap.size + 1) 27 [.int .i64 0, .int .i64 0, .int .i64 0, .string ⟨#[]⟩, .slice none 0 0]) := HA4.out.below hb3 lt2
    clear hb3
    go_wp2_with (refine store_row rfl 27 (.tmp 4) (.tmp 16) rfl (w.heap.size + 1) 27 [.int .i64 0, .int .i64 0, .int .i64 0, .string ⟨#[]⟩, .slice none 0 0] (iC q) rfl rfl HA5.out sz27 rfl rfl w.heap.size (by omega) ?_; intro w6 hr6 hb6 _)
    exact bodyPost_ret (ret_row rfl _ _ (w.heap.size + 1) 27 (iC q) _ rfl hr6 Tryz.underlying27 rfl sz27) rfl ⟨⟨q, hq, rfl⟩, HB3.out.trans hb6⟩

set_option maxRecDepth 20000 in
set_option maxHeartbeats 4000000 in
theorem sumsA_min (cs : List Cel) (hok : ∀ x ∈ cs, x.Ok) (hn : cs.length ≤ 60) (r : Value) (w : World) (hr : r = .slice none 0 0 ∨ ∃ g n c, r = .slice (some ⟨g, 0, none⟩) n c) (htab : Tab 0 w 31 27 5 r (cs.map fun x => [x.cells])) (hne : nums cs ≠ []) :
    Calls Tryz.prog 21 #[.string ⟨#[77, 73, 78, 65]⟩, .agg #[.int .i64 5, .int .i64 0, .int .i64 0, .string ⟨#[]⟩, r]] w fun e w' => (∃ m : Nat, IsMin (nums cs) m ∧ e = .returned (.agg (iC m).toArray)) ∧ Below w.heap.size w w' := by
  have HOK := Lib.hid hok
  have HT := Lib.hid htab
  have HL := Lib.hid hn
  have HNE := Lib.hid hne
  clear hne
  have e1 : ((⟨#[77, 73, 78, 65]⟩ : ByteArray) == ⟨#[77, 65, 88, 65]⟩) = false := (by decide)
  have e2 : ((⟨#[77, 73, 78, 65]⟩ : ByteArray) == ⟨#[77, 73, 78, 65]⟩) = true := (by decide)
  clear hok htab hn
  have hone : ([.int .i64 5, .int .i64 0, .int .i64 0, .string ⟨#[]⟩, r] : List Value).all (fun u => u.oneCell') = true := (by rcases hr with h | ⟨g', n', c', h⟩ <;> rw [h] <;> rfl)
  have HO := Lib.hid hone
  clear hone
  rcases hr with rfl | ⟨rg, rn, rc, rfl⟩
  all_goals
    go_enter Tryz.func21, Tryz.ntmps21
    go_wp2_with fail
    refine (values_any cs HOK.out HL.out _ _ (HT.out.keep (by go_grown))).mono ?_
    rintro e w2 ⟨v5, rfl, ha, hb⟩
    have HA4 : Hid (Blk w2 (w.heap.size + 1) 27 [.int .i64 0, .int .i64 0, .int .i64 0, .string ⟨#[]⟩, .slice none 0 0]) := (blk_at (by simp) (Blk.new (w.alloc _) 27 [.int .i64 0, .int .i64 0, .int .i64 0, .string ⟨#[]⟩, .slice none 0 0])).below hb (by simp)
    have HB2 : Hid (Below w.heap.size w w2) := Below.trans (by go_grown) (hb.mono (by simp; omega))
    have lt2 := HA4.out.lt
    clear hb
    obtain ⟨g, cap, hv⟩ : ∃ g cap, v5 = .slice (some ⟨g, 0, none⟩) (nums cs).length cap := (by
      rcases ha.shape with ⟨_, h⟩ | ⟨g, cap, h, _⟩
      · exact absurd (List.map_eq_nil_iff.1 h) HNE.out
      · exact ⟨g, cap, by rw [h, List.length_map]⟩)
    subst hv
    have hlen : Hid ((nums cs).length ≤ 60) := Lib.hid (Nat.le_trans (nums_len cs) HL.out)
    obtain ⟨m, hm⟩ : ∃ m, m = (nums cs).length := ⟨_, rfl⟩
    have hm0 : 0 < m := (by rw [hm]; exact List.length_pos_iff.2 HNE.out)
    have HM := Lib.hid hm
    rw [← hm]
    have hmz : ((m : Int) == 0) = false := (by simp; omega)
    clear hm
    have HA := Lib.hid ha
    clear ha
    go_wp2_with fail
    have hcall := least_any (nums cs) (nums_le HOK.out) HNE.out  w2 g cap (HA.out.base (Nat.zero_le _)) hlen.out
    rw [← HM.out] at hcall
    have HCALL := Lib.hid hcall
    clear hcall
    refine HCALL.out.mono ?_
    rintro e w3 ⟨⟨q, hq, rfl⟩, hb3⟩
    have HB3 : Hid (Below w.heap.size w w3) := HB2.out.trans (hb3.mono HB2.out.size)
    have HA5 : Hid (Blk w3 (w.heap.size + 1) 27 [.int .i64 0, .int .i64 0, .int .i64 0, .string ⟨#[]⟩, .slice none 0 0]) := HA4.out.below hb3 lt2
    clear hb3
    go_wp2_with (refine store_row rfl 27 (.tmp 4) (.tmp 20) rfl (w.heap.size + 1) 27 [.int .i64 0, .int .i64 0, .int .i64 0, .string ⟨#[]⟩, .slice none 0 0] (iC q) rfl rfl HA5.out sz27 rfl rfl w.heap.size (by omega) ?_; intro w6 hr6 hb6 _)
    exact bodyPost_ret (ret_row rfl _ _ (w.heap.size + 1) 27 (iC q) _ rfl hr6 Tryz.underlying27 rfl sz27) rfl ⟨⟨q, hq, rfl⟩, HB3.out.trans hb6⟩

set_option maxRecDepth 20000 in
set_option maxHeartbeats 4000000 in
theorem sumsA_yes (cs : List Cel) (hok : ∀ x ∈ cs, x.Ok) (hn : cs.length ≤ 60) (r : Value) (w : World) (hr : r = .slice none 0 0 ∨ ∃ g n c, r = .slice (some ⟨g, 0, none⟩) n c) (htab : Tab 0 w 31 27 5 r (cs.map fun x => [x.cells])) (hne : nums cs ≠ []) (q : Nat) (hq : (nums cs).sum * 16 = q * (nums cs).length) :
    Calls Tryz.prog 21 #[.string ⟨#[65, 86, 69, 82, 65, 71, 69, 65]⟩, .agg #[.int .i64 5, .int .i64 0, .int .i64 0, .string ⟨#[]⟩, r]] w fun e w' => (∃ a d : Nat, Fr q a d ∧ e = .returned (.agg #[.int .i64 1, .int .i64 a, .int .i64 d, .string ⟨#[]⟩, .slice none 0 0])) ∧ Below w.heap.size w w' := by
  have HOK := Lib.hid hok
  have HT := Lib.hid htab
  have HL := Lib.hid hn
  have HNE := Lib.hid hne
  clear hne
  have HQ := Lib.hid hq
  clear hq
  have e1 : ((⟨#[65, 86, 69, 82, 65, 71, 69, 65]⟩ : ByteArray) == ⟨#[77, 65, 88, 65]⟩) = false := (by decide)
  have e2 : ((⟨#[65, 86, 69, 82, 65, 71, 69, 65]⟩ : ByteArray) == ⟨#[77, 73, 78, 65]⟩) = false := (by decide)
  clear hok htab hn
  have hone : ([.int .i64 5, .int .i64 0, .int .i64 0, .string ⟨#[]⟩, r] : List Value).all (fun u => u.oneCell') = true := (by rcases hr with h | ⟨g', n', c', h⟩ <;> rw [h] <;> rfl)
  have HO := Lib.hid hone
  clear hone
  rcases hr with rfl | ⟨rg, rn, rc, rfl⟩
  all_goals
    go_enter Tryz.func21, Tryz.ntmps21
    go_wp2_with fail
    refine (values_any cs HOK.out HL.out _ _ (HT.out.keep (by go_grown))).mono ?_
    rintro e w2 ⟨v5, rfl, ha, hb⟩
    have HA4 : Hid (Blk w2 (w.heap.size + 1) 27 [.int .i64 0, .int .i64 0, .int .i64 0, .string ⟨#[]⟩, .slice none 0 0]) := (blk_at (by simp) (Blk.new (w.alloc _) 27 [.int .i64 0, .int .i64 0, .int .i64 0, .string ⟨#[]⟩, .slice none 0 0])).below hb (by simp)
    have HB2 : Hid (Below w.heap.size w w2) := Below.trans (by go_grown) (hb.mono (by simp; omega))
    have lt2 := HA4.out.lt
    clear hb
    obtain ⟨g, cap, hv⟩ : ∃ g cap, v5 = .slice (some ⟨g, 0, none⟩) (nums cs).length cap := (by
      rcases ha.shape with ⟨_, h⟩ | ⟨g, cap, h, _⟩
      · exact absurd (List.map_eq_nil_iff.1 h) HNE.out
      · exact ⟨g, cap, by rw [h, List.length_map]⟩)
    subst hv
    have hlen : Hid ((nums cs).length ≤ 60) := Lib.hid (Nat.le_trans (nums_len cs) HL.out)
    obtain ⟨m, hm⟩ : ∃ m, m = (nums cs).length := ⟨_, rfl⟩
    have hm0 : 0 < m := (by rw [hm]; exact List.length_pos_iff.2 HNE.out)
    have HM := Lib.hid hm
    rw [← hm]
    have hmz : ((m : Int) == 0) = false := (by simp; omega)
    clear hm
    have HA := Lib.hid ha
    clear ha
    go_wp2_with fail
    have hcall := mean_yes (nums cs) (nums_le HOK.out) HNE.out q HQ.out w2 g cap (HA.out.base (Nat.zero_le _)) hlen.out
    rw [← HM.out] at hcall
    have HCALL := Lib.hid hcall
    clear hcall
    refine HCALL.out.mono ?_
    rintro e w3 ⟨⟨a, d, hf, rfl⟩, hb3⟩
    have HB3 : Hid (Below w.heap.size w w3) := HB2.out.trans (hb3.mono HB2.out.size)
    have HA5 : Hid (Blk w3 (w.heap.size + 1) 27 [.int .i64 0, .int .i64 0, .int .i64 0, .string ⟨#[]⟩, .slice none 0 0]) := HA4.out.below hb3 lt2
    clear hb3
    go_wp2_with (refine store_row rfl 27 (.tmp 4) (.tmp 22) rfl (w.heap.size + 1) 27 [.int .i64 0, .int .i64 0, .int .i64 0, .string ⟨#[]⟩, .slice none 0 0] [.int .i64 1, .int .i64 a, .int .i64 d, .string ⟨#[]⟩, .slice none 0 0] rfl rfl HA5.out sz27 rfl rfl w.heap.size (by omega) ?_; intro w6 hr6 hb6 _)
    exact bodyPost_ret (ret_row rfl _ _ (w.heap.size + 1) 27 [.int .i64 1, .int .i64 a, .int .i64 d, .string ⟨#[]⟩, .slice none 0 0] _ rfl hr6 Tryz.underlying27 rfl sz27) rfl ⟨⟨a, d, hf, rfl⟩, HB3.out.trans hb6⟩

set_option maxRecDepth 20000 in
set_option maxHeartbeats 4000000 in
theorem sumsA_no (cs : List Cel) (hok : ∀ x ∈ cs, x.Ok) (hn : cs.length ≤ 60) (r : Value) (w : World) (hr : r = .slice none 0 0 ∨ ∃ g n c, r = .slice (some ⟨g, 0, none⟩) n c) (htab : Tab 0 w 31 27 5 r (cs.map fun x => [x.cells])) (hne : nums cs ≠ []) (hq : (nums cs).sum * 16 % (nums cs).length ≠ 0) :
    Calls Tryz.prog 21 #[.string ⟨#[65, 86, 69, 82, 65, 71, 69, 65]⟩, .agg #[.int .i64 5, .int .i64 0, .int .i64 0, .string ⟨#[]⟩, r]] w fun e w' => e = .returned (.agg dCells.toArray) ∧ Below w.heap.size w w' := by
  have HOK := Lib.hid hok
  have HT := Lib.hid htab
  have HL := Lib.hid hn
  have HNE := Lib.hid hne
  clear hne
  have HQ := Lib.hid hq
  clear hq
  have e1 : ((⟨#[65, 86, 69, 82, 65, 71, 69, 65]⟩ : ByteArray) == ⟨#[77, 65, 88, 65]⟩) = false := (by decide)
  have e2 : ((⟨#[65, 86, 69, 82, 65, 71, 69, 65]⟩ : ByteArray) == ⟨#[77, 73, 78, 65]⟩) = false := (by decide)
  clear hok htab hn
  have hone : ([.int .i64 5, .int .i64 0, .int .i64 0, .string ⟨#[]⟩, r] : List Value).all (fun u => u.oneCell') = true := (by rcases hr with h | ⟨g', n', c', h⟩ <;> rw [h] <;> rfl)
  have HO := Lib.hid hone
  clear hone
  rcases hr with rfl | ⟨rg, rn, rc, rfl⟩
  all_goals
    go_enter Tryz.func21, Tryz.ntmps21
    go_wp2_with fail
    refine (values_any cs HOK.out HL.out _ _ (HT.out.keep (by go_grown))).mono ?_
    rintro e w2 ⟨v5, rfl, ha, hb⟩
    have HA4 : Hid (Blk w2 (w.heap.size + 1) 27 [.int .i64 0, .int .i64 0, .int .i64 0, .string ⟨#[]⟩, .slice none 0 0]) := (blk_at (by simp) (Blk.new (w.alloc _) 27 [.int .i64 0, .int .i64 0, .int .i64 0, .string ⟨#[]⟩, .slice none 0 0])).below hb (by simp)
    have HB2 : Hid (Below w.heap.size w w2) := Below.trans (by go_grown) (hb.mono (by simp; omega))
    have lt2 := HA4.out.lt
    clear hb
    obtain ⟨g, cap, hv⟩ : ∃ g cap, v5 = .slice (some ⟨g, 0, none⟩) (nums cs).length cap := (by
      rcases ha.shape with ⟨_, h⟩ | ⟨g, cap, h, _⟩
      · exact absurd (List.map_eq_nil_iff.1 h) HNE.out
      · exact ⟨g, cap, by rw [h, List.length_map]⟩)
    subst hv
    have hlen : Hid ((nums cs).length ≤ 60) := Lib.hid (Nat.le_trans (nums_len cs) HL.out)
    obtain ⟨m, hm⟩ : ∃ m, m = (nums cs).length := ⟨_, rfl⟩
    have hm0 : 0 < m := (by rw [hm]; exact List.length_pos_iff.2 HNE.out)
    have HM := Lib.hid hm
    rw [← hm]
    have hmz : ((m : Int) == 0) = false := (by simp; omega)
    clear hm
    have HA := Lib.hid ha
    clear ha
    go_wp2_with fail
    have hcall := mean_no (nums cs) (nums_le HOK.out) HNE.out HQ.out w2 g cap (HA.out.base (Nat.zero_le _)) hlen.out
    rw [← HM.out] at hcall
    have HCALL := Lib.hid hcall
    clear hcall
    refine HCALL.out.mono ?_
    rintro e w3 ⟨rfl, hb3⟩
    have HB3 : Hid (Below w.heap.size w w3) := HB2.out.trans (hb3.mono HB2.out.size)
    have HA5 : Hid (Blk w3 (w.heap.size + 1) 27 [.int .i64 0, .int .i64 0, .int .i64 0, .string ⟨#[]⟩, .slice none 0 0]) := HA4.out.below hb3 lt2
    clear hb3
    go_wp2_with (refine store_row rfl 27 (.tmp 4) (.tmp 22) rfl (w.heap.size + 1) 27 [.int .i64 0, .int .i64 0, .int .i64 0, .string ⟨#[]⟩, .slice none 0 0] dCells rfl rfl HA5.out sz27 rfl rfl w.heap.size (by omega) ?_; intro w6 hr6 hb6 _)
    exact bodyPost_ret (ret_row rfl _ _ (w.heap.size + 1) 27 dCells _ rfl hr6 Tryz.underlying27 rfl sz27) rfl ⟨rfl, HB3.out.trans hb6⟩
end Go.Proofs.YtoebgbojpkflnaaGreatDoor
