/- ToList of a table; the greatest, the least, the count and the sum of its cells. -/
import Derived.Test.YtoebgbojpkflnaaGreatDoorInnerTab
import Derived.Test.YtoebgbojpkflnaaGreatDoorNums
namespace Go.Proofs.YtoebgbojpkflnaaGreatDoor
open Go Go.RowKit
set_option maxRecDepth 20000 in
set_option maxHeartbeats 4000000 in
theorem toList_mat (xs : List Atom) (hn : xs.length ≤ 100) (hne : xs ≠ []) (v : Value) (p q : Option Addr) (w : World) (htab : Tab 0 w 79 84 10 v (xs.map fun a => [a.facells])) :
    Calls Tryz.prog 138 #[.agg #[.string ⟨#[]⟩, .float .f64 0, .string ⟨#[]⟩, .slice none 0 0, v, .bool false, .string ⟨#[]⟩, .int .u8 4, .pointer p, .pointer q]] w fun e w' => ∃ v', e = .returned v' ∧ Arr w.heap.size w' 84 10 v' (xs.map Atom.facells) ∧ Below w.heap.size w w' := by
  obtain ⟨n, hnn⟩ : ∃ n, n = xs.length := ⟨_, rfl⟩
  have HN : Hid (n = xs.length) := hnn
  have HT := Lib.hid htab
  obtain ⟨g, c, hv, hg⟩ : ∃ g c, v = .slice (some ⟨g, 0, none⟩) n c ∧ g < w.heap.size := (by
    rcases htab.shape with ⟨_, h⟩ | ⟨g, c, h, hl⟩
    · exact absurd (List.map_eq_nil_iff.1 h) hne
    · exact ⟨g, c, by rw [h, List.length_map, hnn], hl⟩)
  rw [← hnn] at hn
  subst hv
  clear hnn htab hne
  go_enter Tryz.func138, Tryz.ntmps138
  go_wp2_with fail
  refine abs_wp (fun w' => Below w.heap.size w w') (by go_grown) ?_
  rintro w1 hb1
  go_loopw [3, 13] (fun v i wr => ∃ k : Nat, k ≤ n ∧ i = .int .i64 k ∧ Arr w.heap.size wr 84 10 v ((xs.take k).map Atom.facells) ∧ Below w.heap.size w wr) (fun _ i _ => n - (intOf i).toNat)
  case atStart => exact ⟨0, Nat.zero_le _, rfl, Arr.nil _ _ _ _, hb1⟩
  case round =>
    obtain ⟨k, hk, rfl, ha, hb⟩ := hrel
    have HA := Lib.hid ha
    have HB := Lib.hid hb
    clear ha hb hb1
    by_cases hlt : k < n
    · obtain ⟨x, hx⟩ := one_at HN.out.symm hlt
      obtain ⟨r, hr, har⟩ := HT.out.at (i := k) (x := [x.facells]) (by rw [List.getElem?_map, hx]; rfl)
      have er : wr.cell? ⟨g, k, none⟩ = some r := (HB.out.cell (p := ⟨g, k, none⟩) hg).trans hr
      have HAR := Lib.hid (har.keep HB.out)
      obtain ⟨g1, c1, hr1⟩ : ∃ g1 c1, r = .slice (some ⟨g1, 0, none⟩) 1 c1 := (by
        rcases har.shape with ⟨_, h⟩ | ⟨g1, c1, h, _⟩
        · cases h
        · exact ⟨g1, c1, h⟩)
      subst hr1
      have HX := Lib.hid hx
      have HL4 : Hid (((xs.take k).map Atom.facells).length + 1 ≤ 4000000000) := by
        have := List.length_take_le k xs; show _ ≤ _; rw [List.length_map]; omega
      clear hr har hx
      go_wp2_with (at_builtin; refine append_two rfl (.tmp 17) (.tmp 18) 79 rfl w.heap.size 84 _ 10 136 Tryz.underlying79 info84 rfl (by decide) (by decide) _ _ rfl HA.out (.slice (some ⟨g1, 0, none⟩) 1 c1) _ [x.facells] rfl HAR.out (by simp) (by intro y hy; simp at hy; subst hy; exact x.fone) HL4.out HB.out.size ?_; intro v3 w3 ha3 hb3)
      refine ⟨⟨k + 1, by omega, by go_num, by rw [take_snoc HX.out, List.map_append]; exact ha3, HB.out.trans hb3⟩, by simp [intOf]; omega⟩
    · have hkn : k = n := by omega
      go_wp2_with fail
      go_ret
      exact ⟨_, rfl, by have := HA.out; rw [hkn, HN.out, List.take_length] at this; exact this, HB.out⟩
/-- A cell of a table as a formulaArg: a number that counts, or nothing. -/
theorem Cel.fcase (c : Cel) (h : c.Ok) : (c.num? = none ∧ c.atom.facells = [.string ⟨#[]⟩, .float .f64 0, .string ⟨#[]⟩, .slice none 0 0, .slice none 0 0, .bool false, .string ⟨#[]⟩, .int .u8 6, .pointer none, .pointer none]) ∨
    ∃ (m : Nat) (bo : Bool), m ≤ 100000 ∧ c.num? = some m ∧ c.atom.facells = [.string ⟨#[]⟩, .float .f64 (fx (m : Int) 0), .string ⟨#[]⟩, .slice none 0 0, .slice none 0 0, .bool bo, .string ⟨#[]⟩, .int .u8 1, .pointer none, .pointer none] := by
  rcases c with n | x | _
  · exact .inr ⟨n, false, h, rfl, rfl⟩
  · refine .inr ⟨if x then 1 else 0, true, by cases x <;> decide, by cases x <;> rfl, ?_⟩
    have := boolFl_fx x
    cases x <;> (simp only [Cel.atom, Atom.facells]; rw [this]; rfl)
  · exact .inl ⟨rfl, rfl⟩
/-- The greatest so far, as the code has it. -/
def mxb : Option Nat → Nat
  | none => 18442240474082181119
  | some m => fx (m : Int) 0
def mnb : Option Nat → Nat
  | none => 9218868437227405311
  | some m => fx (m : Int) 0
theorem fx_order_big {a b : Nat} (ha : a ≤ 100000000) (hb : b ≤ 100000000) : FloatKind.f64.format.order (fx (a : Int) 0) (fx (b : Int) 0) = some (compare (a : Int) b) :=
  order_reads (p := 0) (reads_fx _ _ (by omega) (by omega) (by omega)) (reads_fx _ _ (by omega) (by omega) (by omega))
def Sml : Option Nat → Prop
  | none => True
  | some m => m ≤ 100000
theorem max_step (o : Option Nat) (m : Nat) (ho : Sml o) (hm : m ≤ 100000) : (FloatKind.f64.format.order (fx (m : Int) 0) (mxb o) = some .gt ∧ mxb (maxo o m) = fx (m : Int) 0) ∨ ((FloatKind.f64.format.order (fx (m : Int) 0) (mxb o) = some .eq ∨ FloatKind.f64.format.order (fx (m : Int) 0) (mxb o) = some .lt) ∧ mxb (maxo o m) = mxb o) := by
  rcases o with _ | M
  · exact .inl ⟨order_negmax (by omega), rfl⟩
  · have hM : M ≤ 100000 := ho
    have h := fx_order_big (a := m) (b := M) (by omega) (by omega)
    show (FloatKind.f64.format.order (fx (m : Int) 0) (fx (M : Int) 0) = some .gt ∧ _) ∨ ((FloatKind.f64.format.order (fx (m : Int) 0) (fx (M : Int) 0) = some .eq ∨ FloatKind.f64.format.order (fx (m : Int) 0) (fx (M : Int) 0) = some .lt) ∧ _)
    rw [h]
    by_cases h1 : M < m
    · exact .inl ⟨by rw [Int.compare_eq_gt.2 (by omega)], by simp [maxo, h1, mxb]⟩
    · refine .inr ⟨?_, by simp [maxo, h1, mxb]⟩
      by_cases h2 : m = M
      · exact .inl (by rw [Int.compare_eq_eq.2 (by omega)])
      · exact .inr (by rw [Int.compare_eq_lt.2 (by omega)])
theorem min_step (o : Option Nat) (m : Nat) (ho : Sml o) (hm : m ≤ 100000) : (FloatKind.f64.format.order (fx (m : Int) 0) (mnb o) = some .lt ∧ mnb (mino o m) = fx (m : Int) 0) ∨ ((FloatKind.f64.format.order (fx (m : Int) 0) (mnb o) = some .eq ∨ FloatKind.f64.format.order (fx (m : Int) 0) (mnb o) = some .gt) ∧ mnb (mino o m) = mnb o) := by
  rcases o with _ | M
  · exact .inl ⟨order_posmax (by omega), rfl⟩
  · have hM : M ≤ 100000 := ho
    have h := fx_order_big (a := m) (b := M) (by omega) (by omega)
    show (FloatKind.f64.format.order (fx (m : Int) 0) (fx (M : Int) 0) = some .lt ∧ _) ∨ ((FloatKind.f64.format.order (fx (m : Int) 0) (fx (M : Int) 0) = some .eq ∨ FloatKind.f64.format.order (fx (m : Int) 0) (fx (M : Int) 0) = some .gt) ∧ _)
    rw [h]
    by_cases h1 : m < M
    · exact .inl ⟨by rw [Int.compare_eq_lt.2 (by omega)], by simp [mino, h1, mnb]⟩
    · refine .inr ⟨?_, by simp [mino, h1, mnb]⟩
      by_cases h2 : m = M
      · exact .inl (by rw [Int.compare_eq_eq.2 (by omega)])
      · exact .inr (by rw [Int.compare_eq_gt.2 (by omega)])
theorem sml_max (l : List Nat) (h : ∀ x ∈ l, x ≤ 100000) : Sml (maxOf l) := by
  rcases maxOf_spec l with ⟨_, h1⟩ | ⟨m, h1, h2⟩ <;> rw [h1]
  · trivial
  · exact h m h2.1
theorem sml_min (l : List Nat) (h : ∀ x ∈ l, x ≤ 100000) : Sml (minOf l) := by
  rcases minOf_spec l with ⟨_, h1⟩ | ⟨m, h1, h2⟩ <;> rw [h1]
  · trivial
  · exact h m h2.1
theorem nums_take_le {cs : List Cel} (h : ∀ x ∈ cs, x.Ok) (k : Nat) : ∀ n ∈ nums (cs.take k), n ≤ 100000 := nums_le fun x hx => h x (List.mem_of_mem_take hx)

set_option maxRecDepth 20000 in
set_option maxHeartbeats 8000000 in
theorem calcMax_any (cs : List Cel) (hok : ∀ x ∈ cs, x.Ok) (hn : cs.length ≤ 100) (hne : cs ≠ []) (v : Value) (hv : v = .slice none 0 0 ∨ ∃ g n c, v = .slice (some ⟨g, 0, none⟩) n c) (p q : Option Addr) (w : World) (htab : Tab 0 w 79 84 10 v ((cs.map Cel.atom).map fun a => [a.facells])) (b0 : Nat) (hb0 : b0 = mxb none) :
    Calls Tryz.prog 150 #[.bool true, .float .f64 b0, .agg #[.string ⟨#[]⟩, .float .f64 0, .string ⟨#[]⟩, .slice none 0 0, v, .bool false, .string ⟨#[]⟩, .int .u8 4, .pointer p, .pointer q]] w fun e w' => e = .returned (.float .f64 (mxb (maxOf (nums cs)))) ∧ Below w.heap.size w w' := by
  obtain ⟨n, hnn⟩ : ∃ n, n = cs.length := ⟨_, rfl⟩
  have HN : Hid (n = cs.length) := hnn
  have HT := Lib.hid htab
  have HOK := Lib.hid hok
  have HNE := Lib.hid hne
  have HB0 := Lib.hid hb0
  rw [← hnn] at hn
  clear hnn htab hok hne hb0
  obtain ⟨vv, hvv⟩ : ∃ vv, vv = v := ⟨_, rfl⟩
  have HVV := Lib.hid hvv
  rcases hv with rfl | ⟨rg, rn, rc, rfl⟩
  all_goals
    clear hvv
    go_enter Tryz.func150, Tryz.ntmps150
    go_wp2_with fail
    refine (toList_mat (cs.map Cel.atom) (by rw [List.length_map, ← HN.out]; exact hn) (fun h => HNE.out (List.map_eq_nil_iff.1 h)) _ p q _ (HT.out.keep (by go_grown))).mono ?_
    rintro e w2 ⟨v2, rfl, ha, hb⟩
    have HA := Lib.hid ha
    have HB : Hid (Below w.heap.size w w2) := Below.trans (by go_grown) (hb.mono (by simp))
    obtain ⟨g, c, hv2⟩ : ∃ g c, v2 = .slice (some ⟨g, 0, none⟩) n c := (by
      rcases ha.shape with ⟨_, h⟩ | ⟨g, c, h, _⟩
      · exact absurd (List.map_eq_nil_iff.1 (List.map_eq_nil_iff.1 h)) HNE.out
      · exact ⟨g, c, by rw [h, List.length_map, List.length_map, HN.out]⟩)
    subst hv2
    clear ha hb
    go_wp2_with fail
    go_loopw [1, 12] (fun b i wr => ∃ k : Nat, k ≤ n ∧ i = .int .i64 k ∧ b = .float .f64 (mxb (maxOf (nums (cs.take k)))) ∧ Below w2.heap.size w2 wr) (fun _ i _ => n - (intOf i).toNat)
    case atStart => exact ⟨0, Nat.zero_le _, rfl, by rw [HB0.out]; rfl, Below.refl _ _⟩
    case round =>
      obtain ⟨k, hk, rfl, rfl, hb⟩ := hrel
      have HB2 := Lib.hid hb
      clear hb
      by_cases hlt : k < n
      · obtain ⟨x, hx⟩ := one_at HN.out.symm hlt
        have hrow := HA.out.keep HB2.out
        have hxx : ((cs.map Cel.atom).map Atom.facells)[k]? = some x.atom.facells := by rw [List.getElem?_map, List.getElem?_map, hx]; rfl
        have HX : Hid (nums (cs.take (k + 1)) = nums (cs.take k) ++ x.num?.toList) := (by show _ = _; rw [take_snoc hx, nums_snoc])
        have hst := sml_max _ (nums_take_le HOK.out k)
        obtain ⟨bc, hbc⟩ : ∃ bc, bc = mxb (maxOf (nums (cs.take k))) := ⟨_, rfl⟩
        rcases x.fcase (HOK.out x (List.mem_of_getElem? hx)) with ⟨hnum, hfc⟩ | ⟨m, bo, hm, hnum, hfc⟩
        · rw [hfc] at hxx
          have HY : Hid (bc = mxb (maxOf (nums (cs.take (k + 1))))) := (by show _ = _; rw [HX.out, hnum, hbc]; simp)
          rw [← hbc]
          have d0 := hrow.cell0 hxx (u := .string ⟨#[]⟩) rfl
          have d1 := hrow.cell hxx (j := 1) (u := .float .f64 0) rfl
          have d2 := hrow.cell hxx (j := 2) (u := .string ⟨#[]⟩) rfl
          have d3 := hrow.cell hxx (j := 3) (u := .slice none 0 0) rfl
          have d4 := hrow.cell hxx (j := 4) (u := .slice none 0 0) rfl
          have d5 := hrow.cell hxx (j := 5) (u := .bool false) rfl
          have d6 := hrow.cell hxx (j := 6) (u := .string ⟨#[]⟩) rfl
          have d7 := hrow.cell hxx (j := 7) (u := .int .u8 6) rfl
          have d8 := hrow.cell hxx (j := 8) (u := .pointer none) rfl
          have d9 := hrow.cell hxx (j := 9) (u := .pointer none) rfl
          clear hrow hxx hx hst hbc hnum hfc
          go_wp2_with fail
          refine ⟨⟨k + 1, by omega, by go_num, by rw [HY.out], (HB2.out.alloc HB2.out.size _)⟩, by simp [intOf]; omega⟩
        · rw [hfc] at hxx
          obtain ⟨bx, hbx⟩ : ∃ bx, bx = fx (m : Int) 0 := ⟨_, rfl⟩
          rw [← hbx] at hxx
          have HST := max_step _ m hst hm
          have hY : mxb (maxOf (nums (cs.take (k + 1)))) = mxb (maxo (maxOf (nums (cs.take k))) m) := (by rw [HX.out, hnum]; show mxb (maxOf (nums (cs.take k) ++ [m])) = _; rw [maxOf_snoc])
          rw [← hY, ← hbc, ← hbx] at HST
          rw [← hbc]
          have hst3 : Hid ((FloatKind.f64.format.order bx bc = some .gt ∧ mxb (maxOf (nums (cs.take (k + 1)))) = bx) ∨ (FloatKind.f64.format.order bx bc = some .eq ∧ mxb (maxOf (nums (cs.take (k + 1)))) = bc) ∨ (FloatKind.f64.format.order bx bc = some .lt ∧ mxb (maxOf (nums (cs.take (k + 1)))) = bc)) := (by
            rcases HST with h | ⟨h1 | h1, h2⟩
            · exact .inl h
            · exact .inr (.inl ⟨h1, h2⟩)
            · exact .inr (.inr ⟨h1, h2⟩))
          have d0 := hrow.cell0 hxx (u := .string ⟨#[]⟩) rfl
          have d1 := hrow.cell hxx (j := 1) (u := .float .f64 bx) rfl
          have d2 := hrow.cell hxx (j := 2) (u := .string ⟨#[]⟩) rfl
          have d3 := hrow.cell hxx (j := 3) (u := .slice none 0 0) rfl
          have d4 := hrow.cell hxx (j := 4) (u := .slice none 0 0) rfl
          have d5 := hrow.cell hxx (j := 5) (u := .bool bo) rfl
          have d6 := hrow.cell hxx (j := 6) (u := .string ⟨#[]⟩) rfl
          have d7 := hrow.cell hxx (j := 7) (u := .int .u8 1) rfl
          have d8 := hrow.cell hxx (j := 8) (u := .pointer none) rfl
          have d9 := hrow.cell hxx (j := 9) (u := .pointer none) rfl
          clear hrow hxx hx hst hbc hnum hfc HST hY hbx
          cases bo
          all_goals
            rcases hst3.out with ⟨ho, hY⟩ | ⟨ho, hY⟩ | ⟨ho, hY⟩
            all_goals
              have HY := Lib.hid hY
              clear hY
              go_wp2_with fail
              refine ⟨⟨k + 1, by omega, by go_num, by rw [HY.out], (HB2.out.alloc HB2.out.size _)⟩, by simp [intOf]; omega⟩
      · have hkn : k = n := by omega
        go_wp2_with fail
        go_ret
        exact ⟨by rw [show nums (cs.take k) = nums cs by rw [hkn, HN.out, List.take_length]]; rfl, HB.out.trans (HB2.out.mono HB.out.size)⟩

set_option maxRecDepth 20000 in
set_option maxHeartbeats 8000000 in
theorem calcMin_any (cs : List Cel) (hok : ∀ x ∈ cs, x.Ok) (hn : cs.length ≤ 100) (hne : cs ≠ []) (v : Value) (hv : v = .slice none 0 0 ∨ ∃ g n c, v = .slice (some ⟨g, 0, none⟩) n c) (p q : Option Addr) (w : World) (htab : Tab 0 w 79 84 10 v ((cs.map Cel.atom).map fun a => [a.facells])) (b0 : Nat) (hb0 : b0 = mnb none) :
    Calls Tryz.prog 152 #[.bool true, .float .f64 b0, .agg #[.string ⟨#[]⟩, .float .f64 0, .string ⟨#[]⟩, .slice none 0 0, v, .bool false, .string ⟨#[]⟩, .int .u8 4, .pointer p, .pointer q]] w fun e w' => e = .returned (.float .f64 (mnb (minOf (nums cs)))) ∧ Below w.heap.size w w' := by
  obtain ⟨n, hnn⟩ : ∃ n, n = cs.length := ⟨_, rfl⟩
  have HN : Hid (n = cs.length) := hnn
  have HT := Lib.hid htab
  have HOK := Lib.hid hok
  have HNE := Lib.hid hne
  have HB0 := Lib.hid hb0
  rw [← hnn] at hn
  clear hnn htab hok hne hb0
  obtain ⟨vv, hvv⟩ : ∃ vv, vv = v := ⟨_, rfl⟩
  have HVV := Lib.hid hvv
  rcases hv with rfl | ⟨rg, rn, rc, rfl⟩
  all_goals
    clear hvv
    go_enter Tryz.func152, Tryz.ntmps152
    go_wp2_with fail
    refine (toList_mat (cs.map Cel.atom) (by rw [List.length_map, ← HN.out]; exact hn) (fun h => HNE.out (List.map_eq_nil_iff.1 h)) _ p q _ (HT.out.keep (by go_grown))).mono ?_
    rintro e w2 ⟨v2, rfl, ha, hb⟩
    have HA := Lib.hid ha
    have HB : Hid (Below w.heap.size w w2) := Below.trans (by go_grown) (hb.mono (by simp))
    obtain ⟨g, c, hv2⟩ : ∃ g c, v2 = .slice (some ⟨g, 0, none⟩) n c := (by
      rcases ha.shape with ⟨_, h⟩ | ⟨g, c, h, _⟩
      · exact absurd (List.map_eq_nil_iff.1 (List.map_eq_nil_iff.1 h)) HNE.out
      · exact ⟨g, c, by rw [h, List.length_map, List.length_map, HN.out]⟩)
    subst hv2
    clear ha hb
    go_wp2_with fail
    go_loopw [1, 12] (fun b i wr => ∃ k : Nat, k ≤ n ∧ i = .int .i64 k ∧ b = .float .f64 (mnb (minOf (nums (cs.take k)))) ∧ Below w2.heap.size w2 wr) (fun _ i _ => n - (intOf i).toNat)
    case atStart => exact ⟨0, Nat.zero_le _, rfl, by rw [HB0.out]; rfl, Below.refl _ _⟩
    case round =>
      obtain ⟨k, hk, rfl, rfl, hb⟩ := hrel
      have HB2 := Lib.hid hb
      clear hb
      by_cases hlt : k < n
      · obtain ⟨x, hx⟩ := one_at HN.out.symm hlt
        have hrow := HA.out.keep HB2.out
        have hxx : ((cs.map Cel.atom).map Atom.facells)[k]? = some x.atom.facells := by rw [List.getElem?_map, List.getElem?_map, hx]; rfl
        have HX : Hid (nums (cs.take (k + 1)) = nums (cs.take k) ++ x.num?.toList) := (by show _ = _; rw [take_snoc hx, nums_snoc])
        have hst := sml_min _ (nums_take_le HOK.out k)
        obtain ⟨bc, hbc⟩ : ∃ bc, bc = mnb (minOf (nums (cs.take k))) := ⟨_, rfl⟩
        rcases x.fcase (HOK.out x (List.mem_of_getElem? hx)) with ⟨hnum, hfc⟩ | ⟨m, bo, hm, hnum, hfc⟩
        · rw [hfc] at hxx
          have HY : Hid (bc = mnb (minOf (nums (cs.take (k + 1))))) := (by show _ = _; rw [HX.out, hnum, hbc]; simp)
          rw [← hbc]
          have d0 := hrow.cell0 hxx (u := .string ⟨#[]⟩) rfl
          have d1 := hrow.cell hxx (j := 1) (u := .float .f64 0) rfl
          have d2 := hrow.cell hxx (j := 2) (u := .string ⟨#[]⟩) rfl
          have d3 := hrow.cell hxx (j := 3) (u := .slice none 0 0) rfl
          have d4 := hrow.cell hxx (j := 4) (u := .slice none 0 0) rfl
          have d5 := hrow.cell hxx (j := 5) (u := .bool false) rfl
          have d6 := hrow.cell hxx (j := 6) (u := .string ⟨#[]⟩) rfl
          have d7 := hrow.cell hxx (j := 7) (u := .int .u8 6) rfl
          have d8 := hrow.cell hxx (j := 8) (u := .pointer none) rfl
          have d9 := hrow.cell hxx (j := 9) (u := .pointer none) rfl
          clear hrow hxx hx hst hbc hnum hfc
          go_wp2_with fail
          refine ⟨⟨k + 1, by omega, by go_num, by rw [HY.out], (HB2.out.alloc HB2.out.size _)⟩, by simp [intOf]; omega⟩
        · rw [hfc] at hxx
          obtain ⟨bx, hbx⟩ : ∃ bx, bx = fx (m : Int) 0 := ⟨_, rfl⟩
          rw [← hbx] at hxx
          have HST := min_step _ m hst hm
          have hY : mnb (minOf (nums (cs.take (k + 1)))) = mnb (mino (minOf (nums (cs.take k))) m) := (by rw [HX.out, hnum]; show mnb (minOf (nums (cs.take k) ++ [m])) = _; rw [minOf_snoc])
          rw [← hY, ← hbc, ← hbx] at HST
          rw [← hbc]
          have hst3 : Hid ((FloatKind.f64.format.order bx bc = some .lt ∧ mnb (minOf (nums (cs.take (k + 1)))) = bx) ∨ (FloatKind.f64.format.order bx bc = some .eq ∧ mnb (minOf (nums (cs.take (k + 1)))) = bc) ∨ (FloatKind.f64.format.order bx bc = some .gt ∧ mnb (minOf (nums (cs.take (k + 1)))) = bc)) := (by
            rcases HST with h | ⟨h1 | h1, h2⟩
            · exact .inl h
            · exact .inr (.inl ⟨h1, h2⟩)
            · exact .inr (.inr ⟨h1, h2⟩))
          have d0 := hrow.cell0 hxx (u := .string ⟨#[]⟩) rfl
          have d1 := hrow.cell hxx (j := 1) (u := .float .f64 bx) rfl
          have d2 := hrow.cell hxx (j := 2) (u := .string ⟨#[]⟩) rfl
          have d3 := hrow.cell hxx (j := 3) (u := .slice none 0 0) rfl
          have d4 := hrow.cell hxx (j := 4) (u := .slice none 0 0) rfl
          have d5 := hrow.cell hxx (j := 5) (u := .bool bo) rfl
          have d6 := hrow.cell hxx (j := 6) (u := .string ⟨#[]⟩) rfl
          have d7 := hrow.cell hxx (j := 7) (u := .int .u8 1) rfl
          have d8 := hrow.cell hxx (j := 8) (u := .pointer none) rfl
          have d9 := hrow.cell hxx (j := 9) (u := .pointer none) rfl
          clear hrow hxx hx hst hbc hnum hfc HST hY hbx
          cases bo
          all_goals
            rcases hst3.out with ⟨ho, hY⟩ | ⟨ho, hY⟩ | ⟨ho, hY⟩
            all_goals
              have HY := Lib.hid hY
              clear hY
              go_wp2_with fail
              refine ⟨⟨k + 1, by omega, by go_num, by rw [HY.out], (HB2.out.alloc HB2.out.size _)⟩, by simp [intOf]; omega⟩
      · have hkn : k = n := by omega
        go_wp2_with fail
        go_ret
        exact ⟨by rw [show nums (cs.take k) = nums cs by rw [hkn, HN.out, List.take_length]]; rfl, HB.out.trans (HB2.out.mono HB.out.size)⟩

theorem fx_addn {a b : Nat} (h : a + b ≤ 100000000) : floatBits .add .f64 (fx (a : Int) 0) (fx (b : Int) 0) = some (fx ((a + b : Nat) : Int) 0) := by
  rw [Int.natCast_add]
  exact add_reads (p := 0) (reads_fx _ _ (by omega) (by omega) (by omega)) (reads_fx _ _ (by omega) (by omega) (by omega)) (by omega) (by omega) (by omega)
theorem one_fx : (4607182418800017408 : Nat) = fx ((1 : Nat) : Int) 0 := by decide +kernel
theorem add_run {a b s : Nat} (ha : a ≤ 10000000) (hb : b ≤ 10000000) (hs : s = a + b) (w' : World) : (binOp .add 34 (.float .f64 (fx (a : Int) 0)) (.float .f64 (fx (b : Int) 0))).run Tryz.prog w' = .ok (.float .f64 (fx (s : Int) 0)) w' := by
  subst hs
  exact run_float_arith w' .add 34 .f64 _ _ _ (fx_addn (by omega))
set_option maxRecDepth 20000 in
set_option maxHeartbeats 8000000 in
theorem countSum_cells (cs : List Cel) (hok : ∀ x ∈ cs, x.Ok) (hn : cs.length ≤ 60) (F : Value) (w : World) (g c : Nat) (harr : Arr 0 w 84 10 (.slice (some ⟨g, 0, none⟩) cs.length c) ((cs.map Cel.atom).map Atom.facells)) :
    Calls Tryz.prog 121 #[F, .bool true, .slice (some ⟨g, 0, none⟩) cs.length c] w fun e w' => e = .returned (.tuple #[.float .f64 (fx ((nums cs).length : Int) 0), .float .f64 (fx ((nums cs).sum : Int) 0)]) ∧ Below w.heap.size w w' := by
  obtain ⟨n, hnn⟩ : ∃ n, n = cs.length := ⟨_, rfl⟩
  have HN : Hid (n = cs.length) := hnn
  have HA := Lib.hid harr
  have HOK := Lib.hid hok
  rw [← hnn] at hn HA ⊢
  clear hnn harr hok
  go_enter Tryz.func121, Tryz.ntmps121
  go_wp2_with fail
  go_loopw [6, 7, 16] (fun a b i wr => ∃ k : Nat, k ≤ n ∧ i = .int .i64 k ∧ a = .float .f64 (fx ((nums (cs.take k)).length : Int) 0) ∧ b = .float .f64 (fx ((nums (cs.take k)).sum : Int) 0) ∧ Below w.heap.size w wr) (fun _ _ i _ => n - (intOf i).toNat)
  case atStart => exact ⟨0, Nat.zero_le _, rfl, by show Value.float _ 0 = _; rw [← fx_zero 0]; rfl, by show Value.float _ 0 = _; rw [← fx_zero 0]; rfl, Below.refl _ _⟩
  case round =>
    obtain ⟨k, hk, rfl, rfl, rfl, hb⟩ := hrel
    have HB2 := Lib.hid hb
    clear hb
    by_cases hlt : k < n
    · obtain ⟨x, hx⟩ := one_at HN.out.symm hlt
      have hrow := HA.out.keep HB2.out
      have hxx : ((cs.map Cel.atom).map Atom.facells)[k]? = some x.atom.facells := by rw [List.getElem?_map, List.getElem?_map, hx]; rfl
      have HX : Hid (nums (cs.take (k + 1)) = nums (cs.take k) ++ x.num?.toList) := (by show _ = _; rw [take_snoc hx, nums_snoc])
      obtain ⟨a, ha⟩ : ∃ a, a = (nums (cs.take k)).length := ⟨_, rfl⟩
      obtain ⟨b, hb⟩ : ∃ b, b = (nums (cs.take k)).sum := ⟨_, rfl⟩
      have ha6 : a ≤ 60 := (by rw [ha]; have h1 := nums_len (cs.take k); have h2 := List.length_take_le k cs; omega)
      have hb6 : b ≤ 6000000 := (by
        rw [hb]
        have h1 := sum_le (nums_take_le HOK.out k)
        have h2 : (nums (cs.take k)).length * 100000 ≤ 60 * 100000 := Nat.mul_le_mul_right _ (by rw [← ha]; exact ha6)
        omega)
      rcases x.fcase (HOK.out x (List.mem_of_getElem? hx)) with ⟨hnum, hfc⟩ | ⟨m, bo, hm, hnum, hfc⟩
      · rw [hfc] at hxx
        have HY : Hid (nums (cs.take (k + 1)) = nums (cs.take k)) := (by show _ = _; rw [HX.out, hnum]; simp)
        have d0 := hrow.cell0 hxx (u := .string ⟨#[]⟩) rfl
        have d1 := hrow.cell hxx (j := 1) (u := .float .f64 0) rfl
        have d2 := hrow.cell hxx (j := 2) (u := .string ⟨#[]⟩) rfl
        have d3 := hrow.cell hxx (j := 3) (u := .slice none 0 0) rfl
        have d4 := hrow.cell hxx (j := 4) (u := .slice none 0 0) rfl
        have d5 := hrow.cell hxx (j := 5) (u := .bool false) rfl
        have d6 := hrow.cell hxx (j := 6) (u := .string ⟨#[]⟩) rfl
        have d7 := hrow.cell hxx (j := 7) (u := .int .u8 6) rfl
        have d8 := hrow.cell hxx (j := 8) (u := .pointer none) rfl
        have d9 := hrow.cell hxx (j := 9) (u := .pointer none) rfl
        clear hrow hxx hx hnum hfc ha hb
        go_wp2_with fail
        refine ⟨⟨k + 1, by omega, by go_num, by rw [HY.out], by rw [HY.out], (HB2.out.alloc HB2.out.size _)⟩, by simp [intOf]; omega⟩
      · rw [hfc] at hxx
        have HY1 : Hid ((nums (cs.take (k + 1))).length = a + 1) := (by show _ = _; rw [HX.out, hnum, ha]; simp)
        have HY2 : Hid ((nums (cs.take (k + 1))).sum = b + m) := (by show _ = _; rw [HX.out, hnum, hb]; simp)
        rw [← ha, ← hb]
        obtain ⟨a1, ha1⟩ : ∃ a1, a1 = a + 1 := ⟨_, rfl⟩
        obtain ⟨b1, hb1⟩ : ∃ b1, b1 = b + m := ⟨_, rfl⟩
        have r1 := add_run (a := a) (b := 1) (by omega) (by omega) ha1
        have r2 := add_run (a := b) (b := m) (by omega) (by omega) hb1
        rw [← one_fx] at r1
        rw [← ha1] at HY1
        rw [← hb1] at HY2
        have d0 := hrow.cell0 hxx (u := .string ⟨#[]⟩) rfl
        have d1 := hrow.cell hxx (j := 1) (u := .float .f64 (fx (m : Int) 0)) rfl
        have d2 := hrow.cell hxx (j := 2) (u := .string ⟨#[]⟩) rfl
        have d3 := hrow.cell hxx (j := 3) (u := .slice none 0 0) rfl
        have d4 := hrow.cell hxx (j := 4) (u := .slice none 0 0) rfl
        have d5 := hrow.cell hxx (j := 5) (u := .bool bo) rfl
        have d6 := hrow.cell hxx (j := 6) (u := .string ⟨#[]⟩) rfl
        have d7 := hrow.cell hxx (j := 7) (u := .int .u8 1) rfl
        have d8 := hrow.cell hxx (j := 8) (u := .pointer none) rfl
        have d9 := hrow.cell hxx (j := 9) (u := .pointer none) rfl
        clear hrow hxx hx hnum hfc ha hb ha1 hb1
        go_wp2_with fail
        refine ⟨⟨k + 1, by omega, by go_num, by rw [HY1.out], by rw [HY2.out], (HB2.out.alloc HB2.out.size _)⟩, by simp [intOf]; omega⟩
    · have hkn : k = n := by omega
      have HY : Hid (nums (cs.take k) = nums cs) := (by show _ = _; rw [hkn, HN.out, List.take_length])
      go_wp2_with fail
      go_ret2
      exact ⟨by rw [HY.out]; rfl, HB2.out⟩
end Go.Proofs.YtoebgbojpkflnaaGreatDoor
