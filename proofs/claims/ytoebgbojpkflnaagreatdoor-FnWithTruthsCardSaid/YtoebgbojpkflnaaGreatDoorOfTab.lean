/- The laws' of at a table. -/
import Derived.Test.YtoebgbojpkflnaaGreatDoorTabs
import Derived.Outline
namespace Go.Proofs.YtoebgbojpkflnaaGreatDoor
open Go Go.RowKit
theorem info29 : (Tryz.prog.info? 29).map (fun i => (i.zero, i.size, i.bytes)) = some (some (.slice none 0 0), 1, 24) := by kernel_rfl
theorem Tab.at {B : Nat} {w : World} {eo ei sz : Nat} {g n c : Nat} {xs : List (List (List Value))} (h : Tab B w eo ei sz (.slice (some ⟨g, 0, none⟩) n c) xs) {i : Nat} {x : List (List Value)} (hx : xs[i]? = some x) :
    ∃ r, w.cell? ⟨g, i, none⟩ = some r ∧ Arr B w ei sz r x := by
  obtain ⟨rs, h1, h2, h3⟩ := h
  obtain ⟨r, hr⟩ : ∃ r, rs[i]? = some r := ⟨_, List.getElem?_eq_getElem (by have := (List.getElem?_eq_some_iff.1 hx).1; omega)⟩
  have hc := h1.cell0 (i := i) (x := [r]) (u := r) (by rw [List.getElem?_map, hr]; rfl) rfl
  rw [Nat.mul_one] at hc
  exact ⟨r, hc, (h3 i r x hr hx).1⟩
theorem Tab.own_ge {B : Nat} {w : World} {eo ei sz : Nat} {v : Value} {xs : List (List (List Value))} (h : Tab B w eo ei sz v xs) : ∀ k, v.ownBlock = some k → B ≤ k := by
  obtain ⟨rs, h1, _, _⟩ := h
  exact fun k hk => (h1.row.lt k hk).1
theorem Tab.own_lt {B : Nat} {w : World} {eo ei sz : Nat} {v : Value} {xs : List (List (List Value))} (h : Tab B w eo ei sz v xs) : ∀ k, v.ownBlock = some k → k < w.heap.size := by
  obtain ⟨rs, h1, _, _⟩ := h
  exact fun k hk => (h1.row.lt k hk).2
theorem Blk.grownBy' {w w' : World} {b : Nat} {t : TypeId} {cs : List Value} {row : Option Nat} (h : Blk w b t cs) (hg : w.grownBy w' row) (hne : row ≠ some b) : Blk w' b t cs := (hg.block b h.lt (fun e => hne e.symm)).trans h
set_option maxRecDepth 20000 in
set_option maxHeartbeats 4000000 in
theorem of_table (cs : List Cel) (hok : ∀ x ∈ cs, x.Ok) (w : World) (g c : Nat) (htab : Tab 0 w 31 27 5 (.slice (some ⟨g, 0, none⟩) cs.length c) (cs.map fun x => [x.cells])) (hn : cs.length ≤ 100) :
    Calls Tryz.prog 51 #[.agg #[.int .i64 5, .int .i64 0, .int .i64 0, .string ⟨#[]⟩, .slice (some ⟨g, 0, none⟩) cs.length c]] w fun e w' => ∃ v, e = .returned (.agg #[.int .i64 5, .float .f64 0, .string ⟨#[]⟩, v]) ∧ Tab w.heap.size w' 29 37 4 v (cs.map fun x => [x.atom.cells]) ∧ Below w.heap.size w w' := by
  have HT := Lib.hid htab
  have HOK := Lib.hid hok
  obtain ⟨n, hnn⟩ : ∃ n, n = cs.length := ⟨_, rfl⟩
  have HN : Hid (n = cs.length) := hnn
  rw [← hnn] at hn HT ⊢
  clear hnn htab hok
  go_enter Tryz.func51, Tryz.ntmps51
  go_wp2_with fail
  refine abs_wp (fun w' => Blk w' w.heap.size 27 [.int .i64 5, .int .i64 0, .int .i64 0, .string ⟨#[]⟩, .slice (some ⟨g, 0, none⟩) n c] ∧ Blk w' (w.heap.size + 1) 37 [.int .i64 0, .float .f64 0, .string ⟨#[]⟩, .slice none 0 0] ∧ Blk w' (w.heap.size + 1 + 1) 37 [.int .i64 5, .float .f64 0, .string ⟨#[]⟩, .slice none 0 0] ∧ Below w.heap.size w w') ⟨((Blk.new w 27 _).alloc _).alloc _, (blk_at (by simp) (Blk.new (w.alloc _) 37 _)).alloc _, blk_at (by simp) (Blk.new ((w.alloc _).alloc _) 37 _), by go_grown⟩ ?_
  rintro w1 ⟨hb27, hb37, hb38, hbl⟩
  have HG : Hid (g < w.heap.size ∨ n = 0) := (by
    rcases HT.out.shape with ⟨h, _⟩ | ⟨g', c', h, hl⟩
    · cases h
    · left; injection h with h1; injection h1 with h1; injection h1 with h1; rw [h1]; exact hl)
  go_loopw [4] (fun i wr => ∃ (k : Nat) (vk : Value), k ≤ n ∧ i = .int .i64 k ∧ Blk wr w.heap.size 27 [.int .i64 5, .int .i64 0, .int .i64 0, .string ⟨#[]⟩, .slice (some ⟨g, 0, none⟩) n c] ∧ Blk wr (w.heap.size + 1) 37 [.int .i64 0, .float .f64 0, .string ⟨#[]⟩, .slice none 0 0] ∧ Blk wr (w.heap.size + 1 + 1) 37 [.int .i64 5, .float .f64 0, .string ⟨#[]⟩, vk] ∧ Tab (w.heap.size + 1 + 1 + 1) wr 29 37 4 vk ((cs.take k).map fun x => [x.atom.cells]) ∧ Below w.heap.size w wr) (fun i _ => n - (intOf i).toNat)
  case atStart => exact ⟨0, .slice none 0 0, Nat.zero_le _, rfl, hb27, hb37, hb38, Tab.nil, hbl⟩
  case round =>
    obtain ⟨k, vk, hk, rfl, h27, h37, h38, htk, hbk⟩ := hrel
    have H27 := Lib.hid h27
    have H37 := Lib.hid h37
    have H38 := Lib.hid h38
    have HTK := Lib.hid htk
    have HBK := Lib.hid hbk
    have b4 := h27.get 4 rfl
    clear h27 h37 h38 htk hbk hb27 hb37 hb38 hbl
    by_cases hlt : k < n
    · obtain ⟨x, hx⟩ : ∃ x, cs[k]? = some x := ⟨_, List.getElem?_eq_getElem (by rw [← HN.out]; exact hlt)⟩
      have hgl : g < w.heap.size := HG.out.resolve_right (by omega)
      obtain ⟨r, hr, har⟩ := HT.out.at (i := k) (x := [x.cells]) (by rw [List.getElem?_map, hx]; rfl)
      have er : wr.cell? ⟨g, k, none⟩ = some r := (HBK.out.cell (p := ⟨g, k, none⟩) hgl).trans hr
      have HAR := Lib.hid (har.keep HBK.out)
      obtain ⟨g1, c1, hr1⟩ : ∃ g1 c1, r = .slice (some ⟨g1, 0, none⟩) 1 c1 := (by
        rcases har.shape with ⟨_, h⟩ | ⟨g1, c1, h, _⟩
        · cases h
        · exact ⟨g1, c1, h⟩)
      subst hr1
      have HX := Lib.hid hx
      have d3 := H38.out.get 3 rfl
      have l38 := H38.out.lt
      have HO1 : Hid (∀ y ∈ [x], y.Ok) := (by show ∀ y ∈ [x], y.Ok; intro y hy; simp at hy; subst hy; exact HOK.out _ (List.mem_of_getElem? HX.out))
      have HL4 : Hid (((cs.take k).map fun x => [x.atom.cells]).length ≤ 4000000000) := by
        have := List.length_take_le k cs; show _ ≤ _; rw [List.length_map]; omega
      clear hr har hx
      go_wp2_with fail
      go_region_law (first
        | (refine step_fn1 (by rfl) 13 Tryz.f13 (.tmp 43) 31 (by rfl) Tryz.func13 (by kernel_rfl) (by rfl) (.slice (some ⟨g1, 0, none⟩) 1 c1) (by simp [Act.eval]) (all_any [x] HO1.out _ g1 c1 (HAR.out.keep (by go_grown)) (by simp)) ?_; rintro e w2 ⟨v2, rfl, har2, hb2⟩; refine ⟨v2, rfl, ?_⟩; have hb2' : Below wr.heap.size wr w2 := Below.trans (by go_grown) hb2; obtain ⟨g2, c2, rfl⟩ : ∃ g2 c2, v2 = .slice (some ⟨g2, 0, none⟩) 1 c2 := (by rcases har2.shape with ⟨_, h⟩ | ⟨g2, c2, h, _⟩; cases h; exact ⟨g2, c2, h⟩); have d3' := (H38.out.below hb2' l38).get 3 rfl; have l38' := (H38.out.below hb2' l38).lt; have HAR2 : Hid (Arr wr.heap.size w2 37 4 (.slice (some ⟨g2, 0, none⟩) 1 c2) [x.atom.cells]) := Lib.hid har2; have HB2 := Lib.hid hb2'; clear har2 hb2 hb2')
        | (go_loud (refine step_append_tab (by rfl) (.tmp 38) (.tmp 45) 35 (by rfl) (w.heap.size + 1 + 1 + 1) 29 37 4 _ 24 Tryz.underlying35 info29 rfl (by decide) vk _ (by simp [Act.eval]) (HTK.out.keep (HB2.out.trans (Below.mono (by go_grown) HB2.out.size))) ⟨w2.heap.size, 0, none⟩ 1 (.slice (some ⟨g2, 0, none⟩) 1 c2) [x.atom.cells] (by simp [Act.eval]) (news_cells w2 29 [.slice (some ⟨g2, 0, none⟩) 1 c2] w2.heap.size rfl 0 _ rfl) rfl ((HAR2.out.base (by have := l38; omega)).alloc _) (fun k hk e => by have h1 := HTK.out.own_lt k hk; have h2 := (HAR2.out.row.lt k e).1; omega) HL4.out (by have := HB2.out.size; simp; omega) ?_; intro v3 w3 ht3 hg3; obtain ⟨g3, n3, c3, rfl⟩ : ∃ g3 n3 c3, v3 = .slice (some ⟨g3, 0, none⟩) n3 c3 := (by rcases ht3.shape with ⟨_, h⟩ | ⟨g3, c3, h, _⟩; simp at h; exact ⟨g3, _, c3, h⟩); have h38c := ((H38.out.below HB2.out l38).alloc (.cells #[.slice (some ⟨g2, 0, none⟩) 1 c2] 29)).grownBy' hg3 (fun e => by have := HTK.out.own_ge _ e; omega); have H38C := Lib.hid h38c; have k3 := h38c.get 3 rfl; have kf := h38c.free 3; have HT3 := Lib.hid ht3; have HB3 : Hid (Below (w.heap.size + 1 + 1 + 1) wr w3) := Lib.hid (((HB2.out.mono (by omega)).alloc (by have := HB2.out.size; omega) _).trans ((Below.refl _ _).grown hg3 (by have := HB2.out.size; simp; omega) (fun k hk => HTK.out.own_ge k hk))); clear h38c ht3 hg3)))
      all_goals
        have HT4 : Hid (Tab (w.heap.size + 1 + 1 + 1) w3 29 37 4 (.slice (some ⟨g3, 0, none⟩) n3 c3) ((cs.take (k + 1)).map fun x => [x.atom.cells])) := (by show Tab _ _ _ _ _ _ _; rw [take_snoc HX.out, List.map_append]; exact HT3.out)
        clear HT3
        go_wp2_with fail
        refine ⟨⟨k + 1, _, by omega, by go_num, (H27.out.below HB3.out (by omega)).other (by show w.heap.size ≠ w.heap.size + 1 + 1; omega) _, (H37.out.below HB3.out (by omega)).other (by show w.heap.size + 1 ≠ w.heap.size + 1 + 1; omega) _, (H38.out.below HB3.out (by omega)).set 3 _, HT4.out.above (fun j hj hB => Below.heap_setCell _ _ _ j (by show j ≠ w.heap.size + 1 + 1; omega)), (HBK.out.trans (HB3.out.mono (by omega))).setCell (by show w.heap.size ≤ w.heap.size + 1 + 1; omega) _⟩, by simp [intOf]; omega⟩
    · have hkn : k = n := by omega
      have HV : Hid (vk = .slice none 0 0 ∨ ∃ g n c, vk = .slice (some ⟨g, 0, none⟩) n c) := (by
        rcases HTK.out.shape with ⟨h, _⟩ | ⟨g, c, h, _⟩
        · exact .inl h
        · exact .inr ⟨g, _, c, h⟩)
      have hone : ([.int .i64 5, .float .f64 0, .string ⟨#[]⟩, vk] : List Value).all (fun u => u.oneCell') = true := (by rcases HV.out with h | ⟨g', n', c', h⟩ <;> rw [h] <;> rfl)
      have HO := Lib.hid hone
      have d0 := H38.out.get 0 rfl
      have d1 := H38.out.get 1 rfl
      have d2 := H38.out.get 2 rfl
      have d3 := H38.out.get 3 rfl
      clear hone
      go_wp2_with (refine store_row rfl 37 (.tmp 2) (.tmp 48) rfl (w.heap.size + 1) 37 [.int .i64 0, .float .f64 0, .string ⟨#[]⟩, .slice none 0 0] [.int .i64 5, .float .f64 0, .string ⟨#[]⟩, vk] rfl rfl H37.out size37 rfl HO.out w.heap.size (Nat.le_succ _) ?_; intro w6 hr6 hb6 hp6)
      have ht6 := (HTK.out.above (fun k hk hB => hp6.kept k hk (by omega))).base (B' := w.heap.size) (by omega)
      rw [hkn, HN.out, List.take_length] at ht6
      exact bodyPost_ret (ret_row rfl _ _ (w.heap.size + 1) 37 [.int .i64 5, .float .f64 0, .string ⟨#[]⟩, vk] _ rfl hr6 Tryz.underlying37 rfl size37) rfl ⟨vk, rfl, ht6, HBK.out.trans hb6⟩
end Go.Proofs.YtoebgbojpkflnaaGreatDoor
