/- Proof of FnSquaresJoined, a part: innerArg at a table; the arguments of a function as a list of tables. -/
import Derived.StillTailTactics
import Derived.Test.YtoebgbojpkflnaaGreatDoorJAllTab
namespace Go.Proofs.YtoebgbojpkflnaaGreatDoor
open Go Go.RowKit
theorem info84 : (Tryz.prog.info? 84).map (fun i => (i.zero, i.size, i.bytes)) = some (some (.agg #[.string ⟨#[]⟩, .float .f64 0, .string ⟨#[]⟩, .slice none 0 0, .slice none 0 0, .bool false, .string ⟨#[]⟩, .int .u8 0, .pointer none, .pointer none]), 10, 136) := by kernel_rfl
theorem info79 : (Tryz.prog.info? 79).map (fun i => (i.zero, i.size, i.bytes)) = some (some (.slice none 0 0), 1, 24) := by kernel_rfl
/-- A formulaArg without parts, as its cells. -/
def Atom.facells : Atom → List Value
  | .num b => [.string ⟨#[]⟩, .float .f64 b, .string ⟨#[]⟩, .slice none 0 0, .slice none 0 0, .bool false, .string ⟨#[]⟩, .int .u8 1, .pointer none, .pointer none]
  | .text s => [.string ⟨#[]⟩, .float .f64 0, .string s, .slice none 0 0, .slice none 0 0, .bool false, .string ⟨#[]⟩, .int .u8 2, .pointer none, .pointer none]
  | .logic x => [.string ⟨#[]⟩, .float .f64 (boolFl x), .string ⟨#[]⟩, .slice none 0 0, .slice none 0 0, .bool true, .string ⟨#[]⟩, .int .u8 1, .pointer none, .pointer none]
  | .empty => [.string ⟨#[]⟩, .float .f64 0, .string ⟨#[]⟩, .slice none 0 0, .slice none 0 0, .bool false, .string ⟨#[]⟩, .int .u8 6, .pointer none, .pointer none]
  | .err s => [.string ⟨#[]⟩, .float .f64 0, .string s, .slice none 0 0, .slice none 0 0, .bool false, .string s, .int .u8 5, .pointer none, .pointer none]
theorem Atom.fa_eq (a : Atom) : a.fa = .agg a.facells.toArray := by cases a <;> rfl
theorem Atom.fq (a : Atom) : ∃ b s bo m ty, a.facells = [.string ⟨#[]⟩, .float .f64 b, .string s, .slice none 0 0, .slice none 0 0, .bool bo, .string m, .int .u8 ty, .pointer none, .pointer none] := by cases a <;> exact ⟨_, _, _, _, _, rfl⟩
theorem Atom.fone (a : Atom) : ∀ u ∈ a.facells, u.oneCell' = true := by
  obtain ⟨b, s, bo, m, ty, h⟩ := a.fq
  rw [h]
  intro u hu; simp at hu; rcases hu with rfl | rfl | rfl | rfl | rfl | rfl | rfl | rfl <;> rfl
/-- A matrix as a formulaArg. -/
def matCells (v p q : Value) : List Value := [.string ⟨#[]⟩, .float .f64 0, .string ⟨#[]⟩, .slice none 0 0, v, .bool false, .string ⟨#[]⟩, .int .u8 4, p, q]
def matVal (v p q : Value) : Value := .agg #[.string ⟨#[]⟩, .float .f64 0, .string ⟨#[]⟩, .slice none 0 0, v, .bool false, .string ⟨#[]⟩, .int .u8 4, p, q]
/-- A formulaArg that is a table. -/
def MatAt (w : World) (f : Value) (t : List Atom) : Prop := ∃ v p q, f = matVal v p q ∧ (v = .slice none 0 0 ∨ ∃ g n c, v = .slice (some ⟨g, 0, none⟩) n c) ∧ (∃ p', p = .pointer p') ∧ (∃ q', q = .pointer q') ∧ Tab 0 w 79 84 10 v (t.map fun a => [a.facells])
set_option maxRecDepth 20000 in
set_option maxHeartbeats 2000000 in
theorem newMat_any (v : Value) (hv : v = .slice none 0 0 ∨ ∃ g n c, v = .slice (some ⟨g, 0, none⟩) n c) (w : World) : Calls Tryz.prog 143 #[v] w fun e w' => e = .returned (matVal v (.pointer none) (.pointer none)) ∧ Below w.heap.size w w' := by
  rcases hv with rfl | ⟨g, n, c, rfl⟩
  all_goals
    go_enter Tryz.func143, Tryz.ntmps143
    go_wp2
    go_returns
    exact ⟨rfl, by go_grown⟩
def InRel (w : World) (x : List Value) (v i : Value) (wr : World) : Prop := (i = .int .i64 0 ∧ v = .slice none 0 0 ∧ wr = w) ∨ (i = .int .i64 1 ∧ Arr w.heap.size wr 84 10 v [x] ∧ Below w.heap.size w wr)
set_option maxRecDepth 20000 in
set_option maxHeartbeats 8000000 in
theorem innerArg_tab (t : List Atom) (hok : ∀ a ∈ t, a.Ok) (hn : t.length ≤ 100) (hne : t ≠ []) (w : World) (rg rc : Nat) (htab : Tab 0 w 66 64 4 (.slice (some ⟨rg, 0, none⟩) t.length rc) (t.map fun a => [a.cells])) :
    Calls Tryz.prog 109 #[tabVal (.slice (some ⟨rg, 0, none⟩) t.length rc)] w fun e w' => ∃ v p q, e = .returned (matVal v p q) ∧ (∃ p', p = .pointer p') ∧ (∃ q', q = .pointer q') ∧ Tab w.heap.size w' 79 84 10 v (t.map fun a => [a.facells]) ∧ Below w.heap.size w w' := by
  have HT := Lib.hid htab
  have HOK := Lib.hid hok
  have HRG : Hid (rg < w.heap.size) := (by
    rcases htab.shape with ⟨h, _⟩ | ⟨g', c', h, hl⟩
    · cases h
    · injection h with h1; injection h1 with h1; injection h1 with h1; show rg < w.heap.size; rw [h1]; exact hl)
  obtain ⟨n, hnn⟩ : ∃ n, n = t.length := ⟨_, rfl⟩
  have HN : Hid (n = t.length) := hnn
  have hn0 : 0 < n := (by rw [hnn]; exact List.length_pos_iff.2 hne)
  rw [← hnn] at hn HT ⊢
  clear hnn htab hok hne
  unfold tabVal
  go_enter Tryz.func109, Tryz.ntmps109
  go_wp2_with fail
  refine abs_wp (fun w' => Blk w' w.heap.size 64 [.int .i64 5, .float .f64 0, .string ⟨#[]⟩, .slice (some ⟨rg, 0, none⟩) n rc] ∧ Blk w' (w.heap.size + 1) 84 [.string ⟨#[]⟩, .float .f64 0, .string ⟨#[]⟩, .slice none 0 0, .slice none 0 0, .bool false, .string ⟨#[]⟩, .int .u8 0, .pointer none, .pointer none] ∧ Below w.heap.size w w') ⟨(Blk.new w 64 _).alloc _, blk_at (by simp) (Blk.new (w.alloc _) 84 _), by go_grown⟩ ?_
  rintro w1 ⟨hb64, hb84, hbl⟩
  have HLT : Hid (w.heap.size + 1 < w1.heap.size) := Lib.hid hb84.lt
  go_loopw [3, 40] (fun v i wr => ∃ k : Nat, k ≤ n ∧ i = .int .i64 k ∧ Blk wr (w.heap.size + 1) 84 [.string ⟨#[]⟩, .float .f64 0, .string ⟨#[]⟩, .slice none 0 0, .slice none 0 0, .bool false, .string ⟨#[]⟩, .int .u8 0, .pointer none, .pointer none] ∧ Tab (w.heap.size + 1 + 1) wr 79 84 10 v ((t.take k).map fun a => [a.facells]) ∧ Below w.heap.size w wr) (fun _ i _ => n - (intOf i).toNat)
  case atStart => exact ⟨0, Nat.zero_le _, rfl, hb84, Tab.nil, hbl⟩
  case round =>
    obtain ⟨k, hk, rfl, h84, htk, hbk⟩ := hrel
    have H84 := Lib.hid h84
    have HTK := Lib.hid htk
    have HBK := Lib.hid hbk
    have hbs := hbk.size
    have l84 := h84.lt
    clear h84 htk hbk hb64 hb84 hbl
    by_cases hlt : k < n
    · obtain ⟨x, hx⟩ := one_at HN.out.symm hlt
      obtain ⟨q, hq, haq⟩ := HT.out.at (i := k) (x := [x.cells]) (by rw [List.getElem?_map, hx]; rfl)
      have er : wr.cell? ⟨rg, k, none⟩ = some q := (HBK.out.cell (p := ⟨rg, k, none⟩) HRG.out).trans hq
      have HAR := Lib.hid (haq.keep HBK.out)
      obtain ⟨g1, c1, hr1⟩ : ∃ g1 c1, q = .slice (some ⟨g1, 0, none⟩) 1 c1 := (by
        rcases haq.shape with ⟨_, h⟩ | ⟨g1, c1, h, _⟩
        · cases h
        · exact ⟨g1, c1, h⟩)
      subst hr1
      have HX := Lib.hid hx
      have HXO : Hid x.Ok := Lib.hid (HOK.out x (List.mem_of_getElem? hx))
      have HL4 : Hid (((t.take k).map fun a => [a.facells]).length ≤ 4000000000) := by
        have := List.length_take_le k t; show _ ≤ _; rw [List.length_map]; omega
      obtain ⟨x0, x1, x2, hxq⟩ := x.trio
      have HXQ := Lib.hid hxq
      have c0 := HAR.out.cell0 (i := 0) (u := .int .i64 x0) rfl (by rw [hxq]; rfl)
      have c1' := HAR.out.cell (i := 0) (j := 1) (u := .float .f64 x1) rfl (by rw [hxq]; rfl)
      have c2 := HAR.out.cell (i := 0) (j := 2) (u := .string x2) rfl (by rw [hxq]; rfl)
      have c3 := HAR.out.cell (i := 0) (j := 3) (u := .slice none 0 0) rfl (by rw [hxq]; rfl)
      have HG1 := Lib.hid (World.block_lt_of_cell? _ _ c0)
      rename World => wo
      clear hq haq hx hxq
      go_wp2_with fail
      go_loopw [6, 46] (fun v i wq => InRel wo x.facells v i wq) (fun _ i _ => 1 - (intOf i).toNat)
      case atStart => exact .inl ⟨rfl, rfl, rfl⟩
      case round =>
        rcases hrel with ⟨rfl, rfl, rfl⟩ | ⟨rfl, ha, hb⟩
        · go_wp2_with fail
          have hia := innerArg_any x (wr.alloc (.cells #[.int .i64 x0, .float .f64 x1, .string x2, .slice none 0 0] 64)) HXO.out
          obtain ⟨b, s, bo, m, ty, hq⟩ := x.fq
          have HQ := Lib.hid hq
          rw [Atom.val_eq, HXQ.out, Atom.fa_eq, hq] at hia
          have HIA := Lib.hid hia
          clear hia hq
          refine Calls.mono HIA.out ?_
          rintro e w2 ⟨rfl, hb2⟩
          have HB2 : Hid (Below wr.heap.size wr w2) := Below.trans (by go_grown) (hb2.mono (by simp))
          clear hb2 c0 c1' c2 c3
          go_wp2_with (at_builtin; refine append_one rfl (.tmp 50) (.tmp 53) 79 rfl wr.heap.size 84 _ 10 136 Tryz.underlying79 info84 rfl (by decide) (by decide) (.slice none 0 0) [] rfl (Arr.nil _ _ _ _) ⟨w2.heap.size, 0, none⟩ 1 [.string ⟨#[]⟩, .float .f64 b, .string s, .slice none 0 0, .slice none 0 0, .bool bo, .string m, .int .u8 ty, .pointer none, .pointer none] rfl rfl (news_cells _ _ _ _ rfl) (by rw [← HQ.out]; exact x.fone) (by simp) (le_alloc1 HB2.out.size _) ?_; intro v3 w3 ha3 hb3)
          refine ⟨.inr ⟨rfl, by rw [HQ.out]; simpa using ha3, (HB2.out.alloc HB2.out.size _).trans hb3⟩, by simp [intOf]⟩
        · have HA := Lib.hid ha
          have HB := Lib.hid hb
          obtain ⟨g2, cp, hv2⟩ : ∃ g2 cp, u6 = .slice (some ⟨g2, 0, none⟩) 1 cp := (by
            rcases ha.shape with ⟨_, h⟩ | ⟨g2, cp, h, _⟩
            · cases h
            · exact ⟨g2, cp, h⟩)
          subst hv2
          have HTK2 := Lib.hid (HTK.out.keep hb)
          have H842 := Lib.hid (H84.out.below hb l84)
          have HB2 : Hid (Below w.heap.size w wr) := HBK.out.trans (hb.mono hbs)
          have hwr := hb.size
          clear ha hb c0 c1' c2 c3
          go_wp2_with (at_builtin; refine append_tab rfl (.tmp 56) (.tmp 58) 80 rfl (w.heap.size + 1 + 1) 79 84 10 _ 24 Tryz.underlying80 info79 rfl (by decide) _ _ rfl (HTK2.out.keep ((Below.refl _ _).alloc (Nat.le_refl _) _)) ⟨wr.heap.size, 0, none⟩ 1 (.slice (some ⟨g2, 0, none⟩) 1 cp) [x.facells] rfl ?_ rfl ?_ ?_ HL4.out ?_ ?_)
          · exact news_cells wr 79 [.slice (some ⟨g2, 0, none⟩) 1 cp] wr.heap.size rfl 0 _ rfl
          · exact (HA.out.base (by omega)).alloc _
          · exact fun j hj e => by have h1 := HTK.out.own_lt j hj; have h2 := (HA.out.row.lt j e).1; omega
          · simp; omega
          · intro v3 w3 ht3 hb3
            have HT3 : Hid (Tab (w.heap.size + 1 + 1) w3 79 84 10 v3 ((t.take (k + 1)).map fun a => [a.facells])) := (by show Tab _ _ _ _ _ _ _; rw [take_snoc HX.out, List.map_append, List.map_take]; exact ht3)
            have HB3 := Lib.hid hb3
            clear ht3 hb3
            go_wp2_with fail
            refine ⟨⟨k + 1, by omega, by go_num, (H842.out.alloc _).below HB3.out (by omega), HT3.out, (HB2.out.alloc HB2.out.size _).trans (HB3.out.mono (by omega))⟩, by simp [intOf]; omega⟩
    · have hkn : k = n := by omega
      obtain ⟨g5, c5, hv5⟩ : ∃ g5 c5, u3 = .slice (some ⟨g5, 0, none⟩) n c5 := (by
        rcases HTK.out.shape with ⟨_, h⟩ | ⟨g5, c5, h, _⟩
        · have h1 : ((t.take k).map fun a => [a.facells]).length = 0 := by rw [h]; rfl
          rw [List.length_map, List.length_take, ← HN.out] at h1
          omega
        · exact ⟨g5, c5, by rw [h, List.length_map, List.length_take, ← HN.out, hkn, Nat.min_self]⟩)
      subst hv5
      obtain ⟨x, hx⟩ := one_at HN.out.symm hn0
      obtain ⟨q0, hq0, haq0⟩ := HTK.out.at (i := 0) (x := [x.facells]) (by rw [List.getElem?_map, List.getElem?_take_of_lt (by omega), hx]; rfl)
      obtain ⟨g6, c6, hq6⟩ : ∃ g6 c6, q0 = .slice (some ⟨g6, 0, none⟩) 1 c6 := (by
        rcases haq0.shape with ⟨_, h⟩ | ⟨g6, c6, h, _⟩
        · cases h
        · exact ⟨g6, c6, h⟩)
      subst hq6
      have HQ0 := Lib.hid hq0
      have HL0 := Lib.hid (World.block_lt_of_cell? _ _ hq0)
      clear hx hq0 haq0
      rename World => wo
      go_wp2_with fail
      refine (newMat_any _ (.inr ⟨_, _, _, rfl⟩) _).mono ?_
      rintro e w5 ⟨rfl, hb5⟩
      have HB5 := Lib.hid hb5
      have hs5 := hb5.size
      clear hb5
      go_wp2_with (refine store_row rfl 84 (.tmp 9) (.tmp 62) rfl w5.heap.size 84 [.string ⟨#[]⟩, .float .f64 0, .string ⟨#[]⟩, .slice none 0 0, .slice none 0 0, .bool false, .string ⟨#[]⟩, .int .u8 0, .pointer none, .pointer none] (matCells (.slice (some ⟨g5, 0, none⟩) n c5) (.pointer none) (.pointer none)) rfl rfl (Blk.new w5 84 [.string ⟨#[]⟩, .float .f64 0, .string ⟨#[]⟩, .slice none 0 0, .slice none 0 0, .bool false, .string ⟨#[]⟩, .int .u8 0, .pointer none, .pointer none]) size84 rfl rfl w5.heap.size (Nat.le_refl _) ?_; intro w6 hr6 hb6 hp6; have HR6 := Lib.hid hr6; have HB6 : Hid (Below w5.heap.size w5 w6) := ((Below.refl _ _).alloc (Nat.le_refl _) _).trans hb6; have lt6 := hr6.lt; have hs6 := HB6.out.size; clear hr6 hb6 hp6)
      refine (new_any _).mono ?_
      rintro e w7 ⟨rfl, hl7, hb7⟩
      clear hl7
      have HB7 := Lib.hid hb7
      have hs7 := hb7.size
      clear hb7
      go_wp2_with fail
      refine (new_any _).mono ?_
      rintro e w8 ⟨rfl, hl8, hb8⟩
      have HIL := Lib.hid hl8
      have HB8 := Lib.hid hb8
      have hs8 := hb8.size
      have hr8 := (HR6.out.below HB7.out lt6).below hb8 (by omega)
      have HR8 := Lib.hid hr8
      have e8 := hr8.get 8 rfl
      have e9 := hr8.get 9 rfl
      have ef := hr8.free
      clear hl8 hb8 hr8
      go_wp2_with fail
      refine abs_wp (fun w' => Blk w' w5.heap.size 84 (matCells (.slice (some ⟨g5, 0, none⟩) n c5) (.pointer (some ⟨w6.heap.size, 0, none⟩)) (.pointer (some ⟨w7.heap.size, 0, none⟩))) ∧ IsList w7.heap.size w' w7.heap.size [] [] ∧ Below wo.heap.size wo w') ⟨(HR8.out.set 8 _).set 9 _, ⟨rfl, Nat.le_refl _, by simp, (HIL.out.root.other (by show w7.heap.size ≠ w5.heap.size; omega) _).other (by show w7.heap.size ≠ w5.heap.size; omega) _, by simp⟩, (((HB5.out.trans (HB6.out.mono hs5)).trans (HB7.out.mono (by omega))).trans (HB8.out.mono (by omega))).setCell (by show wo.heap.size ≤ w5.heap.size; exact hs5) _ |>.setCell (by show wo.heap.size ≤ w5.heap.size; exact hs5) _⟩ ?_
      rintro w9 ⟨hr9, hl9, hb9⟩
      clear e8 e9 ef
      have HL9 := Lib.hid hl9
      have HB9 := Lib.hid hb9
      have HR9 := Lib.hid hr9
      have e9 := hr9.get 9 rfl
      have l9 := hr9.lt
      have q9 := (hb9.cell (p := ⟨g5, 0, none⟩) HL0.out).trans HQ0.out
      have lL := hl9.root.lt
      clear hl9 hb9 hr9
      go_still_tail 12, (by kernel_rfl)
      change wpList _ _ _ _ _ w9.drew
      go_wp2_with fail
      refine (push_first w7.heap.size w7.heap.size 142 _ _ (HL9.out.keep (below_drewN' (Below.refl _ _) 1))).mono ?_
      rintro e w10 ⟨rfl, hl10, hb10, hp10⟩
      have hr10 := (HR9.out.drewN 1).below hb10 (by omega)
      have HR10 := Lib.hid hr10
      have d0 := hr10.get 0 rfl
      have d1 := hr10.get 1 rfl
      have d2 := hr10.get 2 rfl
      have d3 := hr10.get 3 rfl
      have d4 := hr10.get 4 rfl
      have d5 := hr10.get 5 rfl
      have d6 := hr10.get 6 rfl
      have d7 := hr10.get 7 rfl
      have d8 := hr10.get 8 rfl
      have d9 := hr10.get 9 rfl
      have HB10 : Hid (Below wo.heap.size wo w10) := (below_drewN' HB9.out 1).trans (hb10.mono (by omega))
      have H8410 := Lib.hid (H84.out.below HB10.out l84)
      have HT10 := Lib.hid (HTK.out.keep HB10.out)
      clear hl10 hb10 hp10 hr10 e9 q9
      go_wp2_with (refine store_row rfl 84 (.tmp 2) (.tmp 83) rfl (w.heap.size + 1) 84 [.string ⟨#[]⟩, .float .f64 0, .string ⟨#[]⟩, .slice none 0 0, .slice none 0 0, .bool false, .string ⟨#[]⟩, .int .u8 0, .pointer none, .pointer none] (matCells (.slice (some ⟨g5, 0, none⟩) n c5) (.pointer (some ⟨w6.heap.size, 0, none⟩)) (.pointer (some ⟨w7.heap.size, 0, none⟩))) rfl rfl H8410.out size84 rfl rfl w.heap.size (by omega) ?_; intro w11 hr11 hb11 hp11)
      have ht11 := (HT10.out.above (w' := w11) (fun j hj hB => hp11.kept j hj (by omega))).base (B' := w.heap.size) (by omega)
      rw [hkn, HN.out, List.take_length, ← HN.out] at ht11
      exact bodyPost_ret (ret_row rfl _ _ (w.heap.size + 1) 84 (matCells (.slice (some ⟨g5, 0, none⟩) n c5) (.pointer (some ⟨w6.heap.size, 0, none⟩)) (.pointer (some ⟨w7.heap.size, 0, none⟩))) _ rfl hr11 Tryz.underlying84 rfl size84) rfl ⟨_, _, _, rfl, ⟨_, rfl⟩, ⟨_, rfl⟩, ht11, (HBK.out.trans (HB10.out.mono hbs)).trans hb11⟩
end Go.Proofs.YtoebgbojpkflnaaGreatDoor
