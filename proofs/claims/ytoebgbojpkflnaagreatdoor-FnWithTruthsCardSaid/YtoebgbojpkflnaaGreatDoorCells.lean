/- The laws' sumsCells: a row of numbers as a column of numbers, truth values and empty cells. -/
import Derived.Test.YtoebgbojpkflnaaGreatDoorSums
namespace Go.Proofs.YtoebgbojpkflnaaGreatDoor
open Go Go.RowKit
/-- One cell of the laws' tables. -/
inductive Cel where
  | int (n : Nat)
  | bool (x : Bool)
  | gap
def Cel.cells : Cel → List Value
  | .int n => iCells n
  | .bool true => [.int .i64 3, .int .i64 1, .int .i64 0, .string ⟨#[]⟩, .slice none 0 0]
  | .bool false => [.int .i64 3, .int .i64 0, .int .i64 0, .string ⟨#[]⟩, .slice none 0 0]
  | .gap => [.int .i64 0, .int .i64 0, .int .i64 0, .string ⟨#[]⟩, .slice none 0 0]
def Cel.Ok : Cel → Prop
  | .int n => n ≤ 100000
  | _ => True
theorem Cel.clen (c : Cel) : c.cells.length = 5 := by
  rcases c with n | x | _
  · rfl
  · cases x <;> rfl
  · rfl
theorem Cel.one (c : Cel) : c.cells.all (fun u => u.oneCell') = true := by
  rcases c with n | x | _
  · rfl
  · cases x <;> rfl
  · rfl
theorem bool_spec (x : Bool) (w : World) : Calls Tryz.prog 59 #[.bool x] w fun e w' => e = .returned (.agg (Cel.bool x).cells.toArray) ∧ Below w.heap.size w w' := by
  cases x
  all_goals
    go_enter Tryz.func59, Tryz.ntmps59
    go_wp2
    go_returns
    exact ⟨rfl, by go_grown⟩

theorem small_in4 (n : Int) : ∃ m : Nat, m ≤ 4 ∧ (wrap64 (wrap64 (n.tmod 5 + 4) + 1)).tmod 5 = (m : Int) := by
  have h := tmod_small n 5 (by omega)
  have e : wrap64 (wrap64 (n.tmod 5 + 4) + 1) = n.tmod 5 + 5 := by unfold wrap64; omega
  rw [e]
  have h2 := tmod_small (n.tmod 5 + 5) 5 (by omega)
  have h3 := Int.tmod_nonneg 5 (a := n.tmod 5 + 5) (by omega)
  exact ⟨((n.tmod 5 + 5).tmod 5).toNat, by omega, by omega⟩
set_option maxRecDepth 20000 in
set_option maxHeartbeats 2000000 in
theorem comb4_any (n : Int) (w : World) : Calls Tryz.prog 28 #[.int .i64 n, .int .i64 4] w fun e w' => (∃ m : Nat, m ≤ 4 ∧ e = .returned (.int .i64 m)) ∧ w = w' := by
  obtain ⟨m, hm, he⟩ := small_in4 n
  go_enter Tryz.func28, Tryz.ntmps28
  go_wp2_with fail
  go_ret
  exact ⟨⟨m, hm, rfl⟩, rfl⟩

theorem small_in100000 (n : Int) : ∃ m : Nat, m ≤ 100000 ∧ (wrap64 (wrap64 (n.tmod 100001 + 100000) + 1)).tmod 100001 = (m : Int) := by
  have h := tmod_small n 100001 (by omega)
  have e : wrap64 (wrap64 (n.tmod 100001 + 100000) + 1) = n.tmod 100001 + 100001 := by unfold wrap64; omega
  rw [e]
  have h2 := tmod_small (n.tmod 100001 + 100001) 100001 (by omega)
  have h3 := Int.tmod_nonneg 100001 (a := n.tmod 100001 + 100001) (by omega)
  exact ⟨((n.tmod 100001 + 100001).tmod 100001).toNat, by omega, by omega⟩
set_option maxRecDepth 20000 in
set_option maxHeartbeats 2000000 in
theorem comb100000_any (n : Int) (w : World) : Calls Tryz.prog 28 #[.int .i64 n, .int .i64 100000] w fun e w' => (∃ m : Nat, m ≤ 100000 ∧ e = .returned (.int .i64 m)) ∧ w = w' := by
  obtain ⟨m, hm, he⟩ := small_in100000 n
  go_enter Tryz.func28, Tryz.ntmps28
  go_wp2_with fail
  go_ret
  exact ⟨⟨m, hm, rfl⟩, rfl⟩

set_option maxRecDepth 20000 in
set_option maxHeartbeats 2000000 in
theorem sumsCells_any (n c : Nat) (a : Addr) (f : Nat → Int) (w : World) (hc : ∀ i, i < n → w.cell? (a.add i) = some (.int .i64 (f i))) (hg : a.block < w.heap.size) (_ : n ≤ 2147483647) :
    Calls Tryz.prog 20 #[.slice (some a) n c] w fun e w' => ∃ (v : Value) (xs : List Cel), e = .returned (.agg #[.int .i64 5, .int .i64 0, .int .i64 0, .string ⟨#[]⟩, v]) ∧ Tab w.heap.size w' 31 27 5 v (xs.map fun x => [x.cells]) ∧ (∀ x ∈ xs, x.Ok) ∧ xs.length ≤ 60 ∧ Below w.heap.size w w' := by
  have HC := Lib.hid hc
  clear hc
  go_enter Tryz.func20, Tryz.ntmps20
  go_wp2_with fail
  refine abs_wp (fun w' => Blk w' w.heap.size 27 [.int .i64 0, .int .i64 0, .int .i64 0, .string ⟨#[]⟩, .slice none 0 0] ∧ Below w.heap.size w w') ⟨Blk.new w 27 [.int .i64 0, .int .i64 0, .int .i64 0, .string ⟨#[]⟩, .slice none 0 0], (Below.refl _ _).alloc (Nat.le_refl _) _⟩ ?_
  rintro w1 ⟨hg1, hb1⟩
  have HG1 := Lib.hid hg1
  have HB1 := Lib.hid hb1
  clear hg1 hb1
  go_loopw [3, 4] (fun v i wr => ∃ (k : Nat) (xs : List Cel), k ≤ n ∧ k ≤ 60 ∧ xs.length = k ∧ (∀ x ∈ xs, x.Ok) ∧ i = .int .i64 k ∧ Tab w1.heap.size wr 31 27 5 v (xs.map fun x => [x.cells]) ∧ Below w1.heap.size w1 wr) (fun _ i _ => 60 - (intOf i).toNat)
  case atStart => exact ⟨0, [], Nat.zero_le _, by omega, rfl, by simp, rfl, Tab.nil, Below.refl _ _⟩
  case round =>
    obtain ⟨k, xs, hk, hk6, hxl, hok, rfl, htab, hb2⟩ := hrel
    have HT := Lib.hid htab
    have HB2 := Lib.hid hb2
    have HOK := Lib.hid hok
    have HXL := Lib.hid hxl
    clear htab hb2 hok hxl
    by_cases hlt : k < n ∧ k < 60
    · obtain ⟨hl1, hl2⟩ := hlt
      have hd1 : decide ((k : Int) < 60) = true := (by rw [decide_eq_true_eq]; omega)
      obtain ⟨s, hs⟩ : ∃ s, s = f k := ⟨_, rfl⟩
      have ck : wr.cell? (a.add k) = some (.int .i64 s) := by
        have hbl : (a.add k).block = a.block := by unfold Addr.add; split <;> rfl
        rw [hs]
        exact ((HB1.out.trans (HB2.out.mono HB1.out.size)).cell (p := a.add k) (by rw [hbl]; exact hg)).trans (HC.out k hl1)
      clear hs
      go_wp2_with fail
      refine (comb100000_any _ _).mono ?_
      rintro e w2 ⟨⟨m, hm, rfl⟩, rfl⟩
      go_wp2_with fail
      refine (int_spec m (by omega) (by omega) _).mono ?_
      rintro e w2 ⟨rfl, hb3⟩
      have HT2 := Lib.hid (HT.out.keep hb3)
      have HB3 : Hid (Below w1.heap.size w1 w2) := HB2.out.trans (hb3.mono HB2.out.size)
      have ck2 : w2.cell? (a.add k) = some (.int .i64 s) := (hb3.cell (p := a.add k) (World.block_lt_of_cell? wr (a.add k) ck)).trans ck
      have HL4 : Hid ((xs.map fun x => [x.cells]).length ≤ 4000000000) := by show _ ≤ _; rw [List.length_map, HXL.out]; omega
      have HKA := Lib.hid (World.block_lt_of_cell? w2 (a.add k) ck2)
      clear hb3 ck
      go_wp2_with (first | (refine store_row rfl 27 (.tmp 5) (.tmp 22) rfl w2.heap.size 27 [.int .i64 0, .int .i64 0, .int .i64 0, .string ⟨#[]⟩, .slice none 0 0] (iCells m) rfl rfl (Blk.new w2 27 [.int .i64 0, .int .i64 0, .int .i64 0, .string ⟨#[]⟩, .slice none 0 0]) sz27 rfl rfl w2.heap.size (Nat.le_refl _) ?_; intro w3 hr3 hb4 hp4; have HR3 := Lib.hid hr3; have hb4' : Below w2.heap.size w2 w3 := ((Below.refl _ _).alloc (Nat.le_refl _) _).trans hb4; have HT3 := Lib.hid (HT2.out.keep hb4'); have HB23 := Lib.hid hb4'; have HB4 : Hid (Below w1.heap.size w1 w3) := HB3.out.trans (hb4'.mono HB3.out.size); have ck3 := (hb4'.cell (p := a.add k) HKA.out).trans ck2; have hz3 := hr3.lt; clear hr3 hb4 hp4 hb4' ck2))
      refine (comb4_any _ _).mono ?_
      rintro e w4 ⟨⟨q, hq, rfl⟩, rfl⟩
      have hq5 : q = 0 ∨ q = 1 ∨ q = 2 ∨ q = 3 ∨ q = 4 := (by omega)
      clear hq
      rcases hq5 with rfl | rfl | rfl | rfl | rfl
      · skip
        have e0 := HR3.out.get 0 rfl
        have e1 := HR3.out.get 1 rfl
        have e2 := HR3.out.get 2 rfl
        have e3 := HR3.out.get 3 rfl
        have e4 := HR3.out.get 4 rfl
        go_wp2_with (at_builtin; refine append_tab rfl _ _ 25 rfl w1.heap.size 31 27 5 _ 24 Tryz.underlying25 info31 rfl (by decide) _ _ rfl ((HT3.out.keep ((Below.refl _ _).alloc (Nat.le_refl _) _)).keep ((Below.refl _ _).alloc (Nat.le_refl _) _)) ⟨w3.heap.size + 1, 0, none⟩ 1 (.slice (some ⟨w3.heap.size, 0, none⟩) 1 1) [Cel.cells (Cel.int m)] rfl ?_ rfl ?_ ?_ HL4.out ?_ ?_)
        · exact news_cells (w3.alloc _) 31 [.slice (some ⟨w3.heap.size, 0, none⟩) 1 1] (w3.heap.size + 1) (by simp) 0 _ rfl
        · exact arab_ofBlk (xs := [Cel.cells (Cel.int m)]) ((Blk.new w3 27 (Cel.cells (Cel.int m))).alloc _) (by intro y hy; simp at hy; subst hy; exact Cel.clen _) HB4.out.size (by simp [maxLen])
        · exact fun k hk => HT3.out.fresh (Nat.le_refl _) 1 1 k hk
        · exact le_alloc2 HB4.out.size _ _
        · intro v' w6 ht6 hb6
          have HB6 : Hid (Below w1.heap.size w1 w6) := ((HB4.out.alloc HB4.out.size _).alloc (le_alloc1 HB4.out.size _) _).trans hb6
          have HT6 : Hid (Tab w1.heap.size w6 31 27 5 v' ((xs ++ [(Cel.int m)]).map fun x => [x.cells])) := (by show Tab _ _ _ _ _ _ _; rw [List.map_append]; exact ht6)
          clear ht6 hb6
          go_wp2_with fail
          refine ⟨⟨k + 1, xs ++ [(Cel.int m)], by omega, by omega, by rw [List.length_append, HXL.out]; rfl, ?_, by go_num, HT6.out, HB6.out⟩, by simp [intOf]; omega⟩
          intro y hy
          rcases List.mem_append.1 hy with hy | hy
          · exact HOK.out y hy
          · simp at hy; subst hy; exact hm
      · obtain ⟨x, hx⟩ : ∃ x : Bool, x = ((wrap64 (s.tdiv 5)).tmod 2 != 0) := ⟨_, rfl⟩
        have hx' := hx.symm
        clear hx
        cases x
        · go_wp2_with fail
          refine (bool_spec false _).mono ?_
          rintro e w4 ⟨rfl, hb5⟩
          have HB24 : Hid (Below w2.heap.size w2 w4) := HB23.out.trans (hb5.mono HB23.out.size)
          have HR4 := Lib.hid (HR3.out.below hb5 hz3)
          clear hb5
          go_wp2_with (first | (refine store_row rfl 27 (.tmp 5) (.tmp 37) rfl w2.heap.size 27 (iCells m) (Cel.bool false).cells rfl rfl HR4.out (by rw [Cel.clen]; exact sz27) (by rw [Cel.clen]; rfl) (Cel.one _) w2.heap.size (Nat.le_refl _) ?_; intro w5 hr5 hb5 hp5; have HR5 := Lib.hid hr5; have hb25 := HB24.out.trans hb5; have HT5 := Lib.hid (HT2.out.keep hb25); have HB5 : Hid (Below w1.heap.size w1 w5) := HB3.out.trans (hb25.mono HB3.out.size); have e0 := hr5.get 0 rfl; have e1 := hr5.get 1 rfl; have e2 := hr5.get 2 rfl; have e3 := hr5.get 3 rfl; have e4 := hr5.get 4 rfl; clear hr5 hb5 hp5 hb25) | (at_builtin; refine append_tab rfl _ _ 25 rfl w1.heap.size 31 27 5 _ 24 Tryz.underlying25 info31 rfl (by decide) _ _ rfl ((HT5.out.keep ((Below.refl _ _).alloc (Nat.le_refl _) _)).keep ((Below.refl _ _).alloc (Nat.le_refl _) _)) ⟨w5.heap.size + 1, 0, none⟩ 1 (.slice (some ⟨w5.heap.size, 0, none⟩) 1 1) [Cel.cells (Cel.bool false)] rfl ?_ rfl ?_ ?_ HL4.out ?_ ?_))
          · exact news_cells (w5.alloc _) 31 [.slice (some ⟨w5.heap.size, 0, none⟩) 1 1] (w5.heap.size + 1) (by simp) 0 _ rfl
          · exact arab_ofBlk (xs := [Cel.cells (Cel.bool false)]) ((Blk.new w5 27 (Cel.cells (Cel.bool false))).alloc _) (by intro y hy; simp at hy; subst hy; exact Cel.clen _) HB5.out.size (by simp [maxLen])
          · exact fun k hk => HT5.out.fresh (Nat.le_refl _) 1 1 k hk
          · exact le_alloc2 HB5.out.size _ _
          · intro v' w6 ht6 hb6
            have HB6 : Hid (Below w1.heap.size w1 w6) := ((HB5.out.alloc HB5.out.size _).alloc (le_alloc1 HB5.out.size _) _).trans hb6
            have HT6 : Hid (Tab w1.heap.size w6 31 27 5 v' ((xs ++ [(Cel.bool false)]).map fun x => [x.cells])) := (by show Tab _ _ _ _ _ _ _; rw [List.map_append]; exact ht6)
            clear ht6 hb6
            go_wp2_with fail
            refine ⟨⟨k + 1, xs ++ [(Cel.bool false)], by omega, by omega, by rw [List.length_append, HXL.out]; rfl, ?_, by go_num, HT6.out, HB6.out⟩, by simp [intOf]; omega⟩
            intro y hy
            rcases List.mem_append.1 hy with hy | hy
            · exact HOK.out y hy
            · simp at hy; subst hy; exact trivial
        · go_wp2_with fail
          refine (bool_spec true _).mono ?_
          rintro e w4 ⟨rfl, hb5⟩
          have HB24 : Hid (Below w2.heap.size w2 w4) := HB23.out.trans (hb5.mono HB23.out.size)
          have HR4 := Lib.hid (HR3.out.below hb5 hz3)
          clear hb5
          go_wp2_with (first | (refine store_row rfl 27 (.tmp 5) (.tmp 37) rfl w2.heap.size 27 (iCells m) (Cel.bool true).cells rfl rfl HR4.out (by rw [Cel.clen]; exact sz27) (by rw [Cel.clen]; rfl) (Cel.one _) w2.heap.size (Nat.le_refl _) ?_; intro w5 hr5 hb5 hp5; have HR5 := Lib.hid hr5; have hb25 := HB24.out.trans hb5; have HT5 := Lib.hid (HT2.out.keep hb25); have HB5 : Hid (Below w1.heap.size w1 w5) := HB3.out.trans (hb25.mono HB3.out.size); have e0 := hr5.get 0 rfl; have e1 := hr5.get 1 rfl; have e2 := hr5.get 2 rfl; have e3 := hr5.get 3 rfl; have e4 := hr5.get 4 rfl; clear hr5 hb5 hp5 hb25) | (at_builtin; refine append_tab rfl _ _ 25 rfl w1.heap.size 31 27 5 _ 24 Tryz.underlying25 info31 rfl (by decide) _ _ rfl ((HT5.out.keep ((Below.refl _ _).alloc (Nat.le_refl _) _)).keep ((Below.refl _ _).alloc (Nat.le_refl _) _)) ⟨w5.heap.size + 1, 0, none⟩ 1 (.slice (some ⟨w5.heap.size, 0, none⟩) 1 1) [Cel.cells (Cel.bool true)] rfl ?_ rfl ?_ ?_ HL4.out ?_ ?_))
          · exact news_cells (w5.alloc _) 31 [.slice (some ⟨w5.heap.size, 0, none⟩) 1 1] (w5.heap.size + 1) (by simp) 0 _ rfl
          · exact arab_ofBlk (xs := [Cel.cells (Cel.bool true)]) ((Blk.new w5 27 (Cel.cells (Cel.bool true))).alloc _) (by intro y hy; simp at hy; subst hy; exact Cel.clen _) HB5.out.size (by simp [maxLen])
          · exact fun k hk => HT5.out.fresh (Nat.le_refl _) 1 1 k hk
          · exact le_alloc2 HB5.out.size _ _
          · intro v' w6 ht6 hb6
            have HB6 : Hid (Below w1.heap.size w1 w6) := ((HB5.out.alloc HB5.out.size _).alloc (le_alloc1 HB5.out.size _) _).trans hb6
            have HT6 : Hid (Tab w1.heap.size w6 31 27 5 v' ((xs ++ [(Cel.bool true)]).map fun x => [x.cells])) := (by show Tab _ _ _ _ _ _ _; rw [List.map_append]; exact ht6)
            clear ht6 hb6
            go_wp2_with fail
            refine ⟨⟨k + 1, xs ++ [(Cel.bool true)], by omega, by omega, by rw [List.length_append, HXL.out]; rfl, ?_, by go_num, HT6.out, HB6.out⟩, by simp [intOf]; omega⟩
            intro y hy
            rcases List.mem_append.1 hy with hy | hy
            · exact HOK.out y hy
            · simp at hy; subst hy; exact trivial
      · go_wp2_with (first | (refine store_row rfl 27 (.tmp 5) (.tmp 41) rfl w2.heap.size 27 (iCells m) Cel.gap.cells rfl rfl HR3.out (by rw [Cel.clen]; exact sz27) (by rw [Cel.clen]; rfl) (Cel.one _) w2.heap.size (Nat.le_refl _) ?_; intro w5 hr5 hb5 hp5; have HR5 := Lib.hid hr5; have hb25 := HB23.out.trans hb5; have HT5 := Lib.hid (HT2.out.keep hb25); have HB5 : Hid (Below w1.heap.size w1 w5) := HB3.out.trans (hb25.mono HB3.out.size); have e0 := hr5.get 0 rfl; have e1 := hr5.get 1 rfl; have e2 := hr5.get 2 rfl; have e3 := hr5.get 3 rfl; have e4 := hr5.get 4 rfl; clear hr5 hb5 hp5 hb25) | (at_builtin; refine append_tab rfl _ _ 25 rfl w1.heap.size 31 27 5 _ 24 Tryz.underlying25 info31 rfl (by decide) _ _ rfl ((HT5.out.keep ((Below.refl _ _).alloc (Nat.le_refl _) _)).keep ((Below.refl _ _).alloc (Nat.le_refl _) _)) ⟨w5.heap.size + 1, 0, none⟩ 1 (.slice (some ⟨w5.heap.size, 0, none⟩) 1 1) [Cel.cells Cel.gap] rfl ?_ rfl ?_ ?_ HL4.out ?_ ?_))
        · exact news_cells (w5.alloc _) 31 [.slice (some ⟨w5.heap.size, 0, none⟩) 1 1] (w5.heap.size + 1) (by simp) 0 _ rfl
        · exact arab_ofBlk (xs := [Cel.cells Cel.gap]) ((Blk.new w5 27 (Cel.cells Cel.gap)).alloc _) (by intro y hy; simp at hy; subst hy; exact Cel.clen _) HB5.out.size (by simp [maxLen])
        · exact fun k hk => HT5.out.fresh (Nat.le_refl _) 1 1 k hk
        · exact le_alloc2 HB5.out.size _ _
        · intro v' w6 ht6 hb6
          have HB6 : Hid (Below w1.heap.size w1 w6) := ((HB5.out.alloc HB5.out.size _).alloc (le_alloc1 HB5.out.size _) _).trans hb6
          have HT6 : Hid (Tab w1.heap.size w6 31 27 5 v' ((xs ++ [Cel.gap]).map fun x => [x.cells])) := (by show Tab _ _ _ _ _ _ _; rw [List.map_append]; exact ht6)
          clear ht6 hb6
          go_wp2_with fail
          refine ⟨⟨k + 1, xs ++ [Cel.gap], by omega, by omega, by rw [List.length_append, HXL.out]; rfl, ?_, by go_num, HT6.out, HB6.out⟩, by simp [intOf]; omega⟩
          intro y hy
          rcases List.mem_append.1 hy with hy | hy
          · exact HOK.out y hy
          · simp at hy; subst hy; exact trivial
      · go_wp2_with (first | (refine store_row rfl 27 (.tmp 5) (.tmp 41) rfl w2.heap.size 27 (iCells m) Cel.gap.cells rfl rfl HR3.out (by rw [Cel.clen]; exact sz27) (by rw [Cel.clen]; rfl) (Cel.one _) w2.heap.size (Nat.le_refl _) ?_; intro w5 hr5 hb5 hp5; have HR5 := Lib.hid hr5; have hb25 := HB23.out.trans hb5; have HT5 := Lib.hid (HT2.out.keep hb25); have HB5 : Hid (Below w1.heap.size w1 w5) := HB3.out.trans (hb25.mono HB3.out.size); have e0 := hr5.get 0 rfl; have e1 := hr5.get 1 rfl; have e2 := hr5.get 2 rfl; have e3 := hr5.get 3 rfl; have e4 := hr5.get 4 rfl; clear hr5 hb5 hp5 hb25) | (at_builtin; refine append_tab rfl _ _ 25 rfl w1.heap.size 31 27 5 _ 24 Tryz.underlying25 info31 rfl (by decide) _ _ rfl ((HT5.out.keep ((Below.refl _ _).alloc (Nat.le_refl _) _)).keep ((Below.refl _ _).alloc (Nat.le_refl _) _)) ⟨w5.heap.size + 1, 0, none⟩ 1 (.slice (some ⟨w5.heap.size, 0, none⟩) 1 1) [Cel.cells Cel.gap] rfl ?_ rfl ?_ ?_ HL4.out ?_ ?_))
        · exact news_cells (w5.alloc _) 31 [.slice (some ⟨w5.heap.size, 0, none⟩) 1 1] (w5.heap.size + 1) (by simp) 0 _ rfl
        · exact arab_ofBlk (xs := [Cel.cells Cel.gap]) ((Blk.new w5 27 (Cel.cells Cel.gap)).alloc _) (by intro y hy; simp at hy; subst hy; exact Cel.clen _) HB5.out.size (by simp [maxLen])
        · exact fun k hk => HT5.out.fresh (Nat.le_refl _) 1 1 k hk
        · exact le_alloc2 HB5.out.size _ _
        · intro v' w6 ht6 hb6
          have HB6 : Hid (Below w1.heap.size w1 w6) := ((HB5.out.alloc HB5.out.size _).alloc (le_alloc1 HB5.out.size _) _).trans hb6
          have HT6 : Hid (Tab w1.heap.size w6 31 27 5 v' ((xs ++ [Cel.gap]).map fun x => [x.cells])) := (by show Tab _ _ _ _ _ _ _; rw [List.map_append]; exact ht6)
          clear ht6 hb6
          go_wp2_with fail
          refine ⟨⟨k + 1, xs ++ [Cel.gap], by omega, by omega, by rw [List.length_append, HXL.out]; rfl, ?_, by go_num, HT6.out, HB6.out⟩, by simp [intOf]; omega⟩
          intro y hy
          rcases List.mem_append.1 hy with hy | hy
          · exact HOK.out y hy
          · simp at hy; subst hy; exact trivial
      · skip
        have e0 := HR3.out.get 0 rfl
        have e1 := HR3.out.get 1 rfl
        have e2 := HR3.out.get 2 rfl
        have e3 := HR3.out.get 3 rfl
        have e4 := HR3.out.get 4 rfl
        go_wp2_with (at_builtin; refine append_tab rfl _ _ 25 rfl w1.heap.size 31 27 5 _ 24 Tryz.underlying25 info31 rfl (by decide) _ _ rfl ((HT3.out.keep ((Below.refl _ _).alloc (Nat.le_refl _) _)).keep ((Below.refl _ _).alloc (Nat.le_refl _) _)) ⟨w3.heap.size + 1, 0, none⟩ 1 (.slice (some ⟨w3.heap.size, 0, none⟩) 1 1) [Cel.cells (Cel.int m)] rfl ?_ rfl ?_ ?_ HL4.out ?_ ?_)
        · exact news_cells (w3.alloc _) 31 [.slice (some ⟨w3.heap.size, 0, none⟩) 1 1] (w3.heap.size + 1) (by simp) 0 _ rfl
        · exact arab_ofBlk (xs := [Cel.cells (Cel.int m)]) ((Blk.new w3 27 (Cel.cells (Cel.int m))).alloc _) (by intro y hy; simp at hy; subst hy; exact Cel.clen _) HB4.out.size (by simp [maxLen])
        · exact fun k hk => HT3.out.fresh (Nat.le_refl _) 1 1 k hk
        · exact le_alloc2 HB4.out.size _ _
        · intro v' w6 ht6 hb6
          have HB6 : Hid (Below w1.heap.size w1 w6) := ((HB4.out.alloc HB4.out.size _).alloc (le_alloc1 HB4.out.size _) _).trans hb6
          have HT6 : Hid (Tab w1.heap.size w6 31 27 5 v' ((xs ++ [(Cel.int m)]).map fun x => [x.cells])) := (by show Tab _ _ _ _ _ _ _; rw [List.map_append]; exact ht6)
          clear ht6 hb6
          go_wp2_with fail
          refine ⟨⟨k + 1, xs ++ [(Cel.int m)], by omega, by omega, by rw [List.length_append, HXL.out]; rfl, ?_, by go_num, HT6.out, HB6.out⟩, by simp [intOf]; omega⟩
          intro y hy
          rcases List.mem_append.1 hy with hy | hy
          · exact HOK.out y hy
          · simp at hy; subst hy; exact hm
    · have HT2 : Hid (Tab w1.heap.size wr 31 27 5 u3 (xs.map fun x => [x.cells])) := HT
      have hsh := HT2.out.shape
      have HSH : Hid (u3 = .slice none 0 0 ∨ ∃ g n c, u3 = .slice (some ⟨g, 0, none⟩) n c) := (by
        rcases hsh with ⟨h, _⟩ | ⟨g, c, h, _⟩
        · exact .inl h
        · exact .inr ⟨g, _, c, h⟩)
      clear hsh
      have hnl : k < n → decide ((k : Int) < 60) = false := fun h => (by rw [decide_eq_false_iff_not]; omega)
      by_cases hkn : k < n
      all_goals
        first | (have hd := hnl hkn) | (have hd : ¬ ((k : Int) < (n : Int)) := (by omega))
        clear hnl
        go_wp2_with fail
        refine (table_any u3 _ HSH.out).mono ?_
        rintro e w4 ⟨rfl, hb4⟩
        have HG4 : Hid (Blk w4 w.heap.size 27 [.int .i64 0, .int .i64 0, .int .i64 0, .string ⟨#[]⟩, .slice none 0 0]) := (HG1.out.below HB2.out HG1.out.lt).below hb4 (HG1.out.below HB2.out HG1.out.lt).lt
        have HB5 : Hid (Below w.heap.size w w4) := HB1.out.trans ((HB2.out.trans (hb4.mono HB2.out.size)).mono HB1.out.size)
        have HT4 : Hid (Tab w1.heap.size w4 31 27 5 u3 (xs.map fun x => [x.cells])) := HT2.out.keep hb4
        have hone : ([.int .i64 5, .int .i64 0, .int .i64 0, .string ⟨#[]⟩, u3] : List Value).all (fun u => u.oneCell') = true := (by rcases HSH.out with h | ⟨g', n', c', h⟩ <;> rw [h] <;> rfl)
        have HO := Lib.hid hone
        clear hb4 hone
        go_wp2_with (refine store_row rfl 27 (.tmp 2) (.tmp 48) rfl w.heap.size 27 [.int .i64 0, .int .i64 0, .int .i64 0, .string ⟨#[]⟩, .slice none 0 0] [.int .i64 5, .int .i64 0, .int .i64 0, .string ⟨#[]⟩, u3] rfl rfl HG4.out sz27 rfl HO.out w.heap.size (Nat.le_refl _) ?_; intro w6 hr6 hb6 hp6)
        have ht6 := (HT4.out.above (fun k hk hB => hp6.kept k hk (by have := HG1.out.lt; omega))).base HB1.out.size
        exact bodyPost_ret (ret_row rfl _ _ w.heap.size 27 [.int .i64 5, .int .i64 0, .int .i64 0, .string ⟨#[]⟩, u3] _ rfl hr6 Tryz.underlying27 rfl sz27) rfl ⟨u3, xs, rfl, ht6, HOK.out, by have := HXL.out; omega, HB5.out.trans hb6⟩
end Go.Proofs.YtoebgbojpkflnaaGreatDoor
