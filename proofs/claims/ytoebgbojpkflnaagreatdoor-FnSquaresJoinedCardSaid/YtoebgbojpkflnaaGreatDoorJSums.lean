/- Proof of FnSquaresJoined, a part: The laws' sumsColumn: a row of whole numbers as a column of the spec's values. -/
import Derived.Test.YtoebgbojpkflnaaGreatDoorJRepl
import Derived.Test.YtoebgbojpkflnaaGreatDoorJTab
namespace Go.Proofs.YtoebgbojpkflnaaGreatDoor
open Go Go.RowKit
theorem info31 : (Tryz.prog.info? 31).map (fun i => (i.zero, i.size, i.bytes)) = some (some (.slice none 0 0), 1, 24) := by kernel_rfl
theorem Tab.fresh {B : Nat} {w : World} {eo ei sz : Nat} {v : Value} {xs : List (List (List Value))} (h : Tab B w eo ei sz v xs) {g : Nat} (hg : w.heap.size ≤ g) (n c : Nat) : ∀ k, v.ownBlock = some k → (Value.slice (some ⟨g, 0, none⟩) n c).ownBlock ≠ some k := by
  intro k hk e
  rcases h.shape with ⟨rfl, _⟩ | ⟨g', c', rfl, hl⟩
  · cases hk
  · injection hk with hk
    injection e with e
    have e1 : g = k := e
    have e2 : g' = k := hk
    omega
theorem table_any (v : Value) (w : World) (hv : v = .slice none 0 0 ∨ ∃ g n c, v = .slice (some ⟨g, 0, none⟩) n c) :
    Calls Tryz.prog 50 #[v] w fun e w' => e = .returned (.agg #[.int .i64 5, .int .i64 0, .int .i64 0, .string ⟨#[]⟩, v]) ∧ Below w.heap.size w w' := by
  rcases hv with rfl | ⟨g, n, c, rfl⟩
  all_goals
    go_enter Tryz.func50, Tryz.ntmps50
    go_wp2
    go_returns
    exact ⟨rfl, by go_grown⟩
def iCells (n : Int) : List Value := [.int .i64 1, .int .i64 n, .int .i64 1, .string ⟨#[]⟩, .slice none 0 0]
set_option maxRecDepth 20000 in
set_option maxHeartbeats 1000000 in
theorem sumsColumn_any (ss : List Int) (hr0 : ∀ n ∈ ss, -99999999999 ≤ n ∧ n ≤ 99999999999) (w : World) (g c : Nat) (hc : ∀ i s, ss[i]? = some s → w.cell? ⟨g, i, none⟩ = some (.int .i64 s)) (hg : g < w.heap.size) (hn : ss.length ≤ 100) :
    Calls Tryz.prog 12 #[.slice (some ⟨g, 0, none⟩) ss.length c] w fun e w' => ∃ v, e = .returned (.agg #[.int .i64 5, .int .i64 0, .int .i64 0, .string ⟨#[]⟩, v]) ∧ Tab w.heap.size w' 31 27 5 v (ss.map fun n => [iCells n]) ∧ Below w.heap.size w w' := by
  have HC : Hid (∀ i s, ss[i]? = some s → w.cell? ⟨g, i, none⟩ = some (.int .i64 s)) := hc
  obtain ⟨n, hnn⟩ : ∃ n, n = ss.length := ⟨_, rfl⟩
  have HN : Hid (n = ss.length) := hnn
  rw [← hnn] at hn ⊢
  clear hnn hc
  go_enter Tryz.func12, Tryz.ntmps12
  go_wp2_with fail
  refine abs_wp (fun w' => Blk w' w.heap.size 27 [.int .i64 0, .int .i64 0, .int .i64 0, .string ⟨#[]⟩, .slice none 0 0] ∧ Below w.heap.size w w' ∧ w'.heap.size = w.heap.size + 1) ⟨Blk.new w 27 [.int .i64 0, .int .i64 0, .int .i64 0, .string ⟨#[]⟩, .slice none 0 0], (Below.refl _ _).alloc (Nat.le_refl _) _, by simp⟩ ?_
  rintro w1 ⟨hg1, hb1, hz1⟩
  have HG1 := Lib.hid hg1
  have HB1 := Lib.hid hb1
  have HZ1 := Lib.hid hz1
  clear hg1 hb1 hz1
  go_loopw [3, 4] (fun v i wr => ∃ k : Nat, k ≤ n ∧ i = .int .i64 k ∧ Tab w1.heap.size wr 31 27 5 v ((ss.take k).map fun n => [iCells n]) ∧ Below w1.heap.size w1 wr) (fun _ i _ => n - (intOf i).toNat)
  case atStart => exact ⟨0, Nat.zero_le _, rfl, Tab.nil, Below.refl _ _⟩
  case round =>
    obtain ⟨k, hk, rfl, htab, hb2⟩ := hrel
    have HT := Lib.hid htab
    have HB2 := Lib.hid hb2
    clear htab hb2
    by_cases hlt : k < n
    · obtain ⟨s, hx⟩ : ∃ s, ss[k]? = some s := ⟨_, List.getElem?_eq_getElem (by rw [← HN.out]; exact hlt)⟩
      have c0 : wr.cell? ⟨g, k, none⟩ = some (.int .i64 s) := ((HB1.out.trans (HB2.out.mono HB1.out.size)).cell (p := ⟨g, k, none⟩) hg).trans (HC.out k s hx)
      have HX : Hid (ss[k]? = some s) := hx
      have hr := hr0 s (List.mem_of_getElem? hx)
      have HL4 : Hid (((ss.take k).map fun n => [iCells n]).length ≤ 4000000000) := by
        have := List.length_take_le k ss; show _ ≤ _; rw [List.length_map]; omega
      clear hx
      go_wp2_with fail
      refine (int_spec s hr.1 hr.2 _).mono ?_
      rintro e w2 ⟨rfl, hb3⟩
      have HT2 := Lib.hid (HT.out.keep hb3)
      have HB3 : Hid (Below w1.heap.size w1 w2) := HB2.out.trans (hb3.mono HB2.out.size)
      clear hb3
      go_wp2_with (at_builtin; refine append_tab rfl _ _ 25 rfl w1.heap.size 31 27 5 _ 24 Tryz.underlying25 info31 rfl (by decide) _ _ rfl ((HT2.out.keep ((Below.refl _ _).alloc (Nat.le_refl _) _)).keep ((Below.refl _ _).alloc (Nat.le_refl _) _)) ⟨w2.heap.size + 1, 0, none⟩ 1 (.slice (some ⟨w2.heap.size, 0, none⟩) 1 1) [iCells s] rfl ?_ rfl ?_ ?_ HL4.out ?_ ?_)
      · exact news_cells (w2.alloc _) 31 [.slice (some ⟨w2.heap.size, 0, none⟩) 1 1] (w2.heap.size + 1) (by simp) 0 _ rfl
      · exact arab_ofBlk (xs := [iCells s]) ((Blk.new w2 27 (iCells s)).alloc _) (by intro y hy; simp at hy; subst hy; rfl) HB3.out.size (by simp [maxLen])
      · exact fun k hk => HT2.out.fresh (Nat.le_refl _) 1 1 k hk
      · exact le_alloc2 HB3.out.size _ _
      · intro v' w3 ht3 hb4
        have HB4 : Hid (Below w1.heap.size w1 w3) := ((HB3.out.alloc HB3.out.size _).alloc (le_alloc1 HB3.out.size _) _).trans hb4
        have HT3 : Hid (Tab w1.heap.size w3 31 27 5 v' ((ss.take (k + 1)).map fun n => [iCells n])) := (by show Tab _ _ _ _ _ _ _; rw [take_snoc HX.out, List.map_append, List.map_take]; exact ht3)
        clear ht3 hb4
        go_wp2_with fail
        refine ⟨⟨k + 1, by omega, by go_num, HT3.out, HB4.out⟩, by simp [intOf]; omega⟩
    · have hkn : k = n := by omega
      have HT2 : Hid (Tab w1.heap.size wr 31 27 5 u3 (ss.map fun n => [iCells n])) := (by have := HT.out; rw [List.take_of_length_le (by rw [hkn, ← HN.out]; exact Nat.le_refl _)] at this; exact this)
      have hsh := HT2.out.shape
      have HSH : Hid (u3 = .slice none 0 0 ∨ ∃ g n c, u3 = .slice (some ⟨g, 0, none⟩) n c) := (by
        rcases hsh with ⟨h, _⟩ | ⟨g, c, h, _⟩
        · exact .inl h
        · exact .inr ⟨g, _, c, h⟩)
      clear hsh
      go_wp2_with fail
      refine (table_any u3 _ HSH.out).mono ?_
      rintro e w4 ⟨rfl, hb4⟩
      have HG4 : Hid (Blk w4 w.heap.size 27 [.int .i64 0, .int .i64 0, .int .i64 0, .string ⟨#[]⟩, .slice none 0 0]) := (HG1.out.below HB2.out HG1.out.lt).below hb4 (HG1.out.below HB2.out HG1.out.lt).lt
      have HB5 : Hid (Below w.heap.size w w4) := HB1.out.trans ((HB2.out.trans (hb4.mono HB2.out.size)).mono HB1.out.size)
      have HT4 : Hid (Tab w1.heap.size w4 31 27 5 u3 (ss.map fun n => [iCells n])) := HT2.out.keep hb4
      have hone : ([.int .i64 5, .int .i64 0, .int .i64 0, .string ⟨#[]⟩, u3] : List Value).all (fun u => u.oneCell') = true := (by rcases HSH.out with h | ⟨g', n', c', h⟩ <;> rw [h] <;> rfl)
      have HO := Lib.hid hone
      clear hb4 hone
      go_wp2_with (refine store_row rfl 27 (.tmp 2) (.tmp 21) rfl w.heap.size 27 [.int .i64 0, .int .i64 0, .int .i64 0, .string ⟨#[]⟩, .slice none 0 0] [.int .i64 5, .int .i64 0, .int .i64 0, .string ⟨#[]⟩, u3] rfl rfl HG4.out sz27 rfl HO.out w.heap.size (Nat.le_refl _) ?_; intro w6 hr6 hb6 hp6)
      have ht6 := (HT4.out.above (fun k hk hB => hp6.kept k hk (by have := HG1.out.lt; omega))).base HB1.out.size
      exact bodyPost_ret (ret_row rfl _ _ w.heap.size 27 [.int .i64 5, .int .i64 0, .int .i64 0, .string ⟨#[]⟩, u3] _ rfl hr6 Tryz.underlying27 rfl sz27) rfl ⟨u3, rfl, ht6, HB5.out.trans hb6⟩
end Go.Proofs.YtoebgbojpkflnaaGreatDoor
