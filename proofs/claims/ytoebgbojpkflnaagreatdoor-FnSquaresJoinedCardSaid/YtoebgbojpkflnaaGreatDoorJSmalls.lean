/- Proof of FnSquaresJoined, a part: The laws' sumsSmall and sumsFull: at most fifty whole numbers within 999, none of them zero. -/
import Derived.Test.YtoebgbojpkflnaaGreatDoorJSums
namespace Go.Proofs.YtoebgbojpkflnaaGreatDoor
open Go Go.RowKit
theorem info3 : (Tryz.prog.info? 3).map (fun i => (i.zero, i.size, i.bytes)) = some (some (.int .i64 0), 1, 8) := by kernel_rfl
/-- A slice of whole numbers. -/
abbrev Ints (B : Nat) (w : World) (v : Value) (ss : List Int) : Prop := Arr B w 3 1 v (ss.map fun s => [.int .i64 s])
set_option maxRecDepth 20000 in
set_option maxHeartbeats 1000000 in
theorem sumsSmall_any (n c : Nat) (p : Option Addr) (f : Nat → Int) (w : World) (hc : ∀ i, i < n → ∃ a, p = some a ∧ w.cell? (a.add i) = some (.int .i64 (f i))) (_ : n ≤ 2147483647) :
    Calls Tryz.prog 11 #[.slice p n c, .int .i64 50, .int .i64 1000] w fun e w' => ∃ (v : Value) (ss : List Int), e = .returned v ∧ Ints w.heap.size w' v ss ∧ (∀ s ∈ ss, -999 ≤ s ∧ s ≤ 999) ∧ ss.length ≤ 50 ∧ Below w.heap.size w w' := by
  have HC := Lib.hid hc
  clear hc
  go_enter Tryz.func11, Tryz.ntmps11
  go_wp2_with fail
  go_loopw [7, 8] (fun v i wr => ∃ (k : Nat) (ss : List Int), k ≤ n ∧ k ≤ 50 ∧ ss.length = k ∧ (∀ s ∈ ss, -999 ≤ s ∧ s ≤ 999) ∧ i = .int .i64 k ∧ Ints w.heap.size wr v ss ∧ Below w.heap.size w wr) (fun _ i _ => 50 - (intOf i).toNat)
  case atStart => exact ⟨0, [], Nat.zero_le _, by omega, rfl, by simp, rfl, Arr.nil _ _ _ _, Below.refl _ _⟩
  case round =>
    obtain ⟨k, ss, hk, hk5, hl, hr, rfl, ha, hb⟩ := hrel
    have HA := Lib.hid ha
    have HB := Lib.hid hb
    have HL := Lib.hid hl
    have HR := Lib.hid hr
    clear ha hb hl hr
    by_cases hlt : k < n ∧ k < 50
    · obtain ⟨hl1, hl2⟩ := hlt
      have hd1 : decide ((k : Int) < 50) = true := (by rw [decide_eq_true_eq]; omega)
      obtain ⟨a, rfl, hca⟩ := HC.out k hl1
      obtain ⟨s, hs⟩ : ∃ s, s = f k := ⟨_, rfl⟩
      have ck : wr.cell? (a.add k) = some (.int .i64 s) := by
        rw [hs]; exact (HB.out.cell (World.block_lt_of_cell? w (a.add k) hca)).trans hca
      have HT := Lib.hid (tmod_small s 1000 (by decide))
      have HL4 : Hid ((ss.map fun s => [Value.int .i64 s]).length ≤ 4000000000) := by show _ ≤ _; rw [List.length_map, HL.out]; omega
      clear hs hca
      go_wp2_with (at_builtin; refine append_one rfl _ _ 22 rfl w.heap.size 3 _ 1 8 Tryz.underlying22 info3 rfl (by decide) (by decide) _ _ rfl (HA.out.alloc _) ⟨wr.heap.size, 0, none⟩ 1 [.int .i64 (s.tmod 1000)] rfl rfl (news_cells _ _ _ _ rfl) (by intro u hu; simp at hu; subst hu; rfl) HL4.out (le_alloc1 HB.out.size _) ?_; intro v' w3 ha3 hb3)
      refine ⟨⟨k + 1, ss ++ [s.tmod 1000], by omega, by omega, by rw [List.length_append, HL.out]; rfl, ?_, by go_num, by show Arr _ _ _ _ _ _; rw [List.map_append]; exact ha3, (HB.out.alloc HB.out.size _).trans hb3⟩, by simp [intOf]; omega⟩
      intro y hy
      rcases List.mem_append.1 hy with hy | hy
      · exact HR.out y hy
      · simp at hy; subst hy; have := HT.out; omega
    · by_cases hkn : k < n
      · have hd1 : decide ((k : Int) < 50) = false := (by rw [decide_eq_false_iff_not]; omega)
        go_wp2_with fail
        go_ret
        exact ⟨_, ss, rfl, HA.out, HR.out, by rw [HL.out]; exact hk5, HB.out⟩
      · have hkn2 : k = n := by omega
        go_wp2_with fail
        go_ret
        exact ⟨_, ss, rfl, HA.out, HR.out, by rw [HL.out]; exact hk5, HB.out⟩
set_option maxRecDepth 20000 in
set_option maxHeartbeats 1000000 in
theorem sumsFull_any (ss : List Int) (hr : ∀ s ∈ ss, -999 ≤ s ∧ s ≤ 999) (hn : ss.length ≤ 50) (v : Value) (w : World) (ha : Ints 0 w v ss) :
    Calls Tryz.prog 10 #[v] w fun e w' => ∃ (v' : Value) (ss' : List Int), e = .returned v' ∧ Ints w.heap.size w' v' ss' ∧ (∀ s ∈ ss', -999 ≤ s ∧ s ≤ 999 ∧ s ≠ 0) ∧ ss'.length = ss.length ∧ Below w.heap.size w w' := by
  have HA0 := Lib.hid ha
  have HR0 := Lib.hid hr
  obtain ⟨n, hnn⟩ : ∃ n, n = ss.length := ⟨_, rfl⟩
  have HN : Hid (n = ss.length) := hnn
  rw [← hnn] at hn
  obtain ⟨p, c, rfl, hp⟩ : ∃ p c, v = .slice p n c ∧ ∀ i, i < n → ∃ g s, p = some ⟨g, 0, none⟩ ∧ ss[i]? = some s ∧ w.cell? ⟨g, i, none⟩ = some (.int .i64 s) ∧ g < w.heap.size := (by
    rcases ha.shape with ⟨h1, h2⟩ | ⟨g, c, h1, h2⟩
    · rw [List.map_eq_nil_iff] at h2
      subst h2
      exact ⟨none, 0, by rw [h1, hnn]; rfl, fun i hi => by simp at hnn; omega⟩
    · rw [List.length_map, ← hnn] at h1
      refine ⟨_, c, h1, fun i hi => ?_⟩
      obtain ⟨s, hs⟩ : ∃ s, ss[i]? = some s := ⟨_, List.getElem?_eq_getElem (by omega)⟩
      subst h1
      have := ha.cell0 (i := i) (x := [.int .i64 s]) (u := .int .i64 s) (by rw [List.getElem?_map, hs]; rfl) rfl
      rw [Nat.mul_one] at this
      exact ⟨g, s, rfl, hs, this, h2.2.1⟩)
  have HP := Lib.hid hp
  clear hp ha hr hnn
  rw [show ss.length = n from HN.out.symm]
  go_enter Tryz.func10, Tryz.ntmps10
  go_wp2_with fail
  go_loopw [3, 4] (fun v i wr => ∃ (k : Nat) (xs : List Int), k ≤ n ∧ xs.length = k ∧ (∀ s ∈ xs, -999 ≤ s ∧ s ≤ 999 ∧ s ≠ 0) ∧ i = .int .i64 k ∧ Ints w.heap.size wr v xs ∧ Below w.heap.size w wr) (fun _ i _ => n - (intOf i).toNat)
  case atStart => exact ⟨0, [], Nat.zero_le _, rfl, by simp, rfl, Arr.nil _ _ _ _, Below.refl _ _⟩
  case round =>
    obtain ⟨k, xs, hk, hl, hr, rfl, ha, hb⟩ := hrel
    have HA := Lib.hid ha
    have HB := Lib.hid hb
    have HL := Lib.hid hl
    have HR := Lib.hid hr
    clear ha hb hl hr
    by_cases hlt : k < n
    · obtain ⟨g, s, rfl, hs, hca, hg⟩ := HP.out k hlt
      have ck : wr.cell? ⟨g, k, none⟩ = some (.int .i64 s) := (HB.out.cell (p := ⟨g, k, none⟩) hg).trans hca
      have HSR := Lib.hid (HR0.out s (List.mem_of_getElem? hs))
      have HL4 : Hid ((xs.map fun s => [Value.int .i64 s]).length ≤ 4000000000) := by show _ ≤ _; rw [List.length_map, HL.out]; omega
      clear hs hca
      by_cases h0 : s = 0
      · subst h0
        go_wp2_with (at_builtin; refine append_one rfl _ _ 22 rfl w.heap.size 3 _ 1 8 Tryz.underlying22 info3 rfl (by decide) (by decide) _ _ rfl (HA.out.alloc _) ⟨wr.heap.size, 0, none⟩ 1 [.int .i64 7] rfl rfl (news_cells _ _ _ _ rfl) (by intro u hu; simp at hu; subst hu; rfl) HL4.out (le_alloc1 HB.out.size _) ?_; intro v' w3 ha3 hb3)
        refine ⟨⟨k + 1, xs ++ [7], by omega, by rw [List.length_append, HL.out]; rfl, ?_, by go_num, by show Arr _ _ _ _ _ _; rw [List.map_append]; exact ha3, (HB.out.alloc HB.out.size _).trans hb3⟩, by simp [intOf]; omega⟩
        intro y hy
        rcases List.mem_append.1 hy with hy | hy
        · exact HR.out y hy
        · simp at hy; subst hy; decide
      · have hd : decide (s = 0) = false := decide_eq_false h0
        go_wp2_with (at_builtin; refine append_one rfl _ _ 22 rfl w.heap.size 3 _ 1 8 Tryz.underlying22 info3 rfl (by decide) (by decide) _ _ rfl (HA.out.alloc _) ⟨wr.heap.size, 0, none⟩ 1 [.int .i64 s] rfl rfl (news_cells _ _ _ _ rfl) (by intro u hu; simp at hu; subst hu; rfl) HL4.out (le_alloc1 HB.out.size _) ?_; intro v' w3 ha3 hb3)
        refine ⟨⟨k + 1, xs ++ [s], by omega, by rw [List.length_append, HL.out]; rfl, ?_, by go_num, by show Arr _ _ _ _ _ _; rw [List.map_append]; exact ha3, (HB.out.alloc HB.out.size _).trans hb3⟩, by simp [intOf]; omega⟩
        intro y hy
        rcases List.mem_append.1 hy with hy | hy
        · exact HR.out y hy
        · simp at hy; subst hy; exact ⟨HSR.out.1, HSR.out.2, h0⟩
    · have hkn : k = n := by omega
      go_wp2_with fail
      go_ret
      exact ⟨_, xs, rfl, HA.out, HR.out, by rw [HL.out]; exact hkn, HB.out⟩
end Go.Proofs.YtoebgbojpkflnaaGreatDoor
