/- textArgs, numArgs, findArgs: texts and whole numbers as arguments. Conditions: at most 100 of them, each number at most 99999999999. -/
import Derived.Test.YtoebgbojpkflnaaGreatDoorSame
namespace Go.Proofs.YtoebgbojpkflnaaGreatDoor
open Go Go.RowKit

theorem info37 : (Tryz.prog.info? 37).map (fun i => (i.zero, i.size, i.bytes)) = some (some (.agg #[.int .i64 0, .float .f64 0, .string ⟨#[]⟩, .slice none 0 0]), 4, 56) := by kernel_rfl
theorem of_text' (s : ByteArray) (w : World) :
    Calls Tryz.prog 51 #[.agg #[.int .i64 2, .int .i64 0, .int .i64 0, .string s, .slice none 0 0]] w fun e w' => e = .returned (.agg #[.int .i64 2, .float .f64 0, .string s, .slice none 0 0]) ∧ Below w.heap.size w w' := of_text s w
theorem of_int' (n : Int) (b : Nat) (w : World) (h1 : -99999999999 ≤ n) (h2 : n ≤ 99999999999) (hb : b = fx n 0) :
    Calls Tryz.prog 51 #[.agg #[.int .i64 1, .int .i64 n, .int .i64 1, .string ⟨#[]⟩, .slice none 0 0]] w fun e w' => e = .returned (.agg #[.int .i64 1, .float .f64 b, .string ⟨#[]⟩, .slice none 0 0]) ∧ Below w.heap.size w w' := by
  subst hb; exact of_any (.int n) w ⟨h1, h2⟩

set_option maxRecDepth 20000 in
set_option maxHeartbeats 1000000 in
theorem textArgs_any (ss : List ByteArray) (w : World) (g c : Nat) (hc : ∀ i s, ss[i]? = some s → w.cell? ⟨g, i, none⟩ = some (.string s)) (hg : g < w.heap.size) (hn : ss.length ≤ 100) :
    Calls Tryz.prog 43 #[.slice (some ⟨g, 0, none⟩) ss.length c] w fun e w' => ∃ v, e = .returned v ∧ Arr w.heap.size w' 37 4 v (ss.map fun s => Atom.cells (Atom.text s)) ∧ Below w.heap.size w w' := by
  have HC : Hid (∀ i s, ss[i]? = some s → w.cell? ⟨g, i, none⟩ = some (.string s)) := hc
  obtain ⟨n, hnn⟩ : ∃ n, n = ss.length := ⟨_, rfl⟩
  have HN : Hid (n = ss.length) := hnn
  rw [← hnn] at hn ⊢
  clear hnn hc
  go_enter Tryz.func43, Tryz.ntmps43
  go_wp2
  go_loopw [3, 4] (fun v i wr => ∃ k : Nat, k ≤ n ∧ i = .int .i64 k ∧ Arr w.heap.size wr 37 4 v ((ss.take k).map fun s => Atom.cells (Atom.text s)) ∧ Below w.heap.size w wr) (fun _ i _ => n - (intOf i).toNat)
  case atStart => exact ⟨0, Nat.zero_le _, rfl, Arr.nil _ _ _ _, Below.refl _ _⟩
  case round =>
    obtain ⟨k, hk, rfl, harr, hb2⟩ := hrel
    by_cases hlt : k < n
    · obtain ⟨s, hx⟩ : ∃ s, ss[k]? = some s := ⟨_, List.getElem?_eq_getElem (by rw [← HN.out]; exact hlt)⟩
      have c0 : wr.cell? ⟨g, k, none⟩ = some (.string s) := (hb2.cell (p := ⟨g, k, none⟩) hg).trans (HC.out k s hx)
      have HX : Hid (ss[k]? = some s) := hx
      have HARR : Hid (Arr w.heap.size wr 37 4 _ ((ss.take k).map fun s => Atom.cells (Atom.text s))) := harr
      have HL4 : Hid (((ss.take k).map fun s => Atom.cells (Atom.text s)).length ≤ 4000000000) := by
        have := List.length_take_le k ss; show _ ≤ _; rw [List.length_map]; omega

      clear hx harr
      go_wp2_with (first | (go_at_call 45; go_in) | (go_at_call 24; go_in))
      refine (of_text' _ _).mono ?_
      rintro e w2 ⟨rfl, hb3⟩
      have HA2 : Hid (Arr w.heap.size w2 37 4 _ ((ss.take k).map fun s => Atom.cells (Atom.text s))) := (HARR.out.keep (by go_grown)).keep hb3
      have hsz := hb2.size
      have HB2 : Hid (Below w.heap.size w w2) := (hb2.trans (Below.mono (by go_grown) hsz)).trans (hb3.mono (by simp; omega))
      clear hb3
      go_wp2_with (at_builtin; refine append_one rfl _ _ 29 rfl w.heap.size 37 _ 4 56 Tryz.underlying29 info37 rfl (by decide) (by decide) _ _ rfl (HA2.out.alloc _) ⟨w2.heap.size, 0, none⟩ 1 [.int .i64 2, .float .f64 0, .string s, .slice none 0 0] rfl rfl (news_cells _ _ _ _ rfl) (quad_one _ _ _ _ _ _) HL4.out (le_alloc1 HB2.out.size _) ?_; intro v' w3 harr2 hb4)
      refine ⟨⟨k + 1, by omega, by go_num, by rw [take_snoc HX.out, List.map_append]; exact harr2, (HB2.out.alloc HB2.out.size _).trans hb4⟩, by simp [intOf]; omega⟩
    · have hkn : k = n := by omega
      subst hkn
      go_wp2
      go_ret
      exact ⟨_, rfl, by rw [List.take_of_length_le (by rw [← HN.out]; exact Nat.le_refl _)] at harr; exact harr, hb2⟩

set_option maxRecDepth 20000 in
set_option maxHeartbeats 1000000 in
theorem numArgs_any (ss : List Int) (hr0 : ∀ n ∈ ss, -99999999999 ≤ n ∧ n ≤ 99999999999) (w : World) (g c : Nat) (hc : ∀ i s, ss[i]? = some s → w.cell? ⟨g, i, none⟩ = some (.int .i64 s)) (hg : g < w.heap.size) (hn : ss.length ≤ 100) :
    Calls Tryz.prog 31 #[.slice (some ⟨g, 0, none⟩) ss.length c] w fun e w' => ∃ v, e = .returned v ∧ Arr w.heap.size w' 37 4 v (ss.map fun s => Atom.cells (Atom.num (fx s 0))) ∧ Below w.heap.size w w' := by
  have HC : Hid (∀ i s, ss[i]? = some s → w.cell? ⟨g, i, none⟩ = some (.int .i64 s)) := hc
  obtain ⟨n, hnn⟩ : ∃ n, n = ss.length := ⟨_, rfl⟩
  have HN : Hid (n = ss.length) := hnn
  rw [← hnn] at hn ⊢
  clear hnn hc
  go_enter Tryz.func31, Tryz.ntmps31
  go_wp2
  go_loopw [3, 4] (fun v i wr => ∃ k : Nat, k ≤ n ∧ i = .int .i64 k ∧ Arr w.heap.size wr 37 4 v ((ss.take k).map fun s => Atom.cells (Atom.num (fx s 0))) ∧ Below w.heap.size w wr) (fun _ i _ => n - (intOf i).toNat)
  case atStart => exact ⟨0, Nat.zero_le _, rfl, Arr.nil _ _ _ _, Below.refl _ _⟩
  case round =>
    obtain ⟨k, hk, rfl, harr, hb2⟩ := hrel
    by_cases hlt : k < n
    · obtain ⟨s, hx⟩ : ∃ s, ss[k]? = some s := ⟨_, List.getElem?_eq_getElem (by rw [← HN.out]; exact hlt)⟩
      have c0 : wr.cell? ⟨g, k, none⟩ = some (.int .i64 s) := (hb2.cell (p := ⟨g, k, none⟩) hg).trans (HC.out k s hx)
      have HX : Hid (ss[k]? = some s) := hx
      have HARR : Hid (Arr w.heap.size wr 37 4 _ ((ss.take k).map fun s => Atom.cells (Atom.num (fx s 0)))) := harr
      have HL4 : Hid (((ss.take k).map fun s => Atom.cells (Atom.num (fx s 0))).length ≤ 4000000000) := by
        have := List.length_take_le k ss; show _ ≤ _; rw [List.length_map]; omega
      have hr := hr0 s (List.mem_of_getElem? hx)
      obtain ⟨b, hbb⟩ : ∃ b, b = fx s 0 := ⟨_, rfl⟩
      have HBB : Hid (b = fx s 0) := hbb
      have r1 : -99999999999 ≤ s := hr.1
      have r2 : s ≤ 99999999999 := hr.2
      clear hbb
      clear hx harr
      go_wp2_with (first | (go_at_call 45; go_in) | (go_at_call 24; go_in))
      refine (of_int' _ b _ hr.1 hr.2 HBB.out).mono ?_
      rintro e w2 ⟨rfl, hb3⟩
      have HA2 : Hid (Arr w.heap.size w2 37 4 _ ((ss.take k).map fun s => Atom.cells (Atom.num (fx s 0)))) := (HARR.out.keep (by go_grown)).keep hb3
      have hsz := hb2.size
      have HB2 : Hid (Below w.heap.size w w2) := (hb2.trans (Below.mono (by go_grown) hsz)).trans (hb3.mono (by simp; omega))
      clear hb3
      go_wp2_with (at_builtin; refine append_one rfl _ _ 29 rfl w.heap.size 37 _ 4 56 Tryz.underlying29 info37 rfl (by decide) (by decide) _ _ rfl (HA2.out.alloc _) ⟨w2.heap.size, 0, none⟩ 1 [.int .i64 1, .float .f64 b, .string ⟨#[]⟩, .slice none 0 0] rfl rfl (news_cells _ _ _ _ rfl) (quad_one _ _ _ _ _ _) HL4.out (le_alloc1 HB2.out.size _) ?_; intro v' w3 harr2 hb4)
      refine ⟨⟨k + 1, by omega, by go_num, by rw [take_snoc HX.out, List.map_append]; simpa [Atom.cells, HBB.out] using harr2, (HB2.out.alloc HB2.out.size _).trans hb4⟩, by simp [intOf]; omega⟩
    · have hkn : k = n := by omega
      subst hkn
      go_wp2
      go_ret
      exact ⟨_, rfl, by rw [List.take_of_length_le (by rw [← HN.out]; exact Nat.le_refl _)] at harr; exact harr, hb2⟩
end Go.Proofs.YtoebgbojpkflnaaGreatDoor
