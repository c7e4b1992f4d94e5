/- The laws' all: a row of cells as arguments. -/
import Derived.Test.YtoebgbojpkflnaaGreatDoorOf
import Derived.Test.YtoebgbojpkflnaaGreatDoorArgs
namespace Go.Proofs.YtoebgbojpkflnaaGreatDoor
open Go Go.RowKit
theorem five_of {l : List Value} (h : l.length = 5) : ∃ x0 x1 x2 x3 x4, l = [x0, x1, x2, x3, x4] := by
  match l, h with
  | [x0, x1, x2, x3, x4], _ => exact ⟨x0, x1, x2, x3, x4, rfl⟩
theorem Cel.aquad (c : Cel) : ∃ k b s, c.atom.cells = [.int .i64 k, .float .f64 b, .string s, .slice none 0 0] := by
  rcases c with n | x | _ <;> exact ⟨_, _, _, rfl⟩
set_option maxRecDepth 20000 in
set_option maxHeartbeats 1000000 in
theorem all_any (cs : List Cel) (hok : ∀ x ∈ cs, x.Ok) (w : World) (g c : Nat) (hrow : Arr 0 w 27 5 (.slice (some ⟨g, 0, none⟩) cs.length c) (cs.map Cel.cells)) (hn : cs.length ≤ 100) :
    Calls Tryz.prog 13 #[.slice (some ⟨g, 0, none⟩) cs.length c] w fun e w' => ∃ v, e = .returned v ∧ Arr w.heap.size w' 37 4 v (cs.map fun x => x.atom.cells) ∧ Below w.heap.size w w' := by
  have HR := Lib.hid hrow
  have HOK := Lib.hid hok
  obtain ⟨n, hnn⟩ : ∃ n, n = cs.length := ⟨_, rfl⟩
  have HN : Hid (n = cs.length) := hnn
  rw [← hnn] at hn HR ⊢
  clear hnn hrow hok
  go_enter Tryz.func13, Tryz.ntmps13
  go_wp2_with fail
  go_loopw [3, 4] (fun v i wr => ∃ k : Nat, k ≤ n ∧ i = .int .i64 k ∧ Arr w.heap.size wr 37 4 v ((cs.take k).map fun x => x.atom.cells) ∧ Below w.heap.size w wr) (fun _ i _ => n - (intOf i).toNat)
  case atStart => exact ⟨0, Nat.zero_le _, rfl, Arr.nil _ _ _ _, Below.refl _ _⟩
  case round =>
    obtain ⟨k, hk, rfl, harr, hb2⟩ := hrel
    have HA := Lib.hid harr
    have HB2 := Lib.hid hb2
    clear harr
    by_cases hlt : k < n
    · obtain ⟨x, hx⟩ : ∃ x, cs[k]? = some x := ⟨_, List.getElem?_eq_getElem (by rw [← HN.out]; exact hlt)⟩
      have hRr := HR.out.keep hb2
      have hxx : (cs.map Cel.cells)[k]? = some x.cells := by rw [List.getElem?_map, hx]; rfl
      obtain ⟨x0, x1, x2, x3, x4, hc5⟩ := five_of x.clen
      have e0 := hRr.cell0 hxx (u := x0) (by rw [hc5]; rfl)
      have e1 := hRr.cell hxx (j := 1) (u := x1) (by rw [hc5]; rfl)
      have e2 := hRr.cell hxx (j := 2) (u := x2) (by rw [hc5]; rfl)
      have e3 := hRr.cell hxx (j := 3) (u := x3) (by rw [hc5]; rfl)
      have e4 := hRr.cell hxx (j := 4) (u := x4) (by rw [hc5]; rfl)
      have HX := Lib.hid hx
      have HC5 := Lib.hid hc5
      have HL4 : Hid (((cs.take k).map fun x => x.atom.cells).length ≤ 4000000000) := by
        have := List.length_take_le k cs; show _ ≤ _; rw [List.length_map]; omega
      clear hb2 hRr hxx hx hc5
      go_wp2_with fail
      have hof := of_cel x (HOK.out x (List.mem_of_getElem? HX.out)) wr
      obtain ⟨k', b, t, hq⟩ := x.aquad
      have HQ := Lib.hid hq
      rw [HC5.out, Atom.val_eq, hq] at hof
      clear hq
      refine Calls.mono (show Calls Tryz.prog 51 #[.agg #[x0, x1, x2, x3, x4]] wr _ from hof) ?_
      rintro e w2 ⟨rfl, hb3⟩
      have HA2 : Hid (Arr w.heap.size w2 37 4 _ ((cs.take k).map fun x => x.atom.cells)) := HA.out.keep hb3
      have HB3 : Hid (Below w.heap.size w w2) := HB2.out.trans (hb3.mono HB2.out.size)
      clear hb3
      go_wp2_with (at_builtin; refine append_one rfl _ _ 29 rfl w.heap.size 37 _ 4 56 Tryz.underlying29 info37 rfl (by decide) (by decide) _ _ rfl (HA2.out.alloc _) ⟨w2.heap.size, 0, none⟩ 1 [.int .i64 k', .float .f64 b, .string t, .slice none 0 0] rfl rfl (news_cells _ _ _ _ rfl) (quad_one _ _ _ _ _ _) HL4.out (le_alloc1 HB3.out.size _) ?_; intro v' w3 harr2 hb4)
      refine ⟨⟨k + 1, by omega, by go_num, by rw [take_snoc HX.out, List.map_append]; simpa [HQ.out] using harr2, (HB3.out.alloc HB3.out.size _).trans hb4⟩, by simp [intOf]; omega⟩
    · have hkn : k = n := by omega
      subst hkn
      go_wp2_with fail
      go_ret
      exact ⟨_, rfl, by have := HA.out; rw [List.take_of_length_le (by rw [← HN.out]; exact Nat.le_refl _)] at this; exact this, HB2.out⟩
end Go.Proofs.YtoebgbojpkflnaaGreatDoor
