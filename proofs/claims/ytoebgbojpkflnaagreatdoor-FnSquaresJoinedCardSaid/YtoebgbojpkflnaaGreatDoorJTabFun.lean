/- Proof of FnSquaresJoined, a part: ToList of a table; the greatest, the least, the count and the sum of its cells. -/
import Derived.Test.YtoebgbojpkflnaaGreatDoorJDiv
import Derived.Test.YtoebgbojpkflnaaGreatDoorJSums
import Derived.Test.YtoebgbojpkflnaaGreatDoorJInnerTab
namespace Go.Proofs.YtoebgbojpkflnaaGreatDoor
open Go Go.RowKit
set_option maxRecDepth 20000 in
set_option maxHeartbeats 4000000 in
theorem toList_mat (xs : List Atom) (hn : xs.length ≤ 100) (hne : xs ≠ []) (v : Value) (p q : Option Addr) (w : World) (htab : Tab 0 w 79 84 10 v (xs.map fun a => [a.facells])) :
    Calls Tryz.prog 138 #[.agg #[.string ⟨#[]⟩, .float .f64 0, .string ⟨#[]⟩, .slice none 0 0, v, .bool false, .string ⟨#[]⟩, .int .u8 4, .pointer p, .pointer q]] w fun e w' => ∃ v', e = .returned v' ∧ Arr w.heap.size w' 84 10 v' (xs.map Atom.facells) ∧ Below w.heap.size w w' := by
  obtain ⟨n, hnn⟩ : ∃ n, n = xs.length := ⟨_, rfl⟩
  have HN : Hid (n = xs.length) := hnn
  have HT := Lib.hid htab
  obtain ⟨g, c, hv, hg⟩ : ∃ g c, v = .slice (some ⟨g, 0, none⟩) n c ∧ g < w.heap.size := (by
    rcases htab.shape with ⟨_, h⟩ | ⟨g, c, h, hl⟩
    · exact absurd (List.map_eq_nil_iff.1 h) hne
    · exact ⟨g, c, by rw [h, List.length_map, hnn], hl⟩)
  rw [← hnn] at hn
  subst hv
  clear hnn htab hne
  go_enter Tryz.func138, Tryz.ntmps138
  go_wp2_with fail
  refine abs_wp (fun w' => Below w.heap.size w w') (by go_grown) ?_
  rintro w1 hb1
  go_loopw [3, 13] (fun v i wr => ∃ k : Nat, k ≤ n ∧ i = .int .i64 k ∧ Arr w.heap.size wr 84 10 v ((xs.take k).map Atom.facells) ∧ Below w.heap.size w wr) (fun _ i _ => n - (intOf i).toNat)
  case atStart => exact ⟨0, Nat.zero_le _, rfl, Arr.nil _ _ _ _, hb1⟩
  case round =>
    obtain ⟨k, hk, rfl, ha, hb⟩ := hrel
    have HA := Lib.hid ha
    have HB := Lib.hid hb
    clear ha hb hb1
    by_cases hlt : k < n
    · obtain ⟨x, hx⟩ := one_at HN.out.symm hlt
      obtain ⟨r, hr, har⟩ := HT.out.at (i := k) (x := [x.facells]) (by rw [List.getElem?_map, hx]; rfl)
      have er : wr.cell? ⟨g, k, none⟩ = some r := (HB.out.cell (p := ⟨g, k, none⟩) hg).trans hr
      have HAR := Lib.hid (har.keep HB.out)
      obtain ⟨g1, c1, hr1⟩ : ∃ g1 c1, r = .slice (some ⟨g1, 0, none⟩) 1 c1 := (by
        rcases har.shape with ⟨_, h⟩ | ⟨g1, c1, h, _⟩
        · cases h
        · exact ⟨g1, c1, h⟩)
      subst hr1
      have HX := Lib.hid hx
      have HL4 : Hid (((xs.take k).map Atom.facells).length + 1 ≤ 4000000000) := by
        have := List.length_take_le k xs; show _ ≤ _; rw [List.length_map]; omega
      clear hr har hx
      go_wp2_with (at_builtin; refine append_two rfl (.tmp 17) (.tmp 18) 79 rfl w.heap.size 84 _ 10 136 Tryz.underlying79 info84 rfl (by decide) (by decide) _ _ rfl HA.out (.slice (some ⟨g1, 0, none⟩) 1 c1) _ [x.facells] rfl HAR.out (by simp) (by intro y hy; simp at hy; subst hy; exact x.fone) HL4.out HB.out.size ?_; intro v3 w3 ha3 hb3)
      refine ⟨⟨k + 1, by omega, by go_num, by rw [take_snoc HX.out, List.map_append]; exact ha3, HB.out.trans hb3⟩, by simp [intOf]; omega⟩
    · have hkn : k = n := by omega
      go_wp2_with fail
      go_ret
      exact ⟨_, rfl, by have := HA.out; rw [hkn, HN.out, List.take_length] at this; exact this, HB.out⟩
theorem one_fx : (4607182418800017408 : Nat) = fx ((1 : Nat) : Int) 0 := by decide +kernel
end Go.Proofs.YtoebgbojpkflnaaGreatDoor
namespace Go.Proofs.YtoebgbojpkflnaaGreatDoor
open Go Go.RowKit
theorem innerList_tabs (ts : List (List Atom)) (hok : ∀ t ∈ ts, ∀ a ∈ t, a.Ok) (hne : ∀ t ∈ ts, t ≠ []) (hts : ∀ t ∈ ts, t.length ≤ 100) (hn : ts.length ≤ 100) (w : World) (g c : Nat) (hv : TabVals w 66 64 (.slice (some ⟨g, 0, none⟩) ts.length c) ts) :
    Calls Tryz.prog 84 #[.slice (some ⟨g, 0, none⟩) ts.length c] w fun e w' => ∃ (L : Nat) (bs : List Nat) (fs : List Value), e = .returned (.pointer (some ⟨L, 0, none⟩)) ∧ IsList w.heap.size w' L bs (fs.map (.iface 84)) ∧ fs.length = ts.length ∧ (∀ (i : Nat) f t, fs[i]? = some f → ts[i]? = some t → MatAt w' f t) ∧ Below w.heap.size w w' := by
  obtain ⟨rs, h1, h2, h3⟩ := hv
  refine (innerList_any (rs.map tabRow) _ (fun w' => ∀ (i : Nat) r (t : List Atom), rs[i]? = some r → ts[i]? = some t → Tab 0 w' 66 64 4 r (t.map fun a : Atom => [a.cells])) (fun i w f => ∀ t, ts[i]? = some t → MatAt w f t) w g c (by rw [List.length_map, h2]) h1 (by
    intro x hx
    obtain ⟨r, hr, rfl⟩ := List.mem_map.1 hx
    obtain ⟨i, hi, rfl⟩ := List.mem_iff_getElem.1 hr
    have := h3 i _ (ts[i]'(by omega)) (List.getElem?_eq_getElem hi) (List.getElem?_eq_getElem _)
    rcases this.cases with h | ⟨g, n, c, h⟩ <;> exact ⟨_, _, _, _, _, _, by rw [h]; rfl⟩) (by rw [List.length_map]; omega) h3 ⟨fun w1 w2 hs hb i r t hr ht => (hs i r t hr ht).keep hb⟩ ?_).mono ?_
  · intro i x hx w1 hS
    rw [List.getElem?_map] at hx
    obtain ⟨r, hr, rfl⟩ := Option.map_eq_some_iff.1 hx
    obtain ⟨t, ht⟩ : ∃ t, ts[i]? = some t := ⟨_, List.getElem?_eq_getElem (by have := (List.getElem?_eq_some_iff.1 hr).1; omega)⟩
    have hm := List.mem_of_getElem? ht
    have htab := hS i r t hr ht
    obtain ⟨rg, rc, hrv⟩ : ∃ rg rc, r = .slice (some ⟨rg, 0, none⟩) t.length rc := by
      rcases htab.shape with ⟨_, h⟩ | ⟨g, c, h, _⟩
      · exact absurd (List.map_eq_nil_iff.1 h) (hne t hm)
      · exact ⟨g, c, by rw [h, List.length_map]⟩
    subst hrv
    refine (innerArg_tab t (hok t hm) (hts t hm) (hne t hm) w1 rg rc htab).mono ?_
    rintro e w2 ⟨v, p, q, rfl, hp, hq, htab2, hb⟩
    refine ⟨_, rfl, On.mk' fun w3 hw3 t' ht' => ?_, hb⟩
    rw [ht] at ht'
    cases ht'
    exact ⟨v, p, q, rfl, htab2.cases, hp, hq, (htab2.above (w' := w3) fun k hk hB => hw3 k hB hk).base (Nat.zero_le _)⟩
  · rintro e w' ⟨L, bs, fs, he, hl, hil, hh, hb⟩
    exact ⟨L, bs, fs, he, hil, by rw [hl, List.length_map, h2], fun i f t hf ht => (hh.get hf) t ht, hb⟩
/-- The method m answers so, called with these tables, where S holds. -/
def MethodTabs (S : World → Prop) (m : Nat) (ts : List (List Atom)) (P : Res → Prop) : Prop := ∀ (F : Value) (B L : Nat) (bs : List Nat) (fs : List Value) (w : World), S w → IsList B w L bs (fs.map (.iface 84)) → fs.length = ts.length → (∀ (i : Nat) f t, fs[i]? = some f → ts[i]? = some t → MatAt w f t) → Calls Tryz.prog m #[F, .pointer (some ⟨L, 0, none⟩)] w (Gives P w)
/-- One table among the arguments, taken apart. -/
theorem one_tab {B L : Nat} {bs : List Nat} {fs : List Value} {w : World} {t : List Atom} (hne : t ≠ []) (hil : IsList B w L bs (fs.map (.iface 84))) (hl : fs.length = 1) (hm : ∀ (i : Nat) f t', fs[i]? = some f → [t][i]? = some t' → MatAt w f t') :
    ∃ b0 rg rn rc p q, bs = [b0] ∧ IsList B w L [b0] [.iface 84 (.agg #[.string ⟨#[]⟩, .float .f64 0, .string ⟨#[]⟩, .slice none 0 0, .slice (some ⟨rg, 0, none⟩) rn rc, .bool false, .string ⟨#[]⟩, .int .u8 4, .pointer p, .pointer q])] ∧ Tab 0 w 79 84 10 (.slice (some ⟨rg, 0, none⟩) rn rc) (t.map fun a => [a.facells]) := by
  match fs, hl, hil, hm with
  | [f], _, hil, hm =>
    obtain ⟨v, p, q, rfl, hv, ⟨p', rfl⟩, ⟨q', rfl⟩, htab⟩ := hm 0 f t rfl rfl
    obtain ⟨rg, rc, rfl⟩ : ∃ rg rc, v = .slice (some ⟨rg, 0, none⟩) t.length rc := by
      rcases htab.shape with ⟨_, h⟩ | ⟨g, c, h, _⟩
      · exact absurd (List.map_eq_nil_iff.1 h) hne
      · exact ⟨g, c, by rw [h, List.length_map]⟩
    have hbl := hil.len
    match bs, hbl, hil with
    | [b0], _, hil => exact ⟨b0, rg, _, rc, p', q', rfl, hil, htab⟩
end Go.Proofs.YtoebgbojpkflnaaGreatDoor
namespace Go.Proofs.YtoebgbojpkflnaaGreatDoor
open Go Go.RowKit
/-- What tables as arguments must be. -/
structure TsOk (ts : List (List Atom)) : Prop where
  ok : ∀ t ∈ ts, ∀ a ∈ t, a.Ok
  ne : ∀ t ∈ ts, t ≠ []
  len : ∀ t ∈ ts, t.length ≤ 100
  few : ts.length ≤ 100
  any : ts ≠ []
end Go.Proofs.YtoebgbojpkflnaaGreatDoor
