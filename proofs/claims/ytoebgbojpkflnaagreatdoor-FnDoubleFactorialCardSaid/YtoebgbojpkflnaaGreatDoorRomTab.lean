/- The table of Roman signs, as the rows list it, read cell by cell. -/
import Derived.Test.YtoebgbojpkflnaaGreatDoorRows
import Derived.Test.YtoebgbojpkflnaaGreatDoorNumeral
import Derived.Test.YtoebgbojpkflnaaGreatDoorFl
import Derived.ChangeArms
import Derived.Lib.LaidTab
import Derived.MakeChecks
import Derived.LaidSub
import Derived.Deep.Draws
namespace Go.Proofs.YtoebgbojpkflnaaGreatDoor
open Go Go.RowKit

section
variable {H : Type} {enc : TypeId × Value → H} {P : Program} {w : World} {sp : Nat → Bool} {held : Bool}
theorem slice_open {t e : TypeId} {fuel : Nat} {cs : List Value} {ds rest : List (DataW H)} {p : List MemPlace} (ht : P.underlying t = some (.slice e))
    (h : DataW.trod enc P w 0 sp held fuel t cs = some (.slice ds rest, p)) :
    ∃ a cap n, cs = [.slice (some a) ds.length cap] ∧ ds.length ≤ cap ∧ cap ≤ maxLen ∧ ∀ i d, ds[i]? = some d → ∃ vs q, w.cells? 0 (a.add (i * P.cellsOf e)) (P.cellsOf e) = some vs ∧ DataW.trod enc P w 0 sp held n e vs = some (d, q) := by
  rcases DataW.trod_slice ht h with ⟨_, hx⟩ | ⟨a, len, cap, elems, rest', n, _, hcs, hx, _, hl, hm, hlen, hel, _⟩
  · simp at hx
  · simp only [Prod.mk.injEq, DataW.slice.injEq] at hx
    obtain ⟨⟨rfl, _⟩, _⟩ := hx
    have el : (elems.map (·.1)).length = len := by simpa using hlen
    refine ⟨a, cap, n, by rw [el]; exact hcs, by rw [el]; exact hl, hm, fun i d hd => ?_⟩
    have hi : i < len := by rw [← el]; exact (List.getElem?_eq_some_iff.1 hd).1
    have hE := hel i hi
    rw [List.getElem?_map] at hd
    obtain ⟨x, hx, rfl⟩ := Option.map_eq_some_iff.1 hd
    rw [hx] at hE
    obtain ⟨vs, h1, h2⟩ := Option.bind_eq_some_iff.1 hE
    exact ⟨vs, x.2, h1, h2⟩
theorem cells_get {a : Addr} {n : Nat} {vs : List Value} (h : w.cells? 0 a n = some vs) (j : Nat) (hj : j < n) : ∃ v, vs[j]? = some v ∧ w.cell? (a.add j) = some v := by
  unfold World.cells? at h
  rw [if_pos (Nat.zero_le _)] at h
  obtain ⟨v, h1, h2⟩ := Lib.mapM_at h j j (by simp [hj])
  exact ⟨v, h1, h2⟩
theorem cells_len {a : Addr} {n : Nat} {vs : List Value} (h : w.cells? 0 a n = some vs) : vs.length = n := by
  unfold World.cells? at h
  rw [if_pos (Nat.zero_le _)] at h
  simpa using Lib.mapM_length h
theorem spot_none {a : Addr} {v : Value} (h : w.cell? a = some v) : a = ⟨a.block, a.off, none⟩ ∧ a.block < w.heap.size := by
  have hb : a.block < w.heap.size := by
    rcases Nat.lt_or_ge a.block w.heap.size with h' | h'
    · exact h'
    · simp [World.cell?, Array.getElem?_eq_none h'] at h
  refine ⟨?_, hb⟩
  obtain ⟨b, o, s⟩ := a
  cases s with
  | none => rfl
  | some s =>
    unfold World.cell? at h
    split at h <;> simp at h
theorem add_plain (b o j : Nat) : (⟨b, o, none⟩ : Addr).add j = ⟨b, o + j, none⟩ := by
  unfold Addr.add
  split <;> simp_all
theorem trod_float {t : TypeId} {fuel : Nat} {cs : List Value} {k : FloatKind} {x : DataW H × List MemPlace} (ht : P.underlying t = some (.float k)) (h : DataW.trod enc P w 0 sp held fuel t cs = some x) : ∃ b, cs = [.float k b] ∧ x = (.lit (.float k b), []) := by
  cases fuel with
  | zero => simp [DataW.trod] at h
  | succ n =>
    unfold DataW.trod at h
    rw [ht] at h
    split at h <;> simp_all
end

set_option maxRecDepth 100000 in
/-- One sign of the table: a number and a text, in two cells. -/
theorem roman_entry {H : Type} {enc : TypeId × Value → H} {w : World} {sp : Nat → Bool} {held : Bool} {n b : Nat} {l : List UInt8} {vs : List Value} {q : List MemPlace}
    (h : DataW.trod enc Tryz.prog w 0 sp held n 130 vs = some (.agg [.lit (.float .f64 b), .lit (.string l)], q)) : vs = [.float .f64 b, .string ⟨l.toArray⟩] := by
  obtain ⟨xs, m, _, hx, hlen, hxl, hf⟩ := DataW.trod_struct Tryz.underlying130 h
  have hc : Tryz.prog.cellsOf 130 = 2 := by kernel_rfl
  have hc34 : Tryz.prog.cellsOf 34 = 1 := by kernel_rfl
  have hc9 : Tryz.prog.cellsOf 9 = 1 := by kernel_rfl
  rw [hc] at hlen
  match vs, hlen with
  | [v0, v1], _ =>
    have f0 := hf 0 { name := "n", type := 34, offset := 0, embedded := false, tag := "", pkgPath := "pub-gridwork/pub/excelize", byteOffset := 0 } rfl
    have f1 := hf 1 { name := "s", type := 9, offset := 1, embedded := false, tag := "", pkgPath := "pub-gridwork/pub/excelize", byteOffset := 8 } rfl
    simp only [hc34, hc9, List.drop_zero, List.take_succ_cons, List.take_zero, List.drop_succ_cons] at f0 f1
    have hxm : xs.map (·.1) = [.lit (.float .f64 b), .lit (.string l)] := by simpa using (congrArg Prod.fst hx).symm
    match xs, hxm with
    | [x0, x1], hxm =>
      simp at hxm
      obtain ⟨b', e0, e1⟩ := trod_float Tryz.underlying34 (f0.trans rfl)
      obtain ⟨s', g0, g1, _⟩ := DataW.trod_string Tryz.underlying9 (f1.trans rfl)
      rw [e1, g1] at hxm
      simp at hxm e0 g0
      obtain ⟨rfl, hs⟩ := hxm
      rw [e0, g0, ← hs]

/-- What the table holds, where its rows lie. -/
def RomTab (w : World) : Prop := ∃ b0 o0 c0 b1 o1 c1, w.cell? ⟨0, 0, none⟩ = some (.slice (some ⟨b0, o0, none⟩) 5 c0) ∧ 0 < w.heap.size ∧ w.cell? ⟨b0, o0, none⟩ = some (.slice (some ⟨b1, o1, none⟩) 13 c1) ∧ b0 < w.heap.size ∧ b1 < w.heap.size ∧ 13 ≤ c1 ∧
  ∀ k, k < 13 → w.cell? ⟨b1, o1 + k * 2, none⟩ = some (.float .f64 (fx (romVal k) 0)) ∧ w.cell? ⟨b1, o1 + k * 2 + 1, none⟩ = some (.string ⟨(romSign k).toArray⟩)

abbrev romDatum (k : Nat) : DataW Unit := .agg [.lit (.float .f64 (fx (romVal k) 0)), .lit (.string (romSign k))]
def romRest : List (DataW Unit) := (match (Rows.laid_pub_gridwork_pub_excelize_romanTable : DataW Unit) with | .slice (_ :: r) _ => r | _ => [])
theorem laidRom_shape : ∃ rest, (Rows.laid_pub_gridwork_pub_excelize_romanTable : DataW Unit) = .slice (.slice ((List.range 13).map romDatum) [] :: rest) [] ∧ rest.length = 4 := ⟨romRest, by kernel_rfl, by kernel_rfl⟩

set_option maxRecDepth 100000 in
theorem romTab_of_laid {w : World} (h : laidMetH Tryz.prog Rows.fnArabicRow.laid w) : RomTab w := by
  rw [MakeChecks.laidMetH_plain _ _ _ (by kernel_rfl)] at h
  have h1 := h.filter (fun x => x.1 == "pub-gridwork/pub/excelize.romanTable")
  rw [show List.filter (fun x => x.1 == "pub-gridwork/pub/excelize.romanTable") Rows.fnArabicRow.laid = [("pub-gridwork/pub/excelize.romanTable", Rows.laid_pub_gridwork_pub_excelize_romanTable)] by kernel_rfl] at h1
  obtain ⟨ps, ⟨g, t, cs, fuel, p, q, hg, ht, hv, htr, _, _⟩, _⟩ := h1
  obtain rfl : 0 = g := Option.some.inj ((show Tryz.prog.globalNamed "pub-gridwork/pub/excelize.romanTable" = some 0 by kernel_rfl).symm.trans hg)
  obtain rfl : 124 = t := Option.some.inj ((show (Tryz.prog.globals[0]?).map (·.type) = some 124 by kernel_rfl).symm.trans ht)
  obtain ⟨rest, hsh, hrl⟩ := laidRom_shape
  rw [hsh] at htr
  have hc123 : Tryz.prog.cellsOf 123 = 1 := by kernel_rfl
  have hc130 : Tryz.prog.cellsOf 130 = 2 := by kernel_rfl
  obtain ⟨a, cap, n, hcs, _, _, hel⟩ := slice_open Tryz.underlying124 htr
  have hc0 := World.var?_cell (show Tryz.prog.globalNamed "pub-gridwork/pub/excelize.romanTable" = some 0 by kernel_rfl) hv 0
  have hcs0 : cs[0]? = some (.slice (some a) 5 cap) := by
    have : cs.toList[0]? = some (.slice (some a) 5 cap) := by rw [hcs]; simp [hrl]
    simpa using this
  rw [hcs0] at hc0
  obtain ⟨vs, q1, h2, h3⟩ := hel 0 _ rfl
  rw [hc123] at h2
  obtain ⟨v, hv1, hv2⟩ := cells_get h2 0 Nat.one_pos
  obtain ⟨a1, cap1, n1, hcs1, hl1, _, hel1⟩ := slice_open Tryz.underlying123 h3
  rw [hcs1] at hv1
  simp only [List.getElem?_cons_zero, Option.some.injEq] at hv1
  subst hv1
  have e0 : (a.add (0 * 1)).add 0 = a := by simp [Addr.add]
  rw [e0] at hv2
  obtain ⟨ea, la⟩ := spot_none hv2
  have key : ∀ k, k < 13 → ∃ vs q, w.cells? 0 (a1.add (k * 2)) 2 = some vs ∧ DataW.trod (fun _ => ()) Tryz.prog w 0 (fun _ => true) false n1 130 vs = some (romDatum k, q) := by
    intro k hk
    have := hel1 k (romDatum k) (by simp [hk])
    rwa [hc130] at this
  have cell : ∀ k, k < 13 → w.cell? ((a1.add (k * 2)).add 0) = some (.float .f64 (fx (romVal k) 0)) ∧ w.cell? ((a1.add (k * 2)).add 1) = some (.string ⟨(romSign k).toArray⟩) := by
    intro k hk
    obtain ⟨vs, q, g1, g2⟩ := key k hk
    have he := roman_entry g2
    obtain ⟨u0, i0, j0⟩ := cells_get g1 0 (by omega)
    obtain ⟨u1, i1, j1⟩ := cells_get g1 1 (by omega)
    rw [he] at i0 i1
    simp only [List.getElem?_cons_zero, List.getElem?_cons_succ, Option.some.injEq] at i0 i1
    exact ⟨by rw [j0, ← i0], by rw [j1, ← i1]⟩
  have z0 := (cell 0 (by omega)).1
  have e1 : (a1.add (0 * 2)).add 0 = a1 := by simp [Addr.add]
  rw [e1] at z0
  obtain ⟨eb, lb⟩ := spot_none z0
  obtain ⟨b0, o0, s0⟩ := a
  obtain ⟨b1, o1, s1⟩ := a1
  simp only [Addr.mk.injEq, true_and] at ea eb
  subst ea eb
  refine ⟨b0, o0, cap, b1, o1, cap1, hc0, (spot_none hc0).2, by simpa using hv2, la, lb, by simpa using hl1, fun k hk => ?_⟩
  have := cell k hk
  simpa only [add_plain, Nat.add_zero] using this
theorem RomTab.below {w w' : World} (h : RomTab w) (hb : Below w.heap.size w w') : RomTab w' := by
  obtain ⟨b0, o0, c0, b1, o1, c1, h1, h2, h3, h4, h5, h6, h7⟩ := h
  refine ⟨b0, o0, c0, b1, o1, c1, (hb.cell (p := ⟨0, 0, none⟩) h2).trans h1, Nat.lt_of_lt_of_le h2 hb.size, (hb.cell (p := ⟨b0, o0, none⟩) h4).trans h3, Nat.lt_of_lt_of_le h4 hb.size, Nat.lt_of_lt_of_le h5 hb.size, h6, fun k hk => ?_⟩
  obtain ⟨i, j⟩ := h7 k hk
  exact ⟨(hb.cell (p := ⟨b1, _, none⟩) h5).trans i, (hb.cell (p := ⟨b1, _, none⟩) h5).trans j⟩
end Go.Proofs.YtoebgbojpkflnaaGreatDoor
