/- Proof of FnSquaresJoined, a part: Go's tables of powers of ten, as the rows list them, read cell by cell; prescale. Conditions: the tables as listed. -/
import Derived.Test.YtoebgbojpkflnaaGreatDoorRows
import Derived.ChangeArms
import Derived.Lib.LaidTab
import Derived.MakeChecks
import Derived.LaidSub
import Derived.Test.YtoebgbojpkflnaaGreatDoorJUsc
namespace Go.Proofs.YtoebgbojpkflnaaGreatDoor
open Go Go.RowKit
/-- pow10Tab, cell by cell. -/
def PowTab (w : World) : Prop := 16 < w.heap.size ∧ ∀ i x, Go.Pinned.pow10Rows[i]? = some x → w.cell? ⟨16, i * 2, none⟩ = some (.int .u64 x.1) ∧ w.cell? ⟨16, i * 2 + 1, none⟩ = some (.int .u64 x.2)
theorem PowTab.below {w w' : World} (h : PowTab w) (hb : Below w.heap.size w w') : PowTab w' :=
  ⟨Nat.lt_of_lt_of_le h.1 hb.size, fun i x hx => ⟨(hb.cell (p := ⟨16, i * 2, none⟩) h.1).trans (h.2 i x hx).1, (hb.cell (p := ⟨16, i * 2 + 1, none⟩) h.1).trans (h.2 i x hx).2⟩⟩
/-- uint64pow10, as the shelf asks it. -/
def PowTwo (w : World) : Prop := Lib.TabIs Tryz.prog w "internal/strconv.uint64pow10" .u64 Lib.pow10Tab
section
variable {H : Type} {enc : TypeId × Value → H} {P : Program} {w : World} {sp : Nat → Bool} {held : Bool}
theorem array_open {t e : TypeId} {n fuel : Nat} {cs : List Value} {ds : List (DataW H)} {p : List MemPlace} (ht : P.underlying t = some (.array n e))
    (h : DataW.trod enc P w 0 sp held fuel t cs = some (.agg ds, p)) :
    ∃ m, ∀ i d, ds[i]? = some d → ∃ q, DataW.trod enc P w 0 sp held m e ((cs.drop (i * P.cellsOf e)).take (P.cellsOf e)) = some (d, q) := by
  cases fuel with
  | zero => simp [DataW.trod] at h
  | succ m =>
    refine ⟨m, fun i d hd => ?_⟩
    unfold DataW.trod at h
    rw [ht] at h
    simp only at h
    split at h
    · obtain ⟨xs, hm, hx⟩ := Option.map_eq_some_iff.1 h
      have hxs : xs.map (·.1) = ds := by simpa using congrArg Prod.fst hx
      rw [← hxs, List.getElem?_map] at hd
      obtain ⟨x, hx1, rfl⟩ := Option.map_eq_some_iff.1 hd
      have hi : i < n := by
        have h1 := Lib.mapM_length hm
        have h2 := (List.getElem?_eq_some_iff.1 hx1).1
        simp at h1; omega
      obtain ⟨b, hb, hf⟩ := Lib.mapM_at hm i i (by simp [hi])
      rw [hx1] at hb
      obtain rfl := Option.some.inj hb
      exact ⟨x.2, hf⟩
    · cases h
end
theorem pow_shape : Go.Pinned.pow10Tab = .agg (Go.Pinned.pow10Rows.map fun x => .agg [.lit (.int .u64 x.1), .lit (.int .u64 x.2)]) := rfl
set_option maxRecDepth 100000 in
theorem pow_entry {H : Type} {enc : TypeId × Value → H} {w : World} {sp : Nat → Bool} {held : Bool} {n : Nat} {a b : Int} {vs : List Value} {q : List MemPlace}
    (h : DataW.trod enc Tryz.prog w 0 sp held n 278 vs = some (.agg [.lit (.int .u64 a), .lit (.int .u64 b)], q)) : vs = [.int .u64 a, .int .u64 b] := by
  obtain ⟨xs, m, _, hx, hlen, hxl, hf⟩ := DataW.trod_struct Tryz.underlying278 h
  have hc : Tryz.prog.cellsOf 278 = 2 := by kernel_rfl
  have hc170 : Tryz.prog.cellsOf 170 = 1 := by kernel_rfl
  rw [hc] at hlen
  match vs, hlen with
  | [v0, v1], _ =>
    have f0 := hf 0 { name := "hi", type := 170, offset := 0, embedded := false, tag := "", pkgPath := "internal/strconv", byteOffset := 0 } rfl
    have f1 := hf 1 { name := "lo", type := 170, offset := 1, embedded := false, tag := "", pkgPath := "internal/strconv", byteOffset := 8 } rfl
    simp only [hc170, List.drop_zero, List.take_succ_cons, List.take_zero, List.drop_succ_cons] at f0 f1
    have hxm : xs.map (·.1) = [.lit (.int .u64 a), .lit (.int .u64 b)] := by simpa using (congrArg Prod.fst hx).symm
    match xs, hxm with
    | [x0, x1], hxm =>
      simp at hxm
      obtain ⟨a', e0, e1, _⟩ := DataW.trod_int Tryz.underlying170 (f0.trans rfl)
      obtain ⟨b', g0, g1, _⟩ := DataW.trod_int Tryz.underlying170 (f1.trans rfl)
      rw [e1, g1] at hxm
      simp at hxm e0 g0
      obtain ⟨rfl, rfl⟩ := hxm
      rw [e0, g0]
set_option maxRecDepth 100000 in
theorem powTab_of_laid {laid : List (String × DataW Unit)} {w : World} (hl : (laid.all fun x => x.2.handleName?.isNone) = true) (hf : laid.filter (fun x => x.1 == "internal/strconv.pow10Tab") = [("internal/strconv.pow10Tab", Go.Pinned.pow10Tab)]) (h : laidMetH Tryz.prog laid w) : PowTab w := by
  rw [MakeChecks.laidMetH_plain _ _ _ hl] at h
  have h1 := h.filter (fun x => x.1 == "internal/strconv.pow10Tab")
  rw [hf] at h1
  obtain ⟨ps, ⟨g, t, cs, fuel, p, q, hg, ht, hv, htr, _, _⟩, _⟩ := h1
  obtain rfl : 16 = g := Option.some.inj ((show Tryz.prog.globalNamed "internal/strconv.pow10Tab" = some 16 by kernel_rfl).symm.trans hg)
  obtain rfl : 279 = t := Option.some.inj ((show (Tryz.prog.globals[16]?).map (·.type) = some 279 by kernel_rfl).symm.trans ht)
  have hc278 : Tryz.prog.cellsOf 278 = 2 := by kernel_rfl
  rw [pow_shape] at htr
  obtain ⟨m, hel⟩ := array_open Tryz.underlying279 htr
  have hcell := World.var?_cell (show Tryz.prog.globalNamed "internal/strconv.pow10Tab" = some 16 by kernel_rfl) hv
  have key : ∀ i x, Go.Pinned.pow10Rows[i]? = some x → w.cell? ⟨16, i * 2, none⟩ = some (.int .u64 x.1) ∧ w.cell? ⟨16, i * 2 + 1, none⟩ = some (.int .u64 x.2) := by
    intro i x hx
    obtain ⟨q, h2⟩ := hel i (.agg [.lit (.int .u64 x.1), .lit (.int .u64 x.2)]) (by rw [List.getElem?_map, hx]; rfl)
    rw [hc278] at h2
    have he := pow_entry h2
    have h0 : ((cs.toList.drop (i * 2)).take 2)[0]? = some (.int .u64 x.1) := by rw [he]; rfl
    have h1 : ((cs.toList.drop (i * 2)).take 2)[1]? = some (.int .u64 x.2) := by rw [he]; rfl
    refine ⟨(hcell (i * 2)).trans ?_, (hcell (i * 2 + 1)).trans ?_⟩
    · simpa [List.getElem?_take, List.getElem?_drop] using h0
    · simpa [List.getElem?_take, List.getElem?_drop] using h1
  obtain ⟨x, hx⟩ : ∃ x, Go.Pinned.pow10Rows[0]? = some x := ⟨_, rfl⟩
  refine ⟨?_, key⟩
  have c := (key 0 x hx).1
  rcases Nat.lt_or_ge 16 w.heap.size with h' | h'
  · exact h'
  · simp [World.cell?, Array.getElem?_eq_none h'] at c
set_option maxRecDepth 100000 in
theorem powTwo_of_laid {laid : List (String × DataW Unit)} {w : World} (hl : (laid.all fun x => x.2.handleName?.isNone) = true) (hf : laid.filter (fun x => x.1 == "internal/strconv.uint64pow10") = [("internal/strconv.uint64pow10", Lib.tabData .u64 Lib.pow10Tab)]) (h : laidMetH Tryz.prog laid w) : PowTwo w := by
  rw [MakeChecks.laidMetH_plain _ _ _ hl] at h
  have h1 := h.filter (fun x => x.1 == "internal/strconv.uint64pow10")
  rw [hf] at h1
  exact Lib.tabIs_of_head (g := 12) (t := 260) (e := 170) (n := 20) (by kernel_rfl) (by kernel_rfl) (by kernel_rfl) (by kernel_rfl) (by kernel_rfl) (by kernel_rfl) h1
theorem powA {w : World} (h : laidMetH Tryz.prog Rows.fnSquaresJoinedRow.laid w) : PowTab w ∧ PowTwo w := ⟨powTab_of_laid (by kernel_rfl) (by kernel_rfl) h, powTwo_of_laid (by kernel_rfl) (by kernel_rfl) h⟩
theorem PowTwo.lt {w : World} (h : PowTwo w) : ∃ g, Tryz.prog.globalNamed "internal/strconv.uint64pow10" = some g ∧ g < w.heap.size := by
  unfold PowTwo Lib.TabIs World.var? at h
  cases hg : Tryz.prog.globalNamed "internal/strconv.uint64pow10" with
  | none => rw [hg] at h; cases h
  | some g =>
    refine ⟨g, rfl, ?_⟩
    rw [hg] at h
    simp only [Option.bind_some] at h
    rcases Nat.lt_or_ge g w.heap.size with h' | h'
    · exact h'
    · rw [Array.getElem?_eq_none h'] at h; cases h
theorem PowTwo.below {w w' : World} (h : PowTwo w) (hb : Below w.heap.size w w') : PowTwo w' := by
  obtain ⟨g, hg, hlt⟩ := h.lt
  unfold PowTwo Lib.TabIs World.var? at h ⊢
  rw [hg] at h ⊢
  simp only [Option.bind_some] at h ⊢
  rw [hb.block g hlt]
  exact h
end Go.Proofs.YtoebgbojpkflnaaGreatDoor
