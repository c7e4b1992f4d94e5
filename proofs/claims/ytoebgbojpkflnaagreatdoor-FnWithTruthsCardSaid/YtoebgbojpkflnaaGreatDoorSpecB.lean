/- The spec's sorted, greatest, least, mean. -/
import Derived.Test.YtoebgbojpkflnaaGreatDoorSpecA
import Derived.Laws.AppendOwnNone
namespace Go.Proofs.YtoebgbojpkflnaaGreatDoor
open Go Go.RowKit
/-- What an append takes its cells from: nil, or a place. -/
def Src (w : World) (A : Option Addr) (m c : Nat) (news : List Value) : Prop := (A = none ∧ m = 0 ∧ c = 0 ∧ news = []) ∨ ∃ ad, A = some ad ∧ ∀ j u, news[j]? = some u → w.cell? (ad.add j) = some u
theorem append_src {P : Program} {w : World} {ops : Array Oper} {rest : List Oper} {o : Oper} {a : Act} {Q : Exit → Act → World → Prop} (hgd : o.guard = none) (s x : Operand) (t : TypeId)
    (ho : o.op = .call { callee := .builtin .append, args := #[s, x], argTypes := #[t, t] })
    (B : Nat) (e : TypeId) (z : Value) (sz bytes : Nat) (ht : P.underlying t = some (.slice e)) (hinf : (P.info? e).map (fun i => (i.zero, i.size, i.bytes)) = some (some z, sz, bytes))
    (hzs : z.cells.size = sz) (hsz : 0 < sz) (hby : bytes ≤ 1000)
    (v : Value) (xs : List (List Value)) (hs : a.eval s = v) (hown : Arr B w e sz v xs)
    (A : Option Addr) (m c : Nat) (ys : List (List Value)) (hx : a.eval x = .slice A m c) (hm : ys.length = m) (hy : Src w A m c ys.flatten) (hw : ∀ y ∈ ys, y.length = sz) (h1 : ∀ y ∈ ys, ∀ u ∈ y, u.oneCell' = true)
    (hn : xs.length + m ≤ 4000000000) (hB : B ≤ w.heap.size)
    (h : ∀ v' w', Arr B w' e sz v' (xs ++ ys) → Below B w w' → wpList P ops Q rest (a.put o.dst v') w') : wpList P ops Q (o :: rest) a w := by
  obtain ⟨i, hi, hz0, hz1, hz2⟩ := info_parts hinf
  rcases hy with ⟨rfl, rfl, rfl, _⟩ | ⟨ad, rfl, hc⟩
  · obtain rfl : ys = [] := List.length_eq_zero_iff.1 hm
    exact wpList_append_own_none hgd s x t ho B e i sz ht hi v xs.length xs.flatten hs hown.row hx (h v w (by simpa using hown) (Below.refl _ _))
  · subst hm
    have hmul : (xs.length + ys.length) * bytes ≤ (xs.length + ys.length) * 1000 := Nat.mul_le_mul_left _ hby
    have hfl : ys.flatten.length = ys.length * sz := by
      clear hc hx h1 hn hmul h
      induction ys with
      | nil => simp
      | cons y ys ih => rw [List.flatten_cons, List.length_append, ih fun x hx => hw x (List.mem_cons_of_mem _ hx), hw y (by simp), List.length_cons, Nat.succ_mul, Nat.add_comm]
    exact wpList_append_own w hgd s x t ho B e i z sz bytes ht hi hz0 hz1 hz2 hzs hsz v xs.length xs.flatten hs hown.row ad ys.length c ys.flatten hx hfl hc
      (fun u hu => by obtain ⟨y, hy1, hy2⟩ := List.mem_flatten.1 hu; exact h1 y hy1 u hy2)
      (by simp only [maxLen]; omega) (by omega) hB fun v' w' h2 h3 _ => h v' w' (Arr.app h2 hown.wid hw) (hown.below h3 hB)
theorem info27 : (Tryz.prog.info? 27).map (fun i => (i.zero, i.size, i.bytes)) = some (some (.agg #[.int .i64 0, .int .i64 0, .int .i64 0, .string ⟨#[]⟩, .slice none 0 0]), 5, 64) := by kernel_rfl
theorem iCells_one (n : Int) : ∀ u ∈ iCells n, u.oneCell' = true := by
  intro u hu; simp [iCells] at hu; rcases hu with rfl | rfl | rfl | rfl | rfl <;> rfl
theorem less_t (a b : Nat) (ha : a ≤ 10000000) (hb : b ≤ 10000000) (h : a < b) (w : World) :
    Calls Tryz.prog 118 #[.agg #[.int .i64 1, .int .i64 a, .int .i64 1, .string ⟨#[]⟩, .slice none 0 0], .agg #[.int .i64 1, .int .i64 b, .int .i64 1, .string ⟨#[]⟩, .slice none 0 0]] w fun e w' => e = .returned (.bool true) ∧ Below w.heap.size w w' := by
  have := less_any a b ha hb w
  rwa [decide_eq_true h] at this
theorem less_f (a b : Nat) (ha : a ≤ 10000000) (hb : b ≤ 10000000) (h : ¬ a < b) (w : World) :
    Calls Tryz.prog 118 #[.agg #[.int .i64 1, .int .i64 a, .int .i64 1, .string ⟨#[]⟩, .slice none 0 0], .agg #[.int .i64 1, .int .i64 b, .int .i64 1, .string ⟨#[]⟩, .slice none 0 0]] w fun e w' => e = .returned (.bool false) ∧ Below w.heap.size w w' := by
  have := less_any a b ha hb w
  rwa [decide_eq_false h] at this
theorem flat_len {sz : Nat} : ∀ (xs : List (List Value)), (∀ x ∈ xs, x.length = sz) → xs.flatten.length = xs.length * sz
  | [], _ => by simp
  | y :: ys, h => by rw [List.flatten_cons, List.length_append, flat_len ys fun x hx => h x (List.mem_cons_of_mem _ hx), h y (by simp), List.length_cons, Nat.succ_mul, Nat.add_comm]
theorem arr_take {B : Nat} {w : World} {e sz g n c : Nat} {xs : List (List Value)} (h : Arr B w e sz (.slice (some ⟨g, 0, none⟩) n c) xs) (j : Nat) : ∀ i u, (xs.take j).flatten[i]? = some u → w.cell? ((⟨g, 0, none⟩ : Addr).add i) = some u := by
  intro i u hu
  refine h.row.cells rfl i u ?_
  have e : xs.flatten = (xs.take j).flatten ++ (xs.drop j).flatten := by rw [← List.flatten_append, List.take_append_drop]
  rw [e, List.getElem?_append_left (List.getElem?_eq_some_iff.1 hu).1]
  exact hu
theorem arr_drop {B : Nat} {w : World} {e sz g n c : Nat} {xs : List (List Value)} (h : Arr B w e sz (.slice (some ⟨g, 0, none⟩) n c) xs) (j : Nat) (hj : j ≤ xs.length) : ∀ i u, (xs.drop j).flatten[i]? = some u → w.cell? ((⟨g, j * sz, none⟩ : Addr).add i) = some u := by
  intro i u hu
  have e : xs.flatten = (xs.take j).flatten ++ (xs.drop j).flatten := by rw [← List.flatten_append, List.take_append_drop]
  have hl : (xs.take j).flatten.length = j * sz := by rw [flat_len _ fun x hx => h.wid x (List.mem_of_mem_take hx), List.length_take, Nat.min_eq_left hj]
  have h1 := h.row.cells rfl (j * sz + i) u (by rw [e, List.getElem?_append_right (by omega), hl, Nat.add_sub_cancel_left]; exact hu)
  have ha : ∀ o k : Nat, (⟨g, o, none⟩ : Addr).add k = ⟨g, o + k, none⟩ := by intro o k; unfold Addr.add; split <;> simp_all
  rw [ha] at h1 ⊢
  rw [Nat.zero_add] at h1
  exact h1
theorem iC_wid {ns : List Nat} : ∀ y ∈ ns.map fun n : Nat => iCells (n : Int), y.length = 5 := by
  intro y hy; obtain ⟨n, _, rfl⟩ := List.mem_map.1 hy; rfl
theorem iC_ones {ns : List Nat} : ∀ y ∈ ns.map fun n : Nat => iCells (n : Int), ∀ u ∈ y, u.oneCell' = true := by
  intro y hy; obtain ⟨n, _, rfl⟩ := List.mem_map.1 hy; exact iCells_one _
abbrev iC (n : Nat) : List Value := iCells (n : Int)
set_option maxRecDepth 20000 in
set_option maxHeartbeats 4000000 in
theorem sorted_any (ns : List Nat) (hs : ∀ n ∈ ns, n ≤ 100000) (w : World) (g c : Nat) (hrow : Arr 0 w 27 5 (.slice (some ⟨g, 0, none⟩) ns.length c) (ns.map iC)) (hl : ns.length ≤ 60) :
    Calls Tryz.prog 89 #[.slice (some ⟨g, 0, none⟩) ns.length c] w fun e w' => ∃ v ms, e = .returned v ∧ Arr w.heap.size w' 27 5 v (ms.map iC) ∧ ms.length = ns.length ∧ Rises ms ∧ (∀ y, y ∈ ms ↔ y ∈ ns) ∧ Below w.heap.size w w' := by
  have HR := Lib.hid hrow
  have HS := Lib.hid hs
  obtain ⟨n, hnn⟩ : ∃ n, n = ns.length := ⟨_, rfl⟩
  have HN : Hid (n = ns.length) := hnn
  rw [← hnn] at hl HR ⊢
  clear hnn hrow hs
  go_enter Tryz.func89, Tryz.ntmps89
  go_wp2_with fail
  go_loopw [3, 4] (fun v i wr => ∃ (k : Nat) (ms : List Nat), k ≤ n ∧ i = .int .i64 k ∧ Arr w.heap.size wr 27 5 v (ms.map iC) ∧ ms.length = k ∧ Rises ms ∧ (∀ y, y ∈ ms ↔ y ∈ ns.take k) ∧ Below w.heap.size w wr) (fun _ i _ => n - (intOf i).toNat)
  case atStart => exact ⟨0, [], Nat.zero_le _, rfl, Arr.nil _ _ _ _, rfl, fun i j a b _ h => by simp at h, by simp, Below.refl _ _⟩
  case round =>
    obtain ⟨k, ms, hk, rfl, ha, hml, hri, hme, hb⟩ := hrel
    have HA := Lib.hid ha
    have HB := Lib.hid hb
    have HML := Lib.hid hml
    have HRI := Lib.hid hri
    have HME := Lib.hid hme
    have hbs := hb.size
    clear ha hb hml hri hme
    by_cases hlt : k < n
    · obtain ⟨x, hx⟩ : ∃ x, ns[k]? = some x := ⟨_, List.getElem?_eq_getElem (by rw [← HN.out]; exact hlt)⟩
      have hx5 : x ≤ 100000 := HS.out x (List.mem_of_getElem? hx)
      have HM5 : Hid (∀ y ∈ ms, y ≤ 100000) := (by show ∀ y ∈ ms, y ≤ 100000; intro y hy; exact HS.out y (List.mem_of_mem_take ((HME.out y).1 hy)))
      have HX := Lib.hid hx
      have hrow2 := HR.out.keep HB.out
      have hxx : (ns.map iC)[k]? = some (iC x) := by rw [List.getElem?_map, hx]; rfl
      have c0 := hrow2.cell0 hxx (u := .int .i64 1) rfl
      have c1 := hrow2.cell hxx (j := 1) (u := .int .i64 x) rfl
      have c2 := hrow2.cell hxx (j := 2) (u := .int .i64 1) rfl
      have c3 := hrow2.cell hxx (j := 3) (u := .string ⟨#[]⟩) rfl
      have c4 := hrow2.cell hxx (j := 4) (u := .slice none 0 0) rfl
      have HG : Hid (g < wr.heap.size) := Lib.hid (World.block_lt_of_cell? _ _ c0)
      clear hrow2 hxx hx
      rcases HA.out.shape with ⟨hv, hm0⟩ | ⟨g2, cap, hv, _, hg2, hcap, hcm⟩
      · have hme0 : ms = [] := List.map_eq_nil_iff.1 hm0
        subst hv hme0
        clear hm0
        go_wp2_with fail
        refine wp_loop_rounds 1 ?_
        rw [rounds_succ]
        go_wp2_with fail
        go_quiet (fail)
        obtain ⟨w4, hw4⟩ : ∃ w4, w4 = wr.drewN nq := ⟨_, rfl⟩
        rw [← hw4]
        have HB4 : Hid (Below wr.heap.size wr w4) := (by show Below _ _ _; rw [hw4]; exact below_drewN' (Below.refl _ _) _)
        have e0 := (HB4.out.cell (p := ⟨g, k * 5, none⟩) HG.out).trans c0
        have e1 := (HB4.out.cell (p := ⟨g, k * 5 + 1, none⟩) HG.out).trans c1
        have e2 := (HB4.out.cell (p := ⟨g, k * 5 + 2, none⟩) HG.out).trans c2
        have e3 := (HB4.out.cell (p := ⟨g, k * 5 + 3, none⟩) HG.out).trans c3
        have e4 := (HB4.out.cell (p := ⟨g, k * 5 + 4, none⟩) HG.out).trans c4
        have hbs4 := Nat.le_trans hbs HB4.out.size
        clear hw4 c0 c1 c2 c3 c4
        go_wp2_with (first
          | (at_builtin; refine append_one rfl (.tmp 36) (.tmp 41) 31 rfl w.heap.size 27 _ 5 64 Tryz.underlying31 info27 rfl (by decide) (by decide) (.slice none 0 0) [] rfl (Arr.nil _ _ _ _) ⟨w4.heap.size, 0, none⟩ 1 (iC x) rfl rfl (news_cells _ _ _ _ rfl) (iCells_one _) (by simp) (le_alloc1 hbs4 _) ?_; intro v2 w2 ha2 hb2; have HA2 := Lib.hid ha2; have HB2 : Hid (Below w.heap.size w w2) := ((HB.out.trans (HB4.out.mono hbs)).alloc hbs4 _).trans hb2; clear ha2 hb2)
          | (at_builtin; refine append_src rfl (.tmp 43) (.tmp 46) 31 rfl w.heap.size 27 _ 5 64 Tryz.underlying31 info27 rfl (by decide) (by decide) v2 [iC x] rfl HA2.out none 0 0 [] rfl rfl (.inl ⟨rfl, rfl, rfl, rfl⟩) (by simp) (by simp) (by simp) HB2.out.size ?_; intro v3 w3 ha3 hb3))
        have hk0 : k = 0 := HML.out.symm
        have hx0 : ns.take (k + 1) = [x] := (by rw [take_snoc HX.out, hk0]; rfl)
        refine ⟨⟨k + 1, [x], by omega, by go_num, by simpa using ha3, by rw [hk0]; rfl, ?_, by rw [hx0]; simp, HB2.out.trans hb3⟩, by simp [intOf]; omega⟩
        intro i j a b hij h1 h2
        match i, j, h1, h2 with
        | 0, 0, h1, h2 => simp at h1 h2; omega
        | 0, j + 1, h1, h2 => simp at h2
        | i + 1, _, h1, h2 => simp at h1
      · rw [List.length_map, HML.out] at hcap
        rw [List.length_map, HML.out] at hv
        subst hv
        clear c0 c1 c2 c3 c4
        rename World => wo
        go_wp2_with fail
        go_loopw [6] (fun kk wq => ∃ j : Nat, j ≤ k ∧ kk = .int .i64 j ∧ (∀ i a : Nat, i < j → ms[i]? = some a → a ≤ x) ∧ Below wo.heap.size wo wq) (fun kk _ => k - (intOf kk).toNat)
        case atStart => exact ⟨0, Nat.zero_le _, rfl, fun i a h => by omega, Below.refl _ _⟩
        case round =>
          obtain ⟨j, hj, rfl, hle, hbq⟩ := hrel
          have HLE := Lib.hid hle
          have HBQ := Lib.hid hbq
          clear hle hbq
          by_cases hjk : j < k
          · obtain ⟨y, hy⟩ : ∃ y, ms[j]? = some y := ⟨_, List.getElem?_eq_getElem (by rw [HML.out]; exact hjk)⟩
            have hy5 : y ≤ 100000 := HM5.out y (List.mem_of_getElem? hy)
            have hrow2 := (HR.out.keep HB.out).keep HBQ.out
            have hxx : (ns.map iC)[k]? = some (iC x) := by rw [List.getElem?_map, HX.out]; rfl
            have c0 := hrow2.cell0 hxx (u := .int .i64 1) rfl
            have c1 := hrow2.cell hxx (j := 1) (u := .int .i64 x) rfl
            have c2 := hrow2.cell hxx (j := 2) (u := .int .i64 1) rfl
            have c3 := hrow2.cell hxx (j := 3) (u := .string ⟨#[]⟩) rfl
            have c4 := hrow2.cell hxx (j := 4) (u := .slice none 0 0) rfl
            have hrow3 := HA.out.keep HBQ.out
            have hyy : (ms.map iC)[j]? = some (iC y) := by rw [List.getElem?_map, hy]; rfl
            have d0 := hrow3.cell0 hyy (u := .int .i64 1) rfl
            have d1 := hrow3.cell hyy (j := 1) (u := .int .i64 y) rfl
            have d2 := hrow3.cell hyy (j := 2) (u := .int .i64 1) rfl
            have d3 := hrow3.cell hyy (j := 3) (u := .string ⟨#[]⟩) rfl
            have d4 := hrow3.cell hyy (j := 4) (u := .slice none 0 0) rfl
            have HY := Lib.hid hy
            clear hrow2 hxx hrow3 hyy hy
            by_cases hxy : x < y
            · have HEX : Hid (∀ a, ms[j]? = some a → x < a) := (by show ∀ a, ms[j]? = some a → x < a; intro a ha; rw [HY.out] at ha; cases ha; exact hxy)
              go_wp2_with fail
              go_still_tail 13, (by kernel_rfl)
              change wpList _ _ _ _ _ wr.drew
              go_wp2_with fail
              refine (less_t x y (by omega) (by omega) hxy _).mono ?_
              rintro e w4 ⟨rfl, hb4⟩
              have HB4 : Hid (Below wo.heap.size wo w4) := (below_drewN' HBQ.out 1).trans (hb4.mono HBQ.out.size)
              clear hb4 c0 c1 c2 c3 c4 d0 d1 d2 d3 d4
              have hbs4 : w.heap.size ≤ w4.heap.size := Nat.le_trans hbs HB4.out.size
              have hxx : (ns.map iC)[k]? = some (iC x) := by rw [List.getElem?_map, HX.out]; rfl
              have hrow2 := (HR.out.keep HB.out).keep HB4.out
              have e0' := hrow2.cell0 hxx (u := .int .i64 1) rfl
              have e1' := hrow2.cell hxx (j := 1) (u := .int .i64 x) rfl
              have e2' := hrow2.cell hxx (j := 2) (u := .int .i64 1) rfl
              have e3' := hrow2.cell hxx (j := 3) (u := .string ⟨#[]⟩) rfl
              have e4' := hrow2.cell hxx (j := 4) (u := .slice none 0 0) rfl
              have HE := Lib.hid (And.intro e0' (And.intro e1' (And.intro e2' (And.intro e3' e4'))))
              have HGL := Lib.hid (World.block_lt_of_cell? _ _ e0')
              clear hrow2 hxx e0' e1' e2' e3' e4'
              have HC : Hid (∀ w5, Below w4.heap.size w4 w5 → Arr w.heap.size w5 27 5 (.slice (some ⟨g2, 0, none⟩) k cap) (ms.map iC)) := (by show ∀ w5, Below w4.heap.size w4 w5 → Arr w.heap.size w5 27 5 (.slice (some ⟨g2, 0, none⟩) k cap) (ms.map iC); intro w5 h5; exact (HA.out.keep HB4.out).keep h5)
              have hcj : cap ≠ j := by omega
              have hcj2 : (cap = j) = False := eq_false hcj
              have hjc : j ≤ cap := by omega
              go_wp2_with (first
                | (at_builtin; refine append_src rfl (.tmp 31) (.tmp 34) 31 rfl w4.heap.size 27 _ 5 64 Tryz.underlying31 info27 rfl (by decide) (by decide) (.slice none 0 0) [] rfl (Arr.nil _ _ _ _) (some ⟨g2, 0, none⟩) j cap ((ms.map iC).take j) rfl (by rw [List.length_take, List.length_map, HML.out]; omega) (.inr ⟨_, rfl, arr_take (HC.out _ (Below.refl _ _)) j⟩) (fun y hy => iC_wid y (List.mem_of_mem_take hy)) (fun y hy => iC_ones y (List.mem_of_mem_take hy)) (by simp; omega) (Nat.le_refl _) ?_; intro v1 w1 ha1 hb1; have HA1 := Lib.hid ha1; have HB1 := Lib.hid hb1; have e0 := (HB1.out.cell (p := ⟨g, k * 5, none⟩) HGL.out).trans HE.out.1; have e1 := (HB1.out.cell (p := ⟨g, k * 5 + 1, none⟩) HGL.out).trans HE.out.2.1; have e2 := (HB1.out.cell (p := ⟨g, k * 5 + 2, none⟩) HGL.out).trans HE.out.2.2.1; have e3 := (HB1.out.cell (p := ⟨g, k * 5 + 3, none⟩) HGL.out).trans HE.out.2.2.2.1; have e4 := (HB1.out.cell (p := ⟨g, k * 5 + 4, none⟩) HGL.out).trans HE.out.2.2.2.2; have HL1 : Hid (([] ++ (ms.map iC).take j).length ≤ 4000000000) := (by show _ ≤ _; simp; omega); clear ha1 hb1)
                | (at_builtin; refine append_one rfl (.tmp 36) (.tmp 41) 31 rfl w4.heap.size 27 _ 5 64 Tryz.underlying31 info27 rfl (by decide) (by decide) v1 _ rfl (HA1.out.alloc _) ⟨w1.heap.size, 0, none⟩ 1 (iC x) rfl rfl (news_cells _ _ _ _ rfl) (iCells_one _) HL1.out (le_alloc1 HB1.out.size _) ?_; intro v2 w2 ha2 hb2; have HA2 := Lib.hid ha2; have HB2 : Hid (Below w4.heap.size w4 w2) := (HB1.out.alloc HB1.out.size _).trans hb2; clear ha2 hb2)
                | (at_builtin; refine append_src rfl (.tmp 43) (.tmp 46) 31 rfl w4.heap.size 27 _ 5 64 Tryz.underlying31 info27 rfl (by decide) (by decide) v2 _ rfl HA2.out (some ⟨g2, j * 5, none⟩) (k - j) (cap - j) ((ms.map iC).drop j) rfl (by rw [List.length_drop, List.length_map, HML.out]) (.inr ⟨_, rfl, arr_drop (HC.out _ HB2.out) j (by rw [List.length_map, HML.out]; omega)⟩) (fun y hy => iC_wid y (List.mem_of_mem_drop hy)) (fun y hy => iC_ones y (List.mem_of_mem_drop hy)) (by simp; omega) HB2.out.size ?_; intro v3 w3 ha3 hb3; have HA3 := Lib.hid ha3; have HB3 : Hid (Below w4.heap.size w4 w3) := HB2.out.trans hb3; clear ha3 hb3))
              have HIN : Hid (([] ++ (ms.map iC).take j ++ [iC x]) ++ (ms.map iC).drop j = (ms.take j ++ [x] ++ ms.drop j).map iC) := (by show _ = _; simp [List.map_take, List.map_drop])
              refine ⟨⟨k + 1, ms.take j ++ [x] ++ ms.drop j, by omega, by go_num, by have := HA3.out.base (B' := w.heap.size) hbs4; rw [HIN.out] at this; exact this, by simp [HML.out] <;> omega, rises_insert HRI.out (by rw [HML.out]; omega) HLE.out HEX.out, fun y => by rw [mem_insert, take_snoc HX.out, List.mem_append, HME.out]; simp, (HB.out.trans ((HB4.out.trans (HB3.out.mono HB4.out.size)).mono hbs))⟩, by simp [intOf]; omega⟩
            · go_wp2_with fail
              go_still_tail 13, (by kernel_rfl)
              change wpList _ _ _ _ _ wr.drew
              go_wp2_with fail
              refine (less_f x y (by omega) (by omega) hxy _).mono ?_
              rintro e w4 ⟨rfl, hb4⟩
              have HB4 : Hid (Below wo.heap.size wo w4) := (below_drewN' HBQ.out 1).trans (hb4.mono HBQ.out.size)
              clear hb4 c0 c1 c2 c3 c4 d0 d1 d2 d3 d4
              go_wp2_with fail
              refine ⟨⟨j + 1, by omega, by go_num, ?_, HB4.out⟩, by simp [intOf]; omega⟩
              intro i a hi ha
              by_cases hij : i < j
              · exact HLE.out i a hij ha
              · have e : i = j := by omega
                subst e
                rw [HY.out] at ha; cases ha; omega
          · have hjk2 : j = k := by omega
            have HEX : Hid (∀ a, ms[j]? = some a → x < a) := (by show ∀ a, ms[j]? = some a → x < a; intro a ha; rw [List.getElem?_eq_none (by rw [HML.out]; omega)] at ha; cases ha)
            subst hjk2
            go_wp2_with fail
            go_quiet (fail)
            obtain ⟨w4, hw4⟩ : ∃ w4, w4 = wr.drewN nq := ⟨_, rfl⟩
            rw [← hw4]
            have HB4 : Hid (Below wo.heap.size wo w4) := (by show Below _ _ _; rw [hw4]; exact below_drewN' HBQ.out _)
            clear hw4
            by_cases hcj : cap = j
            · subst hcj
              have hbs4 : w.heap.size ≤ w4.heap.size := Nat.le_trans hbs HB4.out.size
              have hxx : (ns.map iC)[cap]? = some (iC x) := by rw [List.getElem?_map, HX.out]; rfl
              have hrow2 := (HR.out.keep HB.out).keep HB4.out
              have e0' := hrow2.cell0 hxx (u := .int .i64 1) rfl
              have e1' := hrow2.cell hxx (j := 1) (u := .int .i64 x) rfl
              have e2' := hrow2.cell hxx (j := 2) (u := .int .i64 1) rfl
              have e3' := hrow2.cell hxx (j := 3) (u := .string ⟨#[]⟩) rfl
              have e4' := hrow2.cell hxx (j := 4) (u := .slice none 0 0) rfl
              have HE := Lib.hid (And.intro e0' (And.intro e1' (And.intro e2' (And.intro e3' e4'))))
              have HGL := Lib.hid (World.block_lt_of_cell? _ _ e0')
              clear hrow2 hxx e0' e1' e2' e3' e4'
              have HC : Hid (∀ w5, Below w4.heap.size w4 w5 → Arr w.heap.size w5 27 5 (.slice (some ⟨g2, 0, none⟩) cap cap) (ms.map iC)) := (by show ∀ w5, Below w4.heap.size w4 w5 → Arr w.heap.size w5 27 5 (.slice (some ⟨g2, 0, none⟩) cap cap) (ms.map iC); intro w5 h5; exact (HA.out.keep HB4.out).keep h5)
              have hjc : cap ≤ cap := Nat.le_refl _
              go_wp2_with (first
                | (at_builtin; refine append_src rfl (.tmp 31) (.tmp 34) 31 rfl w4.heap.size 27 _ 5 64 Tryz.underlying31 info27 rfl (by decide) (by decide) (.slice none 0 0) [] rfl (Arr.nil _ _ _ _) (some ⟨g2, 0, none⟩) cap cap ((ms.map iC).take cap) rfl (by rw [List.length_take, List.length_map, HML.out]; omega) (.inr ⟨_, rfl, arr_take (HC.out _ (Below.refl _ _)) cap⟩) (fun y hy => iC_wid y (List.mem_of_mem_take hy)) (fun y hy => iC_ones y (List.mem_of_mem_take hy)) (by simp; omega) (Nat.le_refl _) ?_; intro v1 w1 ha1 hb1; have HA1 := Lib.hid ha1; have HB1 := Lib.hid hb1; have e0 := (HB1.out.cell (p := ⟨g, cap * 5, none⟩) HGL.out).trans HE.out.1; have e1 := (HB1.out.cell (p := ⟨g, cap * 5 + 1, none⟩) HGL.out).trans HE.out.2.1; have e2 := (HB1.out.cell (p := ⟨g, cap * 5 + 2, none⟩) HGL.out).trans HE.out.2.2.1; have e3 := (HB1.out.cell (p := ⟨g, cap * 5 + 3, none⟩) HGL.out).trans HE.out.2.2.2.1; have e4 := (HB1.out.cell (p := ⟨g, cap * 5 + 4, none⟩) HGL.out).trans HE.out.2.2.2.2; have HL1 : Hid (([] ++ (ms.map iC).take cap).length ≤ 4000000000) := (by show _ ≤ _; simp; omega); clear ha1 hb1)
                | (at_builtin; refine append_one rfl (.tmp 36) (.tmp 41) 31 rfl w4.heap.size 27 _ 5 64 Tryz.underlying31 info27 rfl (by decide) (by decide) v1 _ rfl (HA1.out.alloc _) ⟨w1.heap.size, 0, none⟩ 1 (iC x) rfl rfl (news_cells _ _ _ _ rfl) (iCells_one _) HL1.out (le_alloc1 HB1.out.size _) ?_; intro v2 w2 ha2 hb2; have HA2 := Lib.hid ha2; have HB2 : Hid (Below w4.heap.size w4 w2) := (HB1.out.alloc HB1.out.size _).trans hb2; clear ha2 hb2)
                | (at_builtin; refine append_src rfl (.tmp 43) (.tmp 46) 31 rfl w4.heap.size 27 _ 5 64 Tryz.underlying31 info27 rfl (by decide) (by decide) v2 _ rfl HA2.out (some ⟨g2, 0, none⟩) 0 0 ((ms.map iC).drop cap) rfl (by rw [List.length_drop, List.length_map, HML.out]; omega) (.inr ⟨_, rfl, by intro i u hu; rw [List.drop_eq_nil_of_le (by rw [List.length_map, HML.out]; omega)] at hu; simp at hu⟩) (fun y hy => iC_wid y (List.mem_of_mem_drop hy)) (fun y hy => iC_ones y (List.mem_of_mem_drop hy)) (by simp; omega) HB2.out.size ?_; intro v3 w3 ha3 hb3; have HA3 := Lib.hid ha3; have HB3 : Hid (Below w4.heap.size w4 w3) := HB2.out.trans hb3; clear ha3 hb3))
              have HIN : Hid (([] ++ (ms.map iC).take cap ++ [iC x]) ++ (ms.map iC).drop cap = (ms.take cap ++ [x] ++ ms.drop cap).map iC) := (by show _ = _; simp [List.map_take, List.map_drop])
              refine ⟨⟨cap + 1, ms.take cap ++ [x] ++ ms.drop cap, by omega, by go_num, by have := HA3.out.base (B' := w.heap.size) hbs4; rw [HIN.out] at this; exact this, by simp [HML.out] <;> omega, rises_insert HRI.out (by rw [HML.out]; omega) HLE.out HEX.out, fun y => by rw [mem_insert, take_snoc HX.out, List.mem_append, HME.out]; simp, (HB.out.trans ((HB4.out.trans (HB3.out.mono HB4.out.size)).mono hbs))⟩, by simp [intOf]; omega⟩
            · have hcj2 : (cap = j) = False := eq_false hcj
              have hbs4 : w.heap.size ≤ w4.heap.size := Nat.le_trans hbs HB4.out.size
              have hxx : (ns.map iC)[j]? = some (iC x) := by rw [List.getElem?_map, HX.out]; rfl
              have hrow2 := (HR.out.keep HB.out).keep HB4.out
              have e0' := hrow2.cell0 hxx (u := .int .i64 1) rfl
              have e1' := hrow2.cell hxx (j := 1) (u := .int .i64 x) rfl
              have e2' := hrow2.cell hxx (j := 2) (u := .int .i64 1) rfl
              have e3' := hrow2.cell hxx (j := 3) (u := .string ⟨#[]⟩) rfl
              have e4' := hrow2.cell hxx (j := 4) (u := .slice none 0 0) rfl
              have HE := Lib.hid (And.intro e0' (And.intro e1' (And.intro e2' (And.intro e3' e4'))))
              have HGL := Lib.hid (World.block_lt_of_cell? _ _ e0')
              clear hrow2 hxx e0' e1' e2' e3' e4'
              have HC : Hid (∀ w5, Below w4.heap.size w4 w5 → Arr w.heap.size w5 27 5 (.slice (some ⟨g2, 0, none⟩) j cap) (ms.map iC)) := (by show ∀ w5, Below w4.heap.size w4 w5 → Arr w.heap.size w5 27 5 (.slice (some ⟨g2, 0, none⟩) j cap) (ms.map iC); intro w5 h5; exact (HA.out.keep HB4.out).keep h5)
              have hjc : j ≤ cap := by omega
              go_wp2_with (first
                | (at_builtin; refine append_src rfl (.tmp 31) (.tmp 34) 31 rfl w4.heap.size 27 _ 5 64 Tryz.underlying31 info27 rfl (by decide) (by decide) (.slice none 0 0) [] rfl (Arr.nil _ _ _ _) (some ⟨g2, 0, none⟩) j cap ((ms.map iC).take j) rfl (by rw [List.length_take, List.length_map, HML.out]; omega) (.inr ⟨_, rfl, arr_take (HC.out _ (Below.refl _ _)) j⟩) (fun y hy => iC_wid y (List.mem_of_mem_take hy)) (fun y hy => iC_ones y (List.mem_of_mem_take hy)) (by simp; omega) (Nat.le_refl _) ?_; intro v1 w1 ha1 hb1; have HA1 := Lib.hid ha1; have HB1 := Lib.hid hb1; have e0 := (HB1.out.cell (p := ⟨g, j * 5, none⟩) HGL.out).trans HE.out.1; have e1 := (HB1.out.cell (p := ⟨g, j * 5 + 1, none⟩) HGL.out).trans HE.out.2.1; have e2 := (HB1.out.cell (p := ⟨g, j * 5 + 2, none⟩) HGL.out).trans HE.out.2.2.1; have e3 := (HB1.out.cell (p := ⟨g, j * 5 + 3, none⟩) HGL.out).trans HE.out.2.2.2.1; have e4 := (HB1.out.cell (p := ⟨g, j * 5 + 4, none⟩) HGL.out).trans HE.out.2.2.2.2; have HL1 : Hid (([] ++ (ms.map iC).take j).length ≤ 4000000000) := (by show _ ≤ _; simp; omega); clear ha1 hb1)
                | (at_builtin; refine append_one rfl (.tmp 36) (.tmp 41) 31 rfl w4.heap.size 27 _ 5 64 Tryz.underlying31 info27 rfl (by decide) (by decide) v1 _ rfl (HA1.out.alloc _) ⟨w1.heap.size, 0, none⟩ 1 (iC x) rfl rfl (news_cells _ _ _ _ rfl) (iCells_one _) HL1.out (le_alloc1 HB1.out.size _) ?_; intro v2 w2 ha2 hb2; have HA2 := Lib.hid ha2; have HB2 : Hid (Below w4.heap.size w4 w2) := (HB1.out.alloc HB1.out.size _).trans hb2; clear ha2 hb2)
                | (at_builtin; refine append_src rfl (.tmp 43) (.tmp 46) 31 rfl w4.heap.size 27 _ 5 64 Tryz.underlying31 info27 rfl (by decide) (by decide) v2 _ rfl HA2.out (some ⟨g2, j * 5, none⟩) 0 (cap - j) ((ms.map iC).drop j) rfl (by rw [List.length_drop, List.length_map, HML.out]; omega) (.inr ⟨_, rfl, arr_drop (HC.out _ HB2.out) j (by rw [List.length_map, HML.out]; omega)⟩) (fun y hy => iC_wid y (List.mem_of_mem_drop hy)) (fun y hy => iC_ones y (List.mem_of_mem_drop hy)) (by simp; omega) HB2.out.size ?_; intro v3 w3 ha3 hb3; have HA3 := Lib.hid ha3; have HB3 : Hid (Below w4.heap.size w4 w3) := HB2.out.trans hb3; clear ha3 hb3))
              have HIN : Hid (([] ++ (ms.map iC).take j ++ [iC x]) ++ (ms.map iC).drop j = (ms.take j ++ [x] ++ ms.drop j).map iC) := (by show _ = _; simp [List.map_take, List.map_drop])
              refine ⟨⟨j + 1, ms.take j ++ [x] ++ ms.drop j, by omega, by go_num, by have := HA3.out.base (B' := w.heap.size) hbs4; rw [HIN.out] at this; exact this, by simp [HML.out] <;> omega, rises_insert HRI.out (by rw [HML.out]; omega) HLE.out HEX.out, fun y => by rw [mem_insert, take_snoc HX.out, List.mem_append, HME.out]; simp, (HB.out.trans ((HB4.out.trans (HB3.out.mono HB4.out.size)).mono hbs))⟩, by simp [intOf]; omega⟩
    · have hkn : k = n := by omega
      go_wp2_with fail
      go_ret
      exact ⟨_, ms, rfl, HA.out, by rw [HML.out, hkn], HRI.out, by have := HME.out; rw [hkn, HN.out, List.take_length] at this; exact this, HB.out⟩

set_option maxRecDepth 20000 in
set_option maxHeartbeats 4000000 in
theorem greatest_any (ns : List Nat) (hs : ∀ n ∈ ns, n ≤ 100000) (hne : ns ≠ []) (w : World) (g c : Nat) (hrow : Arr 0 w 27 5 (.slice (some ⟨g, 0, none⟩) ns.length c) (ns.map iC)) (hl : ns.length ≤ 60) :
    Calls Tryz.prog 62 #[.slice (some ⟨g, 0, none⟩) ns.length c] w fun e w' => (∃ m : Nat, IsMax ns m ∧ e = .returned (.agg #[.int .i64 1, .int .i64 m, .int .i64 1, .string ⟨#[]⟩, .slice none 0 0])) ∧ Below w.heap.size w w' := by
  have HR := Lib.hid hrow
  have HS := Lib.hid hs
  obtain ⟨p, hp⟩ : ∃ p, ns.length = p + 1 := ⟨ns.length - 1, by have := List.length_pos_iff.2 hne; omega⟩
  have HN := Lib.hid hp
  have HL := Lib.hid hl
  rw [hp] at hl HR ⊢
  clear hp hrow hs hne
  go_enter Tryz.func62, Tryz.ntmps62
  go_wp2_with fail
  have hso := sorted_any ns HS.out (w.alloc (.cells #[.int .i64 0, .int .i64 0, .int .i64 0, .string ⟨#[]⟩, .slice none 0 0] 27)) g c (by rw [HN.out]; exact HR.out.alloc _) HL.out
  rw [HN.out] at hso
  have HSO := Lib.hid hso
  clear hso
  refine HSO.out.mono ?_
  rintro e w1 ⟨v, ms, rfl, ha, hml, hri, hme, hb⟩
  have HA1 : Hid (Blk w1 w.heap.size 27 [.int .i64 0, .int .i64 0, .int .i64 0, .string ⟨#[]⟩, .slice none 0 0]) := (Blk.new w 27 [.int .i64 0, .int .i64 0, .int .i64 0, .string ⟨#[]⟩, .slice none 0 0]).below hb (by simp)
  have HB1 : Hid (Below w.heap.size w w1) := Below.trans (by go_grown) (hb.mono (by simp))
  clear hb
  obtain ⟨g2, cap, rfl⟩ : ∃ g2 cap, v = .slice (some ⟨g2, 0, none⟩) (p + 1) cap := (by
    rcases ha.shape with ⟨_, h⟩ | ⟨g2, cap, h, _⟩
    · have : ms = [] := List.map_eq_nil_iff.1 h
      subst this; simp at hml
    · exact ⟨g2, cap, by rw [h, List.length_map, hml]⟩)
  obtain ⟨m, hm⟩ : ∃ m, ms[p]? = some m := ⟨_, List.getElem?_eq_getElem (by omega)⟩
  have hmm : (ms.map iC)[p]? = some (iC m) := by rw [List.getElem?_map, hm]; rfl
  have c0 := ha.cell0 hmm (u := .int .i64 1) rfl
  have c1 := ha.cell hmm (j := 1) (u := .int .i64 m) rfl
  have c2 := ha.cell hmm (j := 2) (u := .int .i64 1) rfl
  have c3 := ha.cell hmm (j := 3) (u := .string ⟨#[]⟩) rfl
  have c4 := ha.cell hmm (j := 4) (u := .slice none 0 0) rfl
  have HM : Hid (IsMax ns m) := (by
    have h1 : IsMax ms m := rises_last hri (by rw [hml]; exact hm)
    exact ⟨(hme m).1 h1.1, fun x hx => h1.2 x ((hme x).2 hx)⟩)
  clear ha hml hri hme hmm hm
  go_wp2_with (refine store_row rfl 27 (.tmp 2) (.tmp 13) rfl w.heap.size 27 [.int .i64 0, .int .i64 0, .int .i64 0, .string ⟨#[]⟩, .slice none 0 0] (iC m) rfl rfl HA1.out sz27 rfl rfl w.heap.size (Nat.le_refl _) ?_; intro w6 hr6 hb6 _)
  exact bodyPost_ret (ret_row rfl _ _ w.heap.size 27 (iC m) _ rfl hr6 Tryz.underlying27 rfl sz27) rfl ⟨⟨m, HM.out, rfl⟩, HB1.out.trans hb6⟩

set_option maxRecDepth 20000 in
set_option maxHeartbeats 4000000 in
theorem least_any (ns : List Nat) (hs : ∀ n ∈ ns, n ≤ 100000) (hne : ns ≠ []) (w : World) (g c : Nat) (hrow : Arr 0 w 27 5 (.slice (some ⟨g, 0, none⟩) ns.length c) (ns.map iC)) (hl : ns.length ≤ 60) :
    Calls Tryz.prog 63 #[.slice (some ⟨g, 0, none⟩) ns.length c] w fun e w' => (∃ m : Nat, IsMin ns m ∧ e = .returned (.agg #[.int .i64 1, .int .i64 m, .int .i64 1, .string ⟨#[]⟩, .slice none 0 0])) ∧ Below w.heap.size w w' := by
  have HR := Lib.hid hrow
  have HS := Lib.hid hs
  obtain ⟨p, hp⟩ : ∃ p, ns.length = p + 1 := ⟨ns.length - 1, by have := List.length_pos_iff.2 hne; omega⟩
  have HN := Lib.hid hp
  have HL := Lib.hid hl
  rw [hp] at hl HR ⊢
  clear hp hrow hs hne
  go_enter Tryz.func63, Tryz.ntmps63
  go_wp2_with fail
  have hso := sorted_any ns HS.out (w.alloc (.cells #[.int .i64 0, .int .i64 0, .int .i64 0, .string ⟨#[]⟩, .slice none 0 0] 27)) g c (by rw [HN.out]; exact HR.out.alloc _) HL.out
  rw [HN.out] at hso
  have HSO := Lib.hid hso
  clear hso
  refine HSO.out.mono ?_
  rintro e w1 ⟨v, ms, rfl, ha, hml, hri, hme, hb⟩
  have HA1 : Hid (Blk w1 w.heap.size 27 [.int .i64 0, .int .i64 0, .int .i64 0, .string ⟨#[]⟩, .slice none 0 0]) := (Blk.new w 27 [.int .i64 0, .int .i64 0, .int .i64 0, .string ⟨#[]⟩, .slice none 0 0]).below hb (by simp)
  have HB1 : Hid (Below w.heap.size w w1) := Below.trans (by go_grown) (hb.mono (by simp))
  clear hb
  obtain ⟨g2, cap, rfl⟩ : ∃ g2 cap, v = .slice (some ⟨g2, 0, none⟩) (p + 1) cap := (by
    rcases ha.shape with ⟨_, h⟩ | ⟨g2, cap, h, _⟩
    · have : ms = [] := List.map_eq_nil_iff.1 h
      subst this; simp at hml
    · exact ⟨g2, cap, by rw [h, List.length_map, hml]⟩)
  obtain ⟨m, hm⟩ : ∃ m, ms[0]? = some m := ⟨_, List.getElem?_eq_getElem (by omega)⟩
  have hmm : (ms.map iC)[0]? = some (iC m) := by rw [List.getElem?_map, hm]; rfl
  have c0 := ha.cell0 hmm (u := .int .i64 1) rfl
  have c1 := ha.cell hmm (j := 1) (u := .int .i64 m) rfl
  have c2 := ha.cell hmm (j := 2) (u := .int .i64 1) rfl
  have c3 := ha.cell hmm (j := 3) (u := .string ⟨#[]⟩) rfl
  have c4 := ha.cell hmm (j := 4) (u := .slice none 0 0) rfl
  have HM : Hid (IsMin ns m) := (by
    have h1 : IsMin ms m := rises_first hri hm
    exact ⟨(hme m).1 h1.1, fun x hx => h1.2 x ((hme x).2 hx)⟩)
  clear ha hml hri hme hmm hm
  go_wp2_with (refine store_row rfl 27 (.tmp 2) (.tmp 10) rfl w.heap.size 27 [.int .i64 0, .int .i64 0, .int .i64 0, .string ⟨#[]⟩, .slice none 0 0] (iC m) rfl rfl HA1.out sz27 rfl rfl w.heap.size (Nat.le_refl _) ?_; intro w6 hr6 hb6 _)
  exact bodyPost_ret (ret_row rfl _ _ w.heap.size 27 (iC m) _ rfl hr6 Tryz.underlying27 rfl sz27) rfl ⟨⟨m, HM.out, rfl⟩, HB1.out.trans hb6⟩

set_option maxRecDepth 20000 in
set_option maxHeartbeats 4000000 in
theorem mean_yes (ns : List Nat) (hs : ∀ n ∈ ns, n ≤ 100000) (hne : ns ≠ []) (q : Nat) (hq : ns.sum * 16 = q * ns.length) (w : World) (g c : Nat) (hrow : Arr 0 w 27 5 (.slice (some ⟨g, 0, none⟩) ns.length c) (ns.map iC)) (hl : ns.length ≤ 60) :
    Calls Tryz.prog 64 #[.slice (some ⟨g, 0, none⟩) ns.length c] w fun e w' => (∃ a d : Nat, Fr q a d ∧ e = .returned (.agg #[.int .i64 1, .int .i64 a, .int .i64 d, .string ⟨#[]⟩, .slice none 0 0])) ∧ Below w.heap.size w w' := by
  have HR := Lib.hid hrow
  have HS := Lib.hid hs
  obtain ⟨n, hn⟩ : ∃ n, ns.length = n := ⟨_, rfl⟩
  have hn0 : 0 < n := (by rw [← hn]; exact List.length_pos_iff.2 hne)
  have hz : ((n : Int) == 0) = false := (by simp; omega)
  have HN := Lib.hid hn
  have HL := Lib.hid hl
  obtain ⟨s, hss⟩ : ∃ s, s = ns.sum := ⟨_, rfl⟩
  have hs6 : s ≤ 6000000 := (by rw [hss]; have := take_sum_le hs ns.length hl; rwa [List.take_length] at this)
  rw [hn] at hl HR ⊢
  rw [hn, ← hss] at hq
  have HSS := Lib.hid hss
  have HQ := Lib.hid hq
  clear hn hrow hs hne hss hq
  go_enter Tryz.func64, Tryz.ntmps64
  go_wp2_with fail
  have hso := sum_any ns HS.out (w.alloc (.cells #[.int .i64 0, .int .i64 0, .int .i64 0, .string ⟨#[]⟩, .slice none 0 0] 27)) g c (by rw [HN.out]; exact HR.out.alloc _) HL.out
  rw [HN.out, ← HSS.out] at hso
  have HSO := Lib.hid hso
  clear hso
  refine HSO.out.mono ?_
  rintro e w1 ⟨rfl, hb⟩
  have HA1 : Hid (Blk w1 w.heap.size 27 [.int .i64 0, .int .i64 0, .int .i64 0, .string ⟨#[]⟩, .slice none 0 0]) := (Blk.new w 27 [.int .i64 0, .int .i64 0, .int .i64 0, .string ⟨#[]⟩, .slice none 0 0]).below hb (by simp)
  have HB1 : Hid (Below w.heap.size w w1) := Below.trans (by go_grown) (hb.mono (by simp))
  have lt1 : w.heap.size < w1.heap.size := HA1.out.lt
  clear hb
  go_wp2_with (refine store_row rfl 27 (.tmp 3) (.tmp 9) rfl w1.heap.size 27 [.int .i64 0, .int .i64 0, .int .i64 0, .string ⟨#[]⟩, .slice none 0 0] (iC s) rfl rfl (Blk.new w1 27 [.int .i64 0, .int .i64 0, .int .i64 0, .string ⟨#[]⟩, .slice none 0 0]) sz27 rfl rfl w1.heap.size (Nat.le_refl _) ?_; intro w2 hr2 hb2 _; have t0 := hr2.get 0 rfl; have t1 := hr2.get 1 rfl; have t2 := hr2.get 2 rfl; have HB2 : Hid (Below w1.heap.size w1 w2) := ((Below.refl _ _).alloc (Nat.le_refl _) _).trans hb2; clear hr2 hb2)
  refine (frac_yes s n q (by omega) (by omega) (by omega) HQ.out _).mono ?_
  rintro e w4 ⟨⟨a, d, hf, rfl⟩, hb4⟩
  have HB4 : Hid (Below w1.heap.size w1 w4) := HB2.out.trans (hb4.mono HB2.out.size)
  have HA4 : Hid (Blk w4 w.heap.size 27 [.int .i64 0, .int .i64 0, .int .i64 0, .string ⟨#[]⟩, .slice none 0 0]) := HA1.out.below HB4.out lt1
  clear hb4
  go_wp2_with (refine store_row rfl 27 (.tmp 2) (.tmp 21) rfl w.heap.size 27 [.int .i64 0, .int .i64 0, .int .i64 0, .string ⟨#[]⟩, .slice none 0 0] [.int .i64 1, .int .i64 a, .int .i64 d, .string ⟨#[]⟩, .slice none 0 0] rfl rfl HA4.out sz27 rfl rfl w.heap.size (Nat.le_refl _) ?_; intro w6 hr6 hb6 _)
  exact bodyPost_ret (ret_row rfl _ _ w.heap.size 27 [.int .i64 1, .int .i64 a, .int .i64 d, .string ⟨#[]⟩, .slice none 0 0] _ rfl hr6 Tryz.underlying27 rfl sz27) rfl ⟨⟨a, d, hf, rfl⟩, (HB1.out.trans (HB4.out.mono HB1.out.size)).trans hb6⟩

set_option maxRecDepth 20000 in
set_option maxHeartbeats 4000000 in
theorem mean_no (ns : List Nat) (hs : ∀ n ∈ ns, n ≤ 100000) (hne : ns ≠ []) (hq : ns.sum * 16 % ns.length ≠ 0) (w : World) (g c : Nat) (hrow : Arr 0 w 27 5 (.slice (some ⟨g, 0, none⟩) ns.length c) (ns.map iC)) (hl : ns.length ≤ 60) :
    Calls Tryz.prog 64 #[.slice (some ⟨g, 0, none⟩) ns.length c] w fun e w' => e = .returned (.agg #[.int .i64 6, .int .i64 0, .int .i64 0, .string ⟨#[]⟩, .slice none 0 0]) ∧ Below w.heap.size w w' := by
  have HR := Lib.hid hrow
  have HS := Lib.hid hs
  obtain ⟨n, hn⟩ : ∃ n, ns.length = n := ⟨_, rfl⟩
  have hn0 : 0 < n := (by rw [← hn]; exact List.length_pos_iff.2 hne)
  have hz : ((n : Int) == 0) = false := (by simp; omega)
  have HN := Lib.hid hn
  have HL := Lib.hid hl
  obtain ⟨s, hss⟩ : ∃ s, s = ns.sum := ⟨_, rfl⟩
  have hs6 : s ≤ 6000000 := (by rw [hss]; have := take_sum_le hs ns.length hl; rwa [List.take_length] at this)
  rw [hn] at hl HR ⊢
  rw [hn, ← hss] at hq
  have HSS := Lib.hid hss
  have HQ := Lib.hid hq
  clear hn hrow hs hne hss hq
  go_enter Tryz.func64, Tryz.ntmps64
  go_wp2_with fail
  have hso := sum_any ns HS.out (w.alloc (.cells #[.int .i64 0, .int .i64 0, .int .i64 0, .string ⟨#[]⟩, .slice none 0 0] 27)) g c (by rw [HN.out]; exact HR.out.alloc _) HL.out
  rw [HN.out, ← HSS.out] at hso
  have HSO := Lib.hid hso
  clear hso
  refine HSO.out.mono ?_
  rintro e w1 ⟨rfl, hb⟩
  have HA1 : Hid (Blk w1 w.heap.size 27 [.int .i64 0, .int .i64 0, .int .i64 0, .string ⟨#[]⟩, .slice none 0 0]) := (Blk.new w 27 [.int .i64 0, .int .i64 0, .int .i64 0, .string ⟨#[]⟩, .slice none 0 0]).below hb (by simp)
  have HB1 : Hid (Below w.heap.size w w1) := Below.trans (by go_grown) (hb.mono (by simp))
  have lt1 : w.heap.size < w1.heap.size := HA1.out.lt
  clear hb
  go_wp2_with (refine store_row rfl 27 (.tmp 3) (.tmp 9) rfl w1.heap.size 27 [.int .i64 0, .int .i64 0, .int .i64 0, .string ⟨#[]⟩, .slice none 0 0] (iC s) rfl rfl (Blk.new w1 27 [.int .i64 0, .int .i64 0, .int .i64 0, .string ⟨#[]⟩, .slice none 0 0]) sz27 rfl rfl w1.heap.size (Nat.le_refl _) ?_; intro w2 hr2 hb2 _; have t0 := hr2.get 0 rfl; have t1 := hr2.get 1 rfl; have t2 := hr2.get 2 rfl; have HB2 : Hid (Below w1.heap.size w1 w2) := ((Below.refl _ _).alloc (Nat.le_refl _) _).trans hb2; clear hr2 hb2)
  refine (frac_no s n (by omega) (by omega) (by omega) HQ.out _).mono ?_
  rintro e w4 ⟨rfl, hb4⟩
  have HB4 : Hid (Below w1.heap.size w1 w4) := HB2.out.trans (hb4.mono HB2.out.size)
  have HA4 : Hid (Blk w4 w.heap.size 27 [.int .i64 0, .int .i64 0, .int .i64 0, .string ⟨#[]⟩, .slice none 0 0]) := HA1.out.below HB4.out lt1
  clear hb4
  go_wp2_with (refine store_row rfl 27 (.tmp 2) (.tmp 21) rfl w.heap.size 27 [.int .i64 0, .int .i64 0, .int .i64 0, .string ⟨#[]⟩, .slice none 0 0] dCells rfl rfl HA4.out sz27 rfl rfl w.heap.size (Nat.le_refl _) ?_; intro w6 hr6 hb6 _)
  exact bodyPost_ret (ret_row rfl _ _ w.heap.size 27 dCells _ rfl hr6 Tryz.underlying27 rfl sz27) rfl ⟨rfl, (HB1.out.trans (HB4.out.mono HB1.out.size)).trans hb6⟩
end Go.Proofs.YtoebgbojpkflnaaGreatDoor
