/- Proof of FnSquaresJoined, a part: Law 3: the statements behind its columns. -/
import Derived.Outline
import Derived.Test.YtoebgbojpkflnaaGreatDoorJJoin
import Derived.Test.YtoebgbojpkflnaaGreatDoorJColReg
namespace Go.Proofs.YtoebgbojpkflnaaGreatDoor
open Go Go.RowKit
theorem tab_sgc {xs : List Int} {w : World} {v : Value} (h : Tab 0 w 31 27 5 v (xs.map fun n => [iCells n])) : Tab 0 w 31 27 5 v ((xs.map Sg.int).map fun x => [x.cells]) := by rw [sg_cells]; exact h
/-- all at two columns that lie side by side in new memory. -/
theorem all_two (xs ys : List Int) (okx : SmallInts xs) (oky : SmallInts ys) (hx : xs.length ≤ 50) (hy : ys.length ≤ 50) (v u : Value) (w : World) (tv : Tab 0 w 31 27 5 v (xs.map fun n => [iCells n])) (tu : Tab 0 w 31 27 5 u (ys.map fun n => [iCells n])) :
    Calls Tryz.prog 13 #[.slice (some ⟨w.heap.size, 0, none⟩) 2 2] (w.alloc (.cells #[.int .i64 5, .int .i64 0, .int .i64 0, .string ⟨#[]⟩, v, .int .i64 5, .int .i64 0, .int .i64 0, .string ⟨#[]⟩, u] 27)) fun e w' => ∃ v, e = .returned v ∧ TabVals w' 29 37 v [xs.map iA, ys.map iA] ∧ Below w.heap.size w w' := by
  have hst : SgTabs (w.alloc (.cells #[.int .i64 5, .int .i64 0, .int .i64 0, .string ⟨#[]⟩, v, .int .i64 5, .int .i64 0, .int .i64 0, .string ⟨#[]⟩, u] 27)) (.slice (some ⟨w.heap.size, 0, none⟩) 2 2) [xs.map Sg.int, ys.map Sg.int] := ⟨[v, u], arab_ofBlk (xs := [sRow v, sRow u]) (Blk.new w 27 (sRow v ++ sRow u)) (by intro y hy; simp at hy; rcases hy with rfl | rfl <;> rfl) (Nat.zero_le _) (by simp [maxLen]), rfl, fun i r t hr ht => by
    match i, hr, ht with
    | 0, hr, ht => simp at hr ht; subst hr ht; exact (tab_sgc tv).keep ((Below.refl _ _).alloc (Nat.le_refl _) _)
    | 1, hr, ht => simp at hr ht; subst hr ht; exact (tab_sgc tu).keep ((Below.refl _ _).alloc (Nat.le_refl _) _)
    | k + 2, hr, ht => simp at hr⟩
  refine (sg_tabs [xs.map Sg.int, ys.map Sg.int] (by intro t ht; simp at ht; rcases ht with rfl | rfl; exact sg_ok okx; exact sg_ok oky) (by intro t ht; simp at ht; rcases ht with rfl | rfl <;> rw [List.length_map] <;> omega) (by simp) _ w.heap.size 2 hst).mono ?_
  rintro e w' ⟨v', rfl, htv, hb⟩
  refine ⟨v', rfl, ?_, Below.trans ((Below.refl _ _).alloc (Nat.le_refl _) _) (hb.mono (by simp))⟩
  have : [xs.map Sg.int, ys.map Sg.int].map (fun t => t.map Sg.atom) = [xs.map iA, ys.map iA] := by simp only [List.map_cons, List.map_nil, sg_atoms]
  rw [← this]; exact htv
theorem all_one (xs : List Int) (okx : SmallInts xs) (hx : xs.length ≤ 50) (v : Value) (w : World) (tv : Tab 0 w 31 27 5 v (xs.map fun n => [iCells n])) :
    Calls Tryz.prog 13 #[.slice (some ⟨w.heap.size, 0, none⟩) 1 1] (w.alloc (.cells #[.int .i64 5, .int .i64 0, .int .i64 0, .string ⟨#[]⟩, v] 27)) fun e w' => ∃ v, e = .returned v ∧ TabVals w' 29 37 v [xs.map iA] ∧ Below w.heap.size w w' := by
  have hst : SgTabs (w.alloc (.cells #[.int .i64 5, .int .i64 0, .int .i64 0, .string ⟨#[]⟩, v] 27)) (.slice (some ⟨w.heap.size, 0, none⟩) 1 1) [xs.map Sg.int] := ⟨[v], arab_ofBlk (xs := [sRow v]) (Blk.new w 27 (sRow v)) (by intro y hy; simp at hy; subst hy; rfl) (Nat.zero_le _) (by simp [maxLen]), rfl, fun i r t hr ht => by
    match i, hr, ht with
    | 0, hr, ht => simp at hr ht; subst hr ht; exact (tab_sgc tv).keep ((Below.refl _ _).alloc (Nat.le_refl _) _)
    | k + 1, hr, ht => simp at hr⟩
  refine (sg_tabs [xs.map Sg.int] (by intro t ht; simp at ht; subst ht; exact sg_ok okx) (by intro t ht; simp at ht; subst ht; rw [List.length_map]; omega) (by simp) _ w.heap.size 1 hst).mono ?_
  rintro e w' ⟨v', rfl, htv, hb⟩
  refine ⟨v', rfl, ?_, Below.trans ((Below.refl _ _).alloc (Nat.le_refl _) _) (hb.mono (by simp))⟩
  have : [xs.map Sg.int].map (fun t => t.map Sg.atom) = [xs.map iA] := by simp only [List.map_cons, List.map_nil, sg_atoms]
  rw [← this]; exact htv
/-- What a function of the thin package answers at tables: a number. -/
def Num (f : Nat) (ts : List (List Atom)) (b : Nat) : Prop := ∀ (v : Value) (w : World), TabVals w 29 37 v ts → Vars w → Calls Tryz.prog f #[v] w fun e w' => e = .returned (.agg #[.int .i64 1, .float .f64 b, .string ⟨#[]⟩, .slice none 0 0]) ∧ Below w.heap.size w w'
def Back (b : Nat) (n : Int) : Prop := ∀ w, Calls Tryz.prog 14 #[.agg #[.int .i64 1, .float .f64 b, .string ⟨#[]⟩, .slice none 0 0]] w fun e w' => e = .returned (.tuple #[.int .i64 n, .bool true]) ∧ Below w.heap.size w w'
theorem back_ok {b : Nat} {n : Int} (hb : b = fx n 0) (h : n.natAbs ≤ 200000000) : Back b n := fun w => combNum_any n (by omega) (by omega) b hb w
/-- The six numbers of the law, and what ties them. -/
structure Six (xs ys : List Int) (bP bQ bR bS bT bU : Nat) (p q r s t u : Int) : Prop where
  fP : Num 15 [xs.map iA, ys.map iA] bP
  fQ : Num 16 [xs.map iA, ys.map iA] bQ
  fR : Num 17 [xs.map iA, ys.map iA] bR
  fS : Num 18 [xs.map iA, ys.map iA] bS
  fT : Num 19 [xs.map iA] bT
  fU : Num 19 [ys.map iA] bU
  gP : Back bP p
  gQ : Back bQ q
  gR : Back bR r
  gS : Back bS s
  gT : Back bT t
  gU : Back bU u
  lP : p.natAbs ≤ 200000000
  lQ : q.natAbs ≤ 200000000
  lR : r.natAbs ≤ 200000000
  lS : s.natAbs ≤ 200000000
  lT : t.natAbs ≤ 200000000
  lU : u.natAbs ≤ 200000000
  e1 : p = q - 2 * r
  e2 : s = t - u
  e3 : q = t + u
theorem six_ok (xs ys : List Int) (n : Nat) (hx : xs.length = n) (hy : ys.length = n) (h0 : 0 < n) (hn : n ≤ 50) (okx : SmallInts xs) (oky : SmallInts ys) : ∃ bP bQ bR bS bT bU p q r s t u, Six xs ys bP bQ bR bS bT bU p q r s t u := by
  have hxy : xs.length = ys.length := hx.trans hy.symm
  have hxe : xs ≠ [] := by intro h; rw [h] at hx; simp at hx; omega
  have hye : ys ≠ [] := by intro h; rw [h] at hy; simp at hy; omega
  have hx5 : xs.length ≤ 50 := by omega
  have hy5 : ys.length ≤ 50 := by omega
  have tt : TsOk [xs.map iA, ys.map iA] := ts_ok (ts := [xs, ys]) (by intro ss h; simp at h; rcases h with rfl | rfl; exact ⟨okx, hxe, hx5⟩; exact ⟨oky, hye, hy5⟩) (by simp) (by simp)
  have tx : TsOk [xs.map iA] := ts_ok (ts := [xs]) (by intro ss h; simp at h; subst h; exact ⟨okx, hxe, hx5⟩) (by simp) (by simp)
  have ty : TsOk [ys.map iA] := ts_ok (ts := [ys]) (by intro ss h; simp at h; subst h; exact ⟨oky, hye, hy5⟩) (by simp) (by simp)
  have lim : ∀ f, (∀ x y : Int, x.natAbs ≤ 999 → y.natAbs ≤ 999 → (f x y).natAbs ≤ 4000000) → (tot f xs ys).natAbs ≤ 200000000 := by
    intro f hf
    have := tot_le f hf okx oky hx5 n
    rwa [List.take_of_length_le (by omega), List.take_of_length_le (by omega)] at this
  have lP := lim fD fD_le
  have lQ := lim fP fP_le
  have lR := lim fT fT_le
  have lS := lim fM fM_le
  have lT : (sqs xs).natAbs ≤ 200000000 := by have := sqs_le xs okx; omega
  have lU : (sqs ys).natAbs ≤ 200000000 := by have := sqs_le ys oky; omega
  refine ⟨fx (tot fD xs ys) 0, fx (tot fP xs ys) 0, fx (tot fT xs ys) 0, fx (tot fM xs ys) 0, fx (sqs xs) 0, fx (sqs ys) 0, tot fD xs ys, tot fP xs ys, tot fT xs ys, tot fM xs ys, sqs xs, sqs ys, ?_, ?_, ?_, ?_, ?_, ?_, back_ok rfl lP, back_ok rfl lQ, back_ok rfl lR, back_ok rfl lS, back_ok rfl lT, back_ok rfl lU, lP, lQ, lR, lS, lT, lU, eq1 xs ys, eq2 xs ys hxy, eq3 xs ys hxy⟩
  · exact fun v w hl hv => (xmy_impl _ tt _ v w hl Vars hv vars_stable (xmy_gives xs ys n hx hy h0 hn okx oky)).mono fun e w' h => val_num h
  · exact fun v w hl hv => (xpy_impl _ tt _ v w hl Vars hv vars_stable (xpy_gives xs ys n hx hy h0 hn okx oky)).mono fun e w' h => val_num h
  · exact fun v w hl hv => (prod_impl _ tt _ v w hl Vars hv vars_stable (sprod_gives xs ys n hx hy h0 hn okx oky)).mono fun e w' h => val_num h
  · exact fun v w hl hv => (xsy_impl _ tt _ v w hl Vars hv vars_stable (xsy_gives xs ys n hx hy h0 hn okx oky)).mono fun e w' h => val_num h
  · exact fun v w hl hv => (ssq_impl _ tx _ v w hl Vars hv vars_stable (sumsq_gives xs okx hx5 hxe)).mono fun e w' h => val_num h
  · exact fun v w hl hv => (ssq_impl _ ty _ v w hl Vars hv vars_stable (sumsq_gives ys oky hy5 hye)).mono fun e w' h => val_num h
set_option maxRecDepth 20000 in
set_option maxHeartbeats 8000000 in
theorem rest3_any (xs ys : List Int) (okx : SmallInts xs) (oky : SmallInts ys) (hx : xs.length ≤ 50) (hy : ys.length ≤ 50) (bP bQ bR bS bT bU : Nat) (p q r s t u : Int) (h6 : Six xs ys bP bQ bR bS bT bU p q r s t u)
    (y0 y1 y5 y21 y22 y23 y24 y25 y26 y27 y28 y29 y30 y31 y32 y33 y34 y35 y36 y37 y38 y39 y40 y41 y42 y43 x44 x45 x46 x47 x48 x49 x50 x51 v47 v51 : Value) (g6 g7 : Nat) (W w : World) (z6 : Blk w g6 27 (vRow v47)) (z7 : Blk w g7 27 (vRow v51)) (t47 : Tab 0 w 31 27 5 v47 (xs.map fun n => [iCells n])) (t51 : Tab 0 w 31 27 5 v51 (ys.map fun n => [iCells n])) (hv : Vars w) (hb : Below W.heap.size W w) :
    Code.wp Tryz.prog (tailC 6 (bodyOf Tryz.f3)) (bodyPost Tryz.prog Tryz.f3 fun e w' => e = .returned (.bool true) ∧ Below W.heap.size W w') (fr3 y0 y1 y5 y21 y22 y23 y24 y25 y26 y27 y28 y29 y30 y31 y32 y33 y34 y35 y36 y37 y38 y39 y40 y41 y42 y43 (.pointer (some ⟨g6, 0, none⟩)) (.pointer (some ⟨g7, 0, none⟩)) x44 x45 x46 x47 x48 x49 x50 x51) w := by
  have H6 := Lib.hid h6
  have HX := Lib.hid (And.intro okx hx)
  have HY := Lib.hid (And.intro oky hy)
  have HZ6 := Lib.hid z6
  have HZ7 := Lib.hid z7
  have HT1 := Lib.hid t47
  have HT2 := Lib.hid t51
  have HV := Lib.hid hv
  have HB := Lib.hid hb
  have l6 := z6.lt
  have l7 := z7.lt
  have a0 := z6.get 0 rfl
  have a1 := z6.get 1 rfl
  have a2 := z6.get 2 rfl
  have a3 := z6.get 3 rfl
  have a4 := z6.get 4 rfl
  have b0 := z7.get 0 rfl
  have b1 := z7.get 1 rfl
  have b2 := z7.get 2 rfl
  have b3 := z7.get 3 rfl
  have b4 := z7.get 4 rfl
  clear h6 okx oky hx hy z6 z7 t47 t51 hv hb
  generalize hQ : bodyPost Tryz.prog Tryz.f3 _ = Q
  simp only [tailC, bodyOf, Tryz.f3, Option.getD]
  subst hQ
  unfold fr3
  go_wp2_with fail
  refine (all_two xs ys HX.out.1 HY.out.1 HX.out.2 HY.out.2 v47 v51 w HT1.out HT2.out).mono ?_
  rintro e w1 ⟨va, rfl, hta, hb1⟩
  have HA := Lib.hid hta
  have HB1 := Lib.hid hb1
  clear hta hb1 a0 a1 a2 a3 a4 b0 b1 b2 b3 b4
  go_wp2_with fail
  refine (H6.out.fP va _ HA.out (HV.out.below HB1.out)).mono ?_
  rintro e wa1 ⟨rfl, hba⟩
  have HBa1 : Hid (Below w.heap.size w wa1) := HB1.out.trans (hba.mono HB1.out.size)
  have HAa1 := Lib.hid (HA.out.keep hba)
  clear hba
  go_wp2_with fail
  refine (H6.out.gP _).mono ?_
  rintro e w2 ⟨rfl, hbb⟩
  have HB2 : Hid (Below w.heap.size w w2) := HBa1.out.trans (hbb.mono HBa1.out.size)
  have HA2 := Lib.hid (HAa1.out.keep hbb)
  clear hbb
  go_wp2_with fail
  refine (H6.out.fQ va _ HA2.out (HV.out.below HB2.out)).mono ?_
  rintro e wa2 ⟨rfl, hba⟩
  have HBa2 : Hid (Below w.heap.size w wa2) := HB2.out.trans (hba.mono HB2.out.size)
  have HAa2 := Lib.hid (HA2.out.keep hba)
  clear hba
  go_wp2_with fail
  refine (H6.out.gQ _).mono ?_
  rintro e w3 ⟨rfl, hbb⟩
  have HB3 : Hid (Below w.heap.size w w3) := HBa2.out.trans (hbb.mono HBa2.out.size)
  have HA3 := Lib.hid (HAa2.out.keep hbb)
  clear hbb
  go_wp2_with fail
  refine (H6.out.fR va _ HA3.out (HV.out.below HB3.out)).mono ?_
  rintro e wa3 ⟨rfl, hba⟩
  have HBa3 : Hid (Below w.heap.size w wa3) := HB3.out.trans (hba.mono HB3.out.size)
  have HAa3 := Lib.hid (HA3.out.keep hba)
  clear hba
  go_wp2_with fail
  refine (H6.out.gR _).mono ?_
  rintro e w4 ⟨rfl, hbb⟩
  have HB4 : Hid (Below w.heap.size w w4) := HBa3.out.trans (hbb.mono HBa3.out.size)
  have HA4 := Lib.hid (HAa3.out.keep hbb)
  clear hbb
  go_wp2_with fail
  refine (H6.out.fS va _ HA4.out (HV.out.below HB4.out)).mono ?_
  rintro e wa4 ⟨rfl, hba⟩
  have HBa4 : Hid (Below w.heap.size w wa4) := HB4.out.trans (hba.mono HB4.out.size)
  have HAa4 := Lib.hid (HA4.out.keep hba)
  clear hba
  go_wp2_with fail
  refine (H6.out.gS _).mono ?_
  rintro e w5 ⟨rfl, hbb⟩
  have HB5 : Hid (Below w.heap.size w w5) := HBa4.out.trans (hbb.mono HBa4.out.size)
  have HA5 := Lib.hid (HAa4.out.keep hbb)
  clear hbb
  have z5 := HZ6.out.below HB5.out l6
  have c0 := z5.get 0 rfl
  have c1 := z5.get 1 rfl
  have c2 := z5.get 2 rfl
  have c3 := z5.get 3 rfl
  have c4 := z5.get 4 rfl
  have k5 := z5.lt
  clear z5
  go_wp2_with fail
  refine (all_one xs HX.out.1 HX.out.2 v47 w5 (HT1.out.keep HB5.out)).mono ?_
  rintro e wc5 ⟨vb5, rfl, htb, hbc⟩
  have HBc5 : Hid (Below w.heap.size w wc5) := HB5.out.trans (hbc.mono HB5.out.size)
  have HT5 := Lib.hid htb
  clear htb hbc c0 c1 c2 c3 c4 k5
  go_wp2_with fail
  refine (H6.out.fT vb5 _ HT5.out (HV.out.below HBc5.out)).mono ?_
  rintro e wa5 ⟨rfl, hba⟩
  have HBa5 : Hid (Below w.heap.size w wa5) := HBc5.out.trans (hba.mono HBc5.out.size)
  clear hba
  go_wp2_with fail
  refine (H6.out.gT _).mono ?_
  rintro e w6 ⟨rfl, hbb⟩
  have HB6 : Hid (Below w.heap.size w w6) := HBa5.out.trans (hbb.mono HBa5.out.size)
  clear hbb
  have z6 := HZ7.out.below HB6.out l7
  have c0 := z6.get 0 rfl
  have c1 := z6.get 1 rfl
  have c2 := z6.get 2 rfl
  have c3 := z6.get 3 rfl
  have c4 := z6.get 4 rfl
  have k6 := z6.lt
  clear z6
  go_wp2_with fail
  refine (all_one ys HY.out.1 HY.out.2 v51 w6 (HT2.out.keep HB6.out)).mono ?_
  rintro e wc6 ⟨vb6, rfl, htb, hbc⟩
  have HBc6 : Hid (Below w.heap.size w wc6) := HB6.out.trans (hbc.mono HB6.out.size)
  have HT6 := Lib.hid htb
  clear htb hbc c0 c1 c2 c3 c4 k6
  go_wp2_with fail
  refine (H6.out.fU vb6 _ HT6.out (HV.out.below HBc6.out)).mono ?_
  rintro e wa6 ⟨rfl, hba⟩
  have HBa6 : Hid (Below w.heap.size w wa6) := HBc6.out.trans (hba.mono HBc6.out.size)
  clear hba
  go_wp2_with fail
  refine (H6.out.gU _).mono ?_
  rintro e w7 ⟨rfl, hbb⟩
  have HB7 : Hid (Below w.heap.size w w7) := HBa6.out.trans (hbb.mono HBa6.out.size)
  clear hbb
  have q1 : p = q - 2 * r := H6.out.e1
  have q2 : s = t - u := H6.out.e2
  have q3 : q = t + u := H6.out.e3
  have lP := H6.out.lP
  have lQ := H6.out.lQ
  have lR := H6.out.lR
  have lS := H6.out.lS
  have lT := H6.out.lT
  have lU := H6.out.lU
  go_wp2_with fail
  go_ret
  exact ⟨rfl, HB.out.trans (HB7.out.mono HB.out.size)⟩
end Go.Proofs.YtoebgbojpkflnaaGreatDoor
