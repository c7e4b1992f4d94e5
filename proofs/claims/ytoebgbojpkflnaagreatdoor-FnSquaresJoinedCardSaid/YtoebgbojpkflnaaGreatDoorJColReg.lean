/- Proof of FnSquaresJoined, a part: Law 3: the two columns, in a region that draws its order. -/
import Derived.Outline
import Derived.Test.YtoebgbojpkflnaaGreatDoorJRepl
import Derived.Test.YtoebgbojpkflnaaGreatDoorJApart
namespace Go.Proofs.YtoebgbojpkflnaaGreatDoor
open Go Go.RowKit
def tailC : Nat → Code → Code
  | 0, c => c
  | n + 1, .seq _ y => tailC n y
  | _ + 1, c => c
def headC : Code → Code
  | .seq x _ => x
  | c => c
def bodyOf (f : Func) : Code := f.body.getD .skip
theorem col_any (ss : List Int) (n : Nat) (hn0 : ss.length = n) (hr0 : ∀ n ∈ ss, -999 ≤ n ∧ n ≤ 999 ∧ n ≠ 0) (w : World) (g c : Nat) (hc : ∀ i s, ss[i]? = some s → w.cell? ⟨g, i, none⟩ = some (.int .i64 s)) (hg : g < w.heap.size) (hn : n ≤ 100) :
    Calls Tryz.prog 12 #[.slice (some ⟨g, 0, none⟩) n c] w fun e w' => ∃ v, e = .returned (.agg #[.int .i64 5, .int .i64 0, .int .i64 0, .string ⟨#[]⟩, v]) ∧ Tab w.heap.size w' 31 27 5 v (ss.map fun n => [iCells n]) ∧ Below w.heap.size w w' := by
  subst hn0
  exact sumsColumn_any ss (fun s hs => by have := hr0 s hs; omega) w g c hc hg hn
/-- The frame of law 3 about its columns. -/
def fr3 (y0 y1 y5 y21 y22 y23 y24 y25 y26 y27 y28 y29 y30 y31 y32 y33 y34 y35 y36 y37 y38 y39 y40 y41 y42 y43 x6 x7 x44 x45 x46 x47 x48 x49 x50 x51 : Value) : Act := { tmps := #[y0, y1, undef, undef, .bool false, y5, x6, x7, undef, undef, undef, undef, undef, undef, undef, undef, undef, undef, undef, undef, undef, y21, y22, y23, y24, y25, y26, y27, y28, y29, y30, y31, y32, y33, y34, y35, y36, y37, y38, y39, y40, y41, y42, y43, x44, x45, x46, x47, x48, x49, x50, x51, undef, undef, undef, undef, undef, undef, undef, undef, undef, undef, undef, undef, undef, undef, undef, undef, undef, undef, undef, undef, undef, undef, undef, undef, undef, undef, undef, undef, undef, undef, undef, undef, undef, undef, undef, undef, undef, undef, undef, undef, undef, undef, undef, undef, undef, undef, undef, undef, undef, undef, undef, undef, undef, undef, undef, undef, undef, undef, undef, undef, undef, undef, undef, undef, undef, undef, undef, undef, undef, undef, undef, undef, undef, undef, undef, undef, undef, undef, undef, undef, undef, undef], defers := [] }
structure RunC (xs ys : List Int) (n ga ka ca gb kb cb : Nat) (w0 : World) (x6 x7 x44 x45 x46 x47 x48 x49 x50 x51 : Value) (l : Array Bool) (w : World) : Prop where
  bel : Below w0.heap.size w0 w
  r0 : On1 l 0 → x44 = .slice (some ⟨ga, 0, none⟩) ka ca
  r1 : On1 l 1 → x45 = .int .i64 n
  r2 : On1 l 2 → x46 = .slice (some ⟨ga, 0, none⟩) n ca
  r3 : On1 l 3 → Col xs w x47 (On1 l 8) x6 (On1 l 9) x7
  r4 : On1 l 4 → x48 = .slice (some ⟨gb, 0, none⟩) kb cb
  r5 : On1 l 5 → x49 = .int .i64 n
  r6 : On1 l 6 → x50 = .slice (some ⟨gb, 0, none⟩) n cb
  r7 : On1 l 7 → Col ys w x51 (On1 l 8) x6 (On1 l 9) x7
  r8 : On1 l 8 → Bk 27 5 w0 w (On1 l 10) x6 x47
  r9 : On1 l 9 → Bk 27 5 w0 w (On1 l 11) x7 x51
  r10 : On1 l 10 → On1 l 3 ∧ On1 l 8
  r11 : On1 l 11 → On1 l 7 ∧ On1 l 9
  d8_9 : On1 l 8 → On1 l 9 → x6 ≠ x7
set_option maxRecDepth 20000 in
set_option maxHeartbeats 8000000 in
theorem cols3_any (xs ys : List Int) (n ga ka ca gb kb cb : Nat) (hx : xs.length = n) (hy : ys.length = n) (hn : n ≤ 50) (h1 : n ≤ ca) (h2 : n ≤ cb) (okx : ∀ n ∈ xs, -999 ≤ n ∧ n ≤ 999 ∧ n ≠ 0) (oky : ∀ n ∈ ys, -999 ≤ n ∧ n ≤ 999 ∧ n ≠ 0)
    (y21 y22 y23 y24 y25 y26 y27 y28 y29 y30 y31 y32 y33 y34 y35 y36 y37 y38 y39 y40 y41 y42 y43 : Value) (w0 : World) (hga : ga < w0.heap.size) (hgb : gb < w0.heap.size)
    (hxc : ∀ i s, xs[i]? = some s → w0.cell? ⟨ga, i, none⟩ = some (.int .i64 s)) (hyc : ∀ i s, ys[i]? = some s → w0.cell? ⟨gb, i, none⟩ = some (.int .i64 s)) :
    Code.wp Tryz.prog (headC (tailC 5 (bodyOf Tryz.f3))) (fun e a w' => e = .normal ∧ ∃ g6 g7 v47 v51, a = fr3 (.slice (some ⟨ga, 0, none⟩) ka ca) (.slice (some ⟨gb, 0, none⟩) kb cb) (.int .i64 n) y21 y22 y23 y24 y25 y26 y27 y28 y29 y30 y31 y32 y33 y34 y35 y36 y37 y38 y39 y40 y41 y42 y43 (.pointer (some ⟨g6, 0, none⟩)) (.pointer (some ⟨g7, 0, none⟩)) (.slice (some ⟨ga, 0, none⟩) ka ca) (.int .i64 n) (.slice (some ⟨ga, 0, none⟩) n ca) (.agg (vRow v47).toArray) (.slice (some ⟨gb, 0, none⟩) kb cb) (.int .i64 n) (.slice (some ⟨gb, 0, none⟩) n cb) (.agg (vRow v51).toArray) ∧ Blk w' g6 27 (vRow v47) ∧ Blk w' g7 27 (vRow v51) ∧ Tab 0 w' 31 27 5 v47 (xs.map fun n => [iCells n]) ∧ Tab 0 w' 31 27 5 v51 (ys.map fun n => [iCells n]) ∧ Below w0.heap.size w0 w')
      (fr3 (.slice (some ⟨ga, 0, none⟩) ka ca) (.slice (some ⟨gb, 0, none⟩) kb cb) (.int .i64 n) y21 y22 y23 y24 y25 y26 y27 y28 y29 y30 y31 y32 y33 y34 y35 y36 y37 y38 y39 y40 y41 y42 y43 undef undef undef undef undef undef undef undef undef undef) w0 := by
  have XN := Lib.hid hx
  have YN := Lib.hid hy
  have XR := Lib.hid okx
  have YR := Lib.hid oky
  have XG := Lib.hid hga
  have YG := Lib.hid hgb
  have XC := Lib.hid hxc
  have YC := Lib.hid hyc
  clear hx hy okx oky hga hgb hxc hyc
  simp only [headC, tailC, bodyOf, Tryz.f3, Option.getD]
  refine wp_region_any (by kernel_rfl) ?_
  refine wpAny_inv (n := 12) (fun l a w' => ∃ x6 x7 x44 x45 x46 x47 x48 x49 x50 x51, a = fr3 (.slice (some ⟨ga, 0, none⟩) ka ca) (.slice (some ⟨gb, 0, none⟩) kb cb) (.int .i64 n) y21 y22 y23 y24 y25 y26 y27 y28 y29 y30 y31 y32 y33 y34 y35 y36 y37 y38 y39 y40 y41 y42 y43 x6 x7 x44 x45 x46 x47 x48 x49 x50 x51 ∧ RunC xs ys n ga ka ca gb kb cb w0 x6 x7 x44 x45 x46 x47 x48 x49 x50 x51 l w') ?_ ?_ _ _ _ _ (by rfl) ?_ (by decide)
  · rintro l a w i hl ⟨x6, x7, x44, x45, x46, x47, x48, x49, x50, x51, rfl, J⟩ hi
    have hrs := ready_spec hi
    have hi12 : i < 12 := hrs.1
    have hoff := off1 hrs.2.1
    have hix : i = 0 ∨ i = 1 ∨ i = 2 ∨ i = 3 ∨ i = 4 ∨ i = 5 ∨ i = 6 ∨ i = 7 ∨ i = 8 ∨ i = 9 ∨ i = 10 ∨ i = 11 := by omega
    clear hi hi12
    rcases hix with rfl | rfl | rfl | rfl | rfl | rfl | rfl | rfl | rfl | rfl | rfl | rfl
    · refine wpOp_step rfl (fun K hK => ?_)
      unfold fr3
      go_simp
      refine hK _ _ ?_
      exact ⟨_, _, _, _, _, _, _, _, _, _, rfl, ⟨J.bel, fun _ => rfl, fun h => J.r1 (gl h (by decide)), fun h => J.r2 (gl h (by decide)), fun h => (J.r3 (gl h (by decide))).step (Below.refl _ _) (fun h => .inl ⟨gl h (by decide), rfl⟩) (fun h => .inl ⟨gl h (by decide), rfl⟩), fun h => J.r4 (gl h (by decide)), fun h => J.r5 (gl h (by decide)), fun h => J.r6 (gl h (by decide)), fun h => (J.r7 (gl h (by decide))).step (Below.refl _ _) (fun h => .inl ⟨gl h (by decide), rfl⟩) (fun h => .inl ⟨gl h (by decide), rfl⟩), fun h => (J.r8 (gl h (by decide))).keep (Below.refl _ _) (fun h => gl h (by decide)), fun h => (J.r9 (gl h (by decide))).keep (Below.refl _ _) (fun h => gl h (by decide)), fun h => ⟨up (J.r10 (gl h (by decide))).1, up (J.r10 (gl h (by decide))).2⟩, fun h => ⟨up (J.r11 (gl h (by decide))).1, up (J.r11 (gl h (by decide))).2⟩, fun h1 h2 => J.d8_9 (gl h1 (by decide)) (gl h2 (by decide))⟩⟩
    · refine wpOp_step rfl (fun K hK => ?_)
      unfold fr3
      go_simp
      refine hK _ _ ?_
      exact ⟨_, _, _, _, _, _, _, _, _, _, rfl, ⟨J.bel, fun h => J.r0 (gl h (by decide)), fun _ => rfl, fun h => J.r2 (gl h (by decide)), fun h => (J.r3 (gl h (by decide))).step (Below.refl _ _) (fun h => .inl ⟨gl h (by decide), rfl⟩) (fun h => .inl ⟨gl h (by decide), rfl⟩), fun h => J.r4 (gl h (by decide)), fun h => J.r5 (gl h (by decide)), fun h => J.r6 (gl h (by decide)), fun h => (J.r7 (gl h (by decide))).step (Below.refl _ _) (fun h => .inl ⟨gl h (by decide), rfl⟩) (fun h => .inl ⟨gl h (by decide), rfl⟩), fun h => (J.r8 (gl h (by decide))).keep (Below.refl _ _) (fun h => gl h (by decide)), fun h => (J.r9 (gl h (by decide))).keep (Below.refl _ _) (fun h => gl h (by decide)), fun h => ⟨up (J.r10 (gl h (by decide))).1, up (J.r10 (gl h (by decide))).2⟩, fun h => ⟨up (J.r11 (gl h (by decide))).1, up (J.r11 (gl h (by decide))).2⟩, fun h1 h2 => J.d8_9 (gl h1 (by decide)) (gl h2 (by decide))⟩⟩
    · have e0 := J.r0 (dep_of (hrs.2.2 _ rfl) 0 rfl rfl)
      subst e0
      have e1 := J.r1 (dep_of (hrs.2.2 _ rfl) 1 rfl rfl)
      subst e1
      refine wpOp_step rfl (fun K hK => ?_)
      unfold fr3
      go_simp
      refine hK _ _ ?_
      exact ⟨_, _, _, _, _, _, _, _, _, _, rfl, ⟨J.bel, fun h => J.r0 (gl h (by decide)), fun h => J.r1 (gl h (by decide)), fun _ => rfl, fun h => (J.r3 (gl h (by decide))).step (Below.refl _ _) (fun h => .inl ⟨gl h (by decide), rfl⟩) (fun h => .inl ⟨gl h (by decide), rfl⟩), fun h => J.r4 (gl h (by decide)), fun h => J.r5 (gl h (by decide)), fun h => J.r6 (gl h (by decide)), fun h => (J.r7 (gl h (by decide))).step (Below.refl _ _) (fun h => .inl ⟨gl h (by decide), rfl⟩) (fun h => .inl ⟨gl h (by decide), rfl⟩), fun h => (J.r8 (gl h (by decide))).keep (Below.refl _ _) (fun h => gl h (by decide)), fun h => (J.r9 (gl h (by decide))).keep (Below.refl _ _) (fun h => gl h (by decide)), fun h => ⟨up (J.r10 (gl h (by decide))).1, up (J.r10 (gl h (by decide))).2⟩, fun h => ⟨up (J.r11 (gl h (by decide))).1, up (J.r11 (gl h (by decide))).2⟩, fun h1 h2 => J.d8_9 (gl h1 (by decide)) (gl h2 (by decide))⟩⟩
    · have e2 := J.r2 (dep_of (hrs.2.2 _ rfl) 0 rfl rfl)
      subst e2
      refine wpOp_step rfl (fun K hK => ?_)
      unfold fr3
      go_simp
      refine (col_any xs n XN.out XR.out w ga ca (fun i s h => (J.bel.cell (p := ⟨ga, i, none⟩) XG.out).trans (XC.out i s h)) (Nat.lt_of_lt_of_le XG.out J.bel.size) (by omega)).mono ?_
      rintro e w' ⟨v, rfl, ht, hb⟩
      dsimp only
      refine hK _ _ ?_
      exact ⟨_, _, _, _, _, _, _, _, _, _, rfl, ⟨J.bel.trans (hb.mono J.bel.size), fun h => J.r0 (gl h (by decide)), fun h => J.r1 (gl h (by decide)), fun h => J.r2 (gl h (by decide)), fun _ => Col.of ht (fun h g e => Bk.lt (J.r8 (gl h (by decide))) g e) (fun h g e => Bk.lt (J.r9 (gl h (by decide))) g e), fun h => J.r4 (gl h (by decide)), fun h => J.r5 (gl h (by decide)), fun h => J.r6 (gl h (by decide)), fun h => (J.r7 (gl h (by decide))).step hb (fun h => .inl ⟨gl h (by decide), rfl⟩) (fun h => .inl ⟨gl h (by decide), rfl⟩), fun h => by obtain ⟨g, old, h1, h2, h3, h4, h5, h6⟩ := (J.r8 (gl h (by decide))).keep (st' := False) hb False.elim; exact ⟨g, old, h1, h2, h3, h4, h5, fun hs => absurd (J.r10 (gl hs (by decide))).1 hoff⟩, fun h => (J.r9 (gl h (by decide))).keep hb (fun h => gl h (by decide)), fun h => ⟨up (J.r10 (gl h (by decide))).1, up (J.r10 (gl h (by decide))).2⟩, fun h => ⟨up (J.r11 (gl h (by decide))).1, up (J.r11 (gl h (by decide))).2⟩, fun h1 h2 => J.d8_9 (gl h1 (by decide)) (gl h2 (by decide))⟩⟩
    · refine wpOp_step rfl (fun K hK => ?_)
      unfold fr3
      go_simp
      refine hK _ _ ?_
      exact ⟨_, _, _, _, _, _, _, _, _, _, rfl, ⟨J.bel, fun h => J.r0 (gl h (by decide)), fun h => J.r1 (gl h (by decide)), fun h => J.r2 (gl h (by decide)), fun h => (J.r3 (gl h (by decide))).step (Below.refl _ _) (fun h => .inl ⟨gl h (by decide), rfl⟩) (fun h => .inl ⟨gl h (by decide), rfl⟩), fun _ => rfl, fun h => J.r5 (gl h (by decide)), fun h => J.r6 (gl h (by decide)), fun h => (J.r7 (gl h (by decide))).step (Below.refl _ _) (fun h => .inl ⟨gl h (by decide), rfl⟩) (fun h => .inl ⟨gl h (by decide), rfl⟩), fun h => (J.r8 (gl h (by decide))).keep (Below.refl _ _) (fun h => gl h (by decide)), fun h => (J.r9 (gl h (by decide))).keep (Below.refl _ _) (fun h => gl h (by decide)), fun h => ⟨up (J.r10 (gl h (by decide))).1, up (J.r10 (gl h (by decide))).2⟩, fun h => ⟨up (J.r11 (gl h (by decide))).1, up (J.r11 (gl h (by decide))).2⟩, fun h1 h2 => J.d8_9 (gl h1 (by decide)) (gl h2 (by decide))⟩⟩
    · refine wpOp_step rfl (fun K hK => ?_)
      unfold fr3
      go_simp
      refine hK _ _ ?_
      exact ⟨_, _, _, _, _, _, _, _, _, _, rfl, ⟨J.bel, fun h => J.r0 (gl h (by decide)), fun h => J.r1 (gl h (by decide)), fun h => J.r2 (gl h (by decide)), fun h => (J.r3 (gl h (by decide))).step (Below.refl _ _) (fun h => .inl ⟨gl h (by decide), rfl⟩) (fun h => .inl ⟨gl h (by decide), rfl⟩), fun h => J.r4 (gl h (by decide)), fun _ => rfl, fun h => J.r6 (gl h (by decide)), fun h => (J.r7 (gl h (by decide))).step (Below.refl _ _) (fun h => .inl ⟨gl h (by decide), rfl⟩) (fun h => .inl ⟨gl h (by decide), rfl⟩), fun h => (J.r8 (gl h (by decide))).keep (Below.refl _ _) (fun h => gl h (by decide)), fun h => (J.r9 (gl h (by decide))).keep (Below.refl _ _) (fun h => gl h (by decide)), fun h => ⟨up (J.r10 (gl h (by decide))).1, up (J.r10 (gl h (by decide))).2⟩, fun h => ⟨up (J.r11 (gl h (by decide))).1, up (J.r11 (gl h (by decide))).2⟩, fun h1 h2 => J.d8_9 (gl h1 (by decide)) (gl h2 (by decide))⟩⟩
    · have e4 := J.r4 (dep_of (hrs.2.2 _ rfl) 0 rfl rfl)
      subst e4
      have e5 := J.r5 (dep_of (hrs.2.2 _ rfl) 1 rfl rfl)
      subst e5
      refine wpOp_step rfl (fun K hK => ?_)
      unfold fr3
      go_simp
      refine hK _ _ ?_
      exact ⟨_, _, _, _, _, _, _, _, _, _, rfl, ⟨J.bel, fun h => J.r0 (gl h (by decide)), fun h => J.r1 (gl h (by decide)), fun h => J.r2 (gl h (by decide)), fun h => (J.r3 (gl h (by decide))).step (Below.refl _ _) (fun h => .inl ⟨gl h (by decide), rfl⟩) (fun h => .inl ⟨gl h (by decide), rfl⟩), fun h => J.r4 (gl h (by decide)), fun h => J.r5 (gl h (by decide)), fun _ => rfl, fun h => (J.r7 (gl h (by decide))).step (Below.refl _ _) (fun h => .inl ⟨gl h (by decide), rfl⟩) (fun h => .inl ⟨gl h (by decide), rfl⟩), fun h => (J.r8 (gl h (by decide))).keep (Below.refl _ _) (fun h => gl h (by decide)), fun h => (J.r9 (gl h (by decide))).keep (Below.refl _ _) (fun h => gl h (by decide)), fun h => ⟨up (J.r10 (gl h (by decide))).1, up (J.r10 (gl h (by decide))).2⟩, fun h => ⟨up (J.r11 (gl h (by decide))).1, up (J.r11 (gl h (by decide))).2⟩, fun h1 h2 => J.d8_9 (gl h1 (by decide)) (gl h2 (by decide))⟩⟩
    · have e6 := J.r6 (dep_of (hrs.2.2 _ rfl) 0 rfl rfl)
      subst e6
      refine wpOp_step rfl (fun K hK => ?_)
      unfold fr3
      go_simp
      refine (col_any ys n YN.out YR.out w gb cb (fun i s h => (J.bel.cell (p := ⟨gb, i, none⟩) YG.out).trans (YC.out i s h)) (Nat.lt_of_lt_of_le YG.out J.bel.size) (by omega)).mono ?_
      rintro e w' ⟨v, rfl, ht, hb⟩
      dsimp only
      refine hK _ _ ?_
      exact ⟨_, _, _, _, _, _, _, _, _, _, rfl, ⟨J.bel.trans (hb.mono J.bel.size), fun h => J.r0 (gl h (by decide)), fun h => J.r1 (gl h (by decide)), fun h => J.r2 (gl h (by decide)), fun h => (J.r3 (gl h (by decide))).step hb (fun h => .inl ⟨gl h (by decide), rfl⟩) (fun h => .inl ⟨gl h (by decide), rfl⟩), fun h => J.r4 (gl h (by decide)), fun h => J.r5 (gl h (by decide)), fun h => J.r6 (gl h (by decide)), fun _ => Col.of ht (fun h g e => Bk.lt (J.r8 (gl h (by decide))) g e) (fun h g e => Bk.lt (J.r9 (gl h (by decide))) g e), fun h => (J.r8 (gl h (by decide))).keep hb (fun h => gl h (by decide)), fun h => by obtain ⟨g, old, h1, h2, h3, h4, h5, h6⟩ := (J.r9 (gl h (by decide))).keep (st' := False) hb False.elim; exact ⟨g, old, h1, h2, h3, h4, h5, fun hs => absurd (J.r11 (gl hs (by decide))).1 hoff⟩, fun h => ⟨up (J.r10 (gl h (by decide))).1, up (J.r10 (gl h (by decide))).2⟩, fun h => ⟨up (J.r11 (gl h (by decide))).1, up (J.r11 (gl h (by decide))).2⟩, fun h1 h2 => J.d8_9 (gl h1 (by decide)) (gl h2 (by decide))⟩⟩
    · refine wpOp_step rfl (fun K hK => ?_)
      unfold fr3
      go_simp
      refine hK _ _ ?_
      exact ⟨_, _, _, _, _, _, _, _, _, _, rfl, ⟨J.bel.alloc J.bel.size _, fun h => J.r0 (gl h (by decide)), fun h => J.r1 (gl h (by decide)), fun h => J.r2 (gl h (by decide)), fun h => (J.r3 (gl h (by decide))).step ((Below.refl _ _).alloc (Nat.le_refl _) _) (fun _ => .inr ⟨_, rfl, Nat.le_refl _⟩) (fun h => .inl ⟨gl h (by decide), rfl⟩), fun h => J.r4 (gl h (by decide)), fun h => J.r5 (gl h (by decide)), fun h => J.r6 (gl h (by decide)), fun h => (J.r7 (gl h (by decide))).step ((Below.refl _ _).alloc (Nat.le_refl _) _) (fun _ => .inr ⟨_, rfl, Nat.le_refl _⟩) (fun h => .inl ⟨gl h (by decide), rfl⟩), fun _ => ⟨w.heap.size, [.int .i64 0, .int .i64 0, .int .i64 0, .string ⟨#[]⟩, .slice none 0 0], rfl, J.bel.size, by simp, rfl, Blk.new w 27 [.int .i64 0, .int .i64 0, .int .i64 0, .string ⟨#[]⟩, .slice none 0 0], fun hs => absurd (J.r10 (gl hs (by decide))).2 hoff⟩, fun h => (J.r9 (gl h (by decide))).keep ((Below.refl _ _).alloc (Nat.le_refl _) _) (fun h => gl h (by decide)), fun h => ⟨up (J.r10 (gl h (by decide))).1, up (J.r10 (gl h (by decide))).2⟩, fun h => ⟨up (J.r11 (gl h (by decide))).1, up (J.r11 (gl h (by decide))).2⟩, fun _ h2 e => ((J.r9 (gl h2 (by decide))).ne (Nat.le_refl _)) e.symm⟩⟩
    · refine wpOp_step rfl (fun K hK => ?_)
      unfold fr3
      go_simp
      refine hK _ _ ?_
      exact ⟨_, _, _, _, _, _, _, _, _, _, rfl, ⟨J.bel.alloc J.bel.size _, fun h => J.r0 (gl h (by decide)), fun h => J.r1 (gl h (by decide)), fun h => J.r2 (gl h (by decide)), fun h => (J.r3 (gl h (by decide))).step ((Below.refl _ _).alloc (Nat.le_refl _) _) (fun h => .inl ⟨gl h (by decide), rfl⟩) (fun _ => .inr ⟨_, rfl, Nat.le_refl _⟩), fun h => J.r4 (gl h (by decide)), fun h => J.r5 (gl h (by decide)), fun h => J.r6 (gl h (by decide)), fun h => (J.r7 (gl h (by decide))).step ((Below.refl _ _).alloc (Nat.le_refl _) _) (fun h => .inl ⟨gl h (by decide), rfl⟩) (fun _ => .inr ⟨_, rfl, Nat.le_refl _⟩), fun h => (J.r8 (gl h (by decide))).keep ((Below.refl _ _).alloc (Nat.le_refl _) _) (fun h => gl h (by decide)), fun _ => ⟨w.heap.size, [.int .i64 0, .int .i64 0, .int .i64 0, .string ⟨#[]⟩, .slice none 0 0], rfl, J.bel.size, by simp, rfl, Blk.new w 27 [.int .i64 0, .int .i64 0, .int .i64 0, .string ⟨#[]⟩, .slice none 0 0], fun hs => absurd (J.r11 (gl hs (by decide))).2 hoff⟩, fun h => ⟨up (J.r10 (gl h (by decide))).1, up (J.r10 (gl h (by decide))).2⟩, fun h => ⟨up (J.r11 (gl h (by decide))).1, up (J.r11 (gl h (by decide))).2⟩, fun h1 _ => (J.r8 (gl h1 (by decide))).ne (Nat.le_refl _)⟩⟩
    · have hC : On1 l 3 := dep_of (hrs.2.2 _ rfl) 1 rfl rfl
      have hA : On1 l 8 := dep_of (hrs.2.2 _ rfl) 0 rfl rfl
      obtain ⟨v, ev, hone⟩ := (J.r3 hC).row
      subst ev
      obtain ⟨g, old, rfl, hg, hg2, hol, hbk, _⟩ := J.r8 hA
      refine wpOp_step rfl (fun K hK => ?_)
      refine step_row (by rfl) 27 (.tmp 6) (.tmp 47) (by rfl) g 27 old (vRow v) (by rfl) (by rfl) hbk sz27 hol hone w0.heap.size hg ?_
      intro w' hr' hb' hk'
      refine hK _ _ ?_
      exact ⟨_, _, _, _, _, _, _, _, _, _, rfl, ⟨J.bel.trans hb', fun h => J.r0 (gl h (by decide)), fun h => J.r1 (gl h (by decide)), fun h => J.r2 (gl h (by decide)), fun h => (J.r3 (gl h (by decide))).far1 hA hk' (fun h => gl h (by decide)) (fun h => gl h (by decide)), fun h => J.r4 (gl h (by decide)), fun h => J.r5 (gl h (by decide)), fun h => J.r6 (gl h (by decide)), fun h => (J.r7 (gl h (by decide))).far1 hA hk' (fun h => gl h (by decide)) (fun h => gl h (by decide)), fun _ => ⟨g, _, rfl, hg, hr'.lt, rfl, hr', fun _ => rfl⟩, fun h => (J.r9 (gl h (by decide))).far hk' (fun e => J.d8_9 hA (gl h (by decide)) e.symm) (fun h => gl h (by decide)), fun _ => ⟨up hC, up hA⟩, fun h => ⟨up (J.r11 (gl h (by decide))).1, up (J.r11 (gl h (by decide))).2⟩, fun h1 h2 => J.d8_9 (gl h1 (by decide)) (gl h2 (by decide))⟩⟩
    · have hC : On1 l 7 := dep_of (hrs.2.2 _ rfl) 1 rfl rfl
      have hA : On1 l 9 := dep_of (hrs.2.2 _ rfl) 0 rfl rfl
      obtain ⟨v, ev, hone⟩ := (J.r7 hC).row
      subst ev
      obtain ⟨g, old, rfl, hg, hg2, hol, hbk, _⟩ := J.r9 hA
      refine wpOp_step rfl (fun K hK => ?_)
      refine step_row (by rfl) 27 (.tmp 7) (.tmp 51) (by rfl) g 27 old (vRow v) (by rfl) (by rfl) hbk sz27 hol hone w0.heap.size hg ?_
      intro w' hr' hb' hk'
      refine hK _ _ ?_
      exact ⟨_, _, _, _, _, _, _, _, _, _, rfl, ⟨J.bel.trans hb', fun h => J.r0 (gl h (by decide)), fun h => J.r1 (gl h (by decide)), fun h => J.r2 (gl h (by decide)), fun h => (J.r3 (gl h (by decide))).far2 hA hk' (fun h => gl h (by decide)) (fun h => gl h (by decide)), fun h => J.r4 (gl h (by decide)), fun h => J.r5 (gl h (by decide)), fun h => J.r6 (gl h (by decide)), fun h => (J.r7 (gl h (by decide))).far2 hA hk' (fun h => gl h (by decide)) (fun h => gl h (by decide)), fun h => (J.r8 (gl h (by decide))).far hk' (J.d8_9 (gl h (by decide)) hA) (fun h => gl h (by decide)), fun _ => ⟨g, _, rfl, hg, hr'.lt, rfl, hr', fun _ => rfl⟩, fun h => ⟨up (J.r10 (gl h (by decide))).1, up (J.r10 (gl h (by decide))).2⟩, fun _ => ⟨up hC, up hA⟩, fun h1 h2 => J.d8_9 (gl h1 (by decide)) (gl h2 (by decide))⟩⟩
  · rintro l a w hl ⟨x6, x7, x44, x45, x46, x47, x48, x49, x50, x51, rfl, J⟩ hd
    have h0 : On1 l 0 := on_alln hl (by omega) (not_ready hd (i := 0) rfl (by decide) (by simp [Region.binds]))
    have q0 : l[0]?.getD false = true := by have := h0; unfold On1 at this; rwa [Array.getD_eq_getD_getElem?] at this
    have h1 : On1 l 1 := on_alln hl (by omega) (not_ready hd (i := 1) rfl (by decide) (by simp [Region.binds]))
    have q1 : l[1]?.getD false = true := by have := h1; unfold On1 at this; rwa [Array.getD_eq_getD_getElem?] at this
    have h2 : On1 l 2 := on_alln hl (by omega) (not_ready hd (i := 2) rfl (by decide) (by simp [Region.binds, q0, q1]))
    have q2 : l[2]?.getD false = true := by have := h2; unfold On1 at this; rwa [Array.getD_eq_getD_getElem?] at this
    have h3 : On1 l 3 := on_alln hl (by omega) (not_ready hd (i := 3) rfl (by decide) (by simp [Region.binds, q2]))
    have q3 : l[3]?.getD false = true := by have := h3; unfold On1 at this; rwa [Array.getD_eq_getD_getElem?] at this
    have h4 : On1 l 4 := on_alln hl (by omega) (not_ready hd (i := 4) rfl (by decide) (by simp [Region.binds]))
    have q4 : l[4]?.getD false = true := by have := h4; unfold On1 at this; rwa [Array.getD_eq_getD_getElem?] at this
    have h5 : On1 l 5 := on_alln hl (by omega) (not_ready hd (i := 5) rfl (by decide) (by simp [Region.binds]))
    have q5 : l[5]?.getD false = true := by have := h5; unfold On1 at this; rwa [Array.getD_eq_getD_getElem?] at this
    have h6 : On1 l 6 := on_alln hl (by omega) (not_ready hd (i := 6) rfl (by decide) (by simp [Region.binds, q4, q5]))
    have q6 : l[6]?.getD false = true := by have := h6; unfold On1 at this; rwa [Array.getD_eq_getD_getElem?] at this
    have h7 : On1 l 7 := on_alln hl (by omega) (not_ready hd (i := 7) rfl (by decide) (by simp [Region.binds, q3, q6]))
    have q7 : l[7]?.getD false = true := by have := h7; unfold On1 at this; rwa [Array.getD_eq_getD_getElem?] at this
    have h8 : On1 l 8 := on_alln hl (by omega) (not_ready hd (i := 8) rfl (by decide) (by simp [Region.binds]))
    have q8 : l[8]?.getD false = true := by have := h8; unfold On1 at this; rwa [Array.getD_eq_getD_getElem?] at this
    have h9 : On1 l 9 := on_alln hl (by omega) (not_ready hd (i := 9) rfl (by decide) (by simp [Region.binds]))
    have q9 : l[9]?.getD false = true := by have := h9; unfold On1 at this; rwa [Array.getD_eq_getD_getElem?] at this
    have h10 : On1 l 10 := on_alln hl (by omega) (not_ready hd (i := 10) rfl (by decide) (by simp [Region.binds, q0, q1, q2, q3, q7, q8, q9]))
    have q10 : l[10]?.getD false = true := by have := h10; unfold On1 at this; rwa [Array.getD_eq_getD_getElem?] at this
    have h11 : On1 l 11 := on_alln hl (by omega) (not_ready hd (i := 11) rfl (by decide) (by simp [Region.binds, q0, q1, q2, q3, q4, q5, q6, q7, q8, q9, q10]))
    have q11 : l[11]?.getD false = true := by have := h11; unfold On1 at this; rwa [Array.getD_eq_getD_getElem?] at this
    have e0 := J.r0 h0
    have e1 := J.r1 h1
    have e2 := J.r2 h2
    have e4 := J.r4 h4
    have e5 := J.r5 h5
    have e6 := J.r6 h6
    obtain ⟨v47, f47, t47⟩ := (J.r3 h3).tab
    obtain ⟨v51, f51, t51⟩ := (J.r7 h7).tab
    obtain ⟨g6, f6, z6, b6⟩ := Bk.fin (l := vRow v47) ((J.r8 h8).keep (Below.refl _ _) (fun _ => h10)) f47
    obtain ⟨g7, f7, z7, b7⟩ := Bk.fin (l := vRow v51) ((J.r9 h9).keep (Below.refl _ _) (fun _ => h11)) f51
    have hbel := J.bel
    clear J
    subst e0 e1 e2 e4 e5 e6 f47 f51 f6 f7
    exact ⟨rfl, g6, g7, v47, v51, rfl, z6, z7, t47, t51, hbel⟩
  · refine ⟨undef, undef, undef, undef, undef, undef, undef, undef, undef, undef, rfl, ⟨⟨rfl, rfl, rfl, Nat.le_refl _, fun _ _ => rfl⟩, fun h => absurd h (by decide), fun h => absurd h (by decide), fun h => absurd h (by decide), fun h => absurd h (by decide), fun h => absurd h (by decide), fun h => absurd h (by decide), fun h => absurd h (by decide), fun h => absurd h (by decide), fun h => absurd h (by decide), fun h => absurd h (by decide), fun h => absurd h (by decide), fun h => absurd h (by decide), fun h => absurd h (by decide)⟩⟩
end Go.Proofs.YtoebgbojpkflnaaGreatDoor
