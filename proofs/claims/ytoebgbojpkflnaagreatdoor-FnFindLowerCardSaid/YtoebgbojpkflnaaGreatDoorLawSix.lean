/- Law 6, FnFind. -/
import Derived.Test.YtoebgbojpkflnaaGreatDoorSrchDoor
import Derived.Test.YtoebgbojpkflnaaGreatDoorLow
import Derived.Test.YtoebgbojpkflnaaGreatDoorAlive
import Derived.Deep.RegionWith
import Derived.Deep.RegionHeld3
namespace Go.Proofs.YtoebgbojpkflnaaGreatDoor
open Go Go.RowKit

set_option maxRecDepth 20000 in
set_option maxHeartbeats 1000000 in
theorem findArgs_any (sub s : ByteArray) (n : Int) (h1 : -99999999999 ≤ n) (h2 : n ≤ 99999999999) (w : World) :
    Calls Tryz.prog 40 #[.string sub, .string s, .int .i64 n] w fun e w' => ∃ v, e = .returned v ∧ Arr w.heap.size w' 37 4 v [Atom.cells (.text sub), Atom.cells (.text s), Atom.cells (.num (fx n 0))] ∧ Below w.heap.size w w' := by
  obtain ⟨b, hbb⟩ : ∃ b, b = fx n 0 := ⟨_, rfl⟩
  have HBB : Hid (b = fx n 0) := hbb
  rw [← hbb]
  clear hbb
  go_enter Tryz.func40, Tryz.ntmps40
  go_wp2_with fail
  refine (textArgs_any [sub, s] _ w.heap.size 2 (fun k x hk => (Blk.new w 9 [.string sub, .string s]).get k (by match k with | 0 => simpa using hk | 1 => simpa using hk | j + 2 => simp at hk)) (by simp) (by simp)).mono ?_
  rintro e w1 ⟨va, rfl, ha, hb1⟩
  have HA1 : Hid (Arr w.heap.size w1 37 4 va [Atom.cells (.text sub), Atom.cells (.text s)]) := ha.base (by simp)
  have HB1 : Hid (Below w.heap.size w w1) := ((Below.refl _ _).alloc (Nat.le_refl _) _).trans (hb1.mono (by simp))
  clear ha hb1
  go_wp2_with (go_at_call 24; go_in)
  refine (of_int' n b _ h1 h2 HBB.out).mono ?_
  rintro e w2 ⟨rfl, hb2⟩
  have HA2 : Hid (Arr w.heap.size w2 37 4 va [Atom.cells (.text sub), Atom.cells (.text s)]) := (HA1.out.keep (by go_grown)).keep hb2
  have HB2 : Hid (Below w.heap.size w w2) := (HB1.out.trans (Below.mono (by go_grown) HB1.out.size)).trans (hb2.mono (by have := HB1.out.size; simp; omega))
  clear hb2 HA1
  go_wp2_with (at_builtin; refine append_one rfl _ _ 29 rfl w.heap.size 37 _ 4 56 Tryz.underlying29 info37 rfl (by decide) (by decide) _ _ rfl (HA2.out.alloc _) ⟨w2.heap.size, 0, none⟩ 1 [.int .i64 1, .float .f64 b, .string ⟨#[]⟩, .slice none 0 0] rfl rfl (news_cells _ _ _ _ rfl) (quad_one _ _ _ _ _ _) (by simp) (le_alloc1 HB2.out.size _) ?_; intro v' w3 harr3 hb3)
  go_ret
  exact ⟨_, rfl, by simpa [Atom.cells] using harr3, (HB2.out.alloc HB2.out.size _).trans hb3⟩

/-- What the law wants: a place, or the error. -/
def wantSp (s : ByteArray) (k : Nat) : Sp := if k < s.size then .int (k + 1) else .err valueStr
theorem want_atom (s : ByteArray) (k : Nat) : (foundRes s k).atom = (wantSp s k).atom := by
  unfold wantSp foundRes
  split <;> rfl
theorem specInt_any (n : Int) (h1 : -99999999999 ≤ n) (h2 : n ≤ 99999999999) (w : World) :
    Calls Tryz.prog 24 #[.int .i64 n] w fun e w' => e = .returned (.agg #[.int .i64 1, .int .i64 n, .int .i64 1, .string ⟨#[]⟩, .slice none 0 0]) ∧ Below w.heap.size w w' := by
  go_enter Tryz.func24, Tryz.ntmps24
  go_wp2
  go_returns
  exact ⟨rfl, by go_grown⟩
theorem same_true' (x : Sp) (cs : List Value) (hx : x.cells = cs) (ho : x.Ok) (w : World) : Calls Tryz.prog 22 #[x.atom.val, .agg cs.toArray] w fun e w' => e = .returned (.bool true) ∧ Below w.heap.size w w' := by
  subst hx; exact same_true x w ho
theorem size27 : (Tryz.prog.info? 27).map (fun i => i.size) = some 5 := by kernel_rfl
theorem first_ex (s sub : ByteArray) (a : Nat) : ∃ k, First s sub a k := by
  have h : ∀ n k, s.size - k = n → k ≤ s.size → (∀ j, a ≤ j → j < k → occ s sub j = false) → ∃ k, First s sub a k := by
    intro n
    induction n with
    | zero =>
      intro k h1 h2 h3
      exact ⟨k, h2, h3, fun h => by omega⟩
    | succ n ih =>
      intro k h1 h2 h3
      by_cases ho : a ≤ k ∧ occ s sub k = true
      · exact ⟨k, h2, h3, fun _ => ho⟩
      · refine ih (k + 1) (by omega) (by omega) fun j hj hjk => ?_
        by_cases hk : j = k
        · subst hk
          cases hq : occ s sub j with
          | false => rfl
          | true => exact absurd ⟨hj, hq⟩ ho
        · exact h3 j hj (by omega)
  exact h _ 0 rfl (Nat.zero_le _) fun j _ h => by omega
theorem find_law (sub s : ByteArray) (a k : Nat) (f1 : FPlain sub) (f2 : FPlain s) (hne : sub.toList.isEmpty = false) (ha : a < s.size) (hf : First s sub a k) (x : Sp) (hx : wantSp s k = x) (v : Value) (w : World) (hv : ArgsAt w 37 v [.text sub, .text s, .num (fx (a + 1) 0)]) :
    Calls Tryz.prog 39 #[v] w fun e w' => e = .returned x.atom.val ∧ Below w.heap.size w w' := by
  have hz := f2.2.2
  have hz1 := f1.2.2
  refine (find_impl _ _ v w hv (find_gives3 s sub a (by omega) (by omega) f2.2.1.ascii f1.nowild (by omega) hne)).mono ?_
  rintro e w' ⟨r, rfl, ⟨k', rfl, hf'⟩, hb⟩
  obtain rfl := first_one hf hf'
  exact ⟨by rw [want_atom, hx], hb⟩
theorem lowS_first {s : ByteArray} {k : Nat} : foundRes (lowS s) k = foundRes s k := by unfold foundRes; rw [lowS_size]
theorem search_law (sub s : ByteArray) (a k : Nat) (f1 : FPlain sub) (f2 : FPlain s) (hne : sub.toList.isEmpty = false) (ha : a < s.size) (hf : First (lowS s) (lowS sub) a k) (x : Sp) (hx : wantSp s k = x) (v : Value) (w : World) (hv : ArgsAt w 37 v [.text sub, .text s, .num (fx (a + 1) 0)]) :
    Calls Tryz.prog 41 #[v] w fun e w' => e = .returned x.atom.val ∧ Below w.heap.size w w' := by
  have hz := f2.2.2
  have hz1 := f1.2.2
  refine (search_impl _ _ v w hv (search_gives3 s sub a (by omega) (by omega) f2.2.1.ascii f1.2.1.ascii f1.nowild (by omega) hne)).mono ?_
  rintro e w' ⟨r, rfl, ⟨k', rfl, hf'⟩, hb⟩
  obtain rfl := first_one hf (first_case hf')
  exact ⟨by rw [want_atom, hx], hb⟩

theorem ok3 {sub s : ByteArray} {a : Nat} (h : a ≤ 1000) : ∀ x ∈ [Atom.text sub, .text s, .num (fx ((a : Int) + 1) 0)], x.Ok := by
  intro x hx
  simp at hx
  rcases hx with rfl | rfl | rfl
  · trivial
  · trivial
  · exact good_fx (by omega)

set_option maxRecDepth 20000 in
set_option maxHeartbeats 2000000 in
theorem law6_11 (sub s : ByteArray) (a k m : Nat) (w : World) (f1 : Hid (FPlain sub)) (f2 : Hid (FPlain s)) (hne : 0 < sub.size) (ha : a < s.size) (z1 : sub.size ≤ 200) (z2 : s.size ≤ 200)
    (hf : Hid (First s sub a k)) (hfm : Hid (First (lowS s) (lowS sub) a m)) (hk : k < s.size) (hm : m < s.size) :
    Calls Tryz.prog 6 #[.string sub, .string s, .int .i64 (a + 1)] w fun e w' => e = .returned (.bool true) ∧ Below w.heap.size w w' := by
  have hemp : sub.toList.isEmpty = false := by
    rw [toList_bytes]
    have hl : sub.data.toList.length = sub.size := (by simp)
    cases hq : sub.data.toList with
    | nil => rw [hq] at hl; simp at hl; omega
    | cons => rfl
  have e1 : IntKind.i64.wrap ((a : Int) + 1 - 1) = (a : Int) := by rw [IntWalk.i64_in _ (by omega)]; omega
  have y1 : atInt s k = (k : Int) := if_pos hk
  have y2 : atInt (lowS s) m = (m : Int) := if_pos (by rw [lowS_size]; exact hm)
  have HX1 : Hid (atInt s k = (k : Int)) := y1
  have HX2 : Hid (atInt (lowS s) m = (m : Int)) := y2
  have HE : Hid (sub.toList.isEmpty = false) := hemp
  obtain ⟨x1, hx1⟩ : ∃ x, x = Sp.int ((k : Int) + 1) := ⟨_, rfl⟩
  obtain ⟨x2, hx2⟩ : ∃ x, x = Sp.int ((m : Int) + 1) := ⟨_, rfl⟩
  have HW : Hid (wantSp s k = x1) := (by show wantSp s k = x1; rw [hx1]; exact if_pos hk)
  have HM : Hid (wantSp s m = x2) := (by show wantSp s m = x2; rw [hx2]; exact if_pos hm)
  have wk : IntKind.i64.wrap ((k : Int) + 1) = (k : Int) + 1 := IntWalk.i64_in _ (by omega)
  have wm : IntKind.i64.wrap ((m : Int) + 1) = (m : Int) + 1 := IntWalk.i64_in _ (by omega)
  have HKB : Hid (k ≤ 1000) := (show k ≤ 1000 by have := hf.out.1; omega)
  have HMB : Hid (m ≤ 1000) := (show m ≤ 1000 by have := hfm.out.1; rw [lowS_size] at this; omega)
  have HC1 : Hid (x1.cells = [.int .i64 1, .int .i64 ((k : Int) + 1), .int .i64 1, .string ⟨#[]⟩, .slice none 0 0]) := (by show x1.cells = _; rw [hx1]; rfl)
  have HC2 : Hid (x2.cells = [.int .i64 1, .int .i64 ((m : Int) + 1), .int .i64 1, .string ⟨#[]⟩, .slice none 0 0]) := (by show x2.cells = _; rw [hx2]; rfl)
  have HO1 : Hid x1.Ok := (by show x1.Ok; rw [hx1]; exact ⟨by omega, by have := HKB.out; omega⟩)
  have HO2 : Hid x2.Ok := (by show x2.Ok; rw [hx2]; exact ⟨by omega, by have := HMB.out; omega⟩)
  clear y1 y2 hk hm hx1 hx2
  go_enter Tryz.func6, Tryz.ntmps6
  go_wp2_with (first | (go_at_call_of 34 (sub); refine (plain_any sub (by omega) _).mono ?_; rintro e w1 ⟨⟨b, rfl, hbf⟩, rfl⟩; obtain rfl := hbf.2 f1.out; clear hbf) | (go_at_call_of 34 (s); refine (plain_any s (by omega) _).mono ?_; rintro e w1 ⟨⟨b, rfl, hbf⟩, rfl⟩; obtain rfl := hbf.2 f2.out; clear hbf))
  refine (specErr_any _ _).mono ?_
  rintro e wa ⟨rfl, hba⟩
  have HBA : Hid (Below w.heap.size w wa) := hba
  clear hba
  go_wp2_with fail
  refine (specErr_any _ _).mono ?_
  rintro e wb ⟨rfl, hbb⟩
  have HBB : Hid (Below w.heap.size w wb) := HBA.out.trans (hbb.mono HBA.out.size)
  clear hbb HBA
  go_wp2_with fail
  refine abs_calls (fun w' => Blk w' wb.heap.size 27 [.int .i64 4, .int .i64 0, .int .i64 0, .string ⟨#[35, 86, 65, 76, 85, 69, 33]⟩, .slice none 0 0] ∧ Blk w' (wb.heap.size + 1) 27 [.int .i64 4, .int .i64 0, .int .i64 0, .string ⟨#[35, 86, 65, 76, 85, 69, 33]⟩, .slice none 0 0] ∧ Below w.heap.size w w') ⟨(Blk.new wb 27 [.int .i64 4, .int .i64 0, .int .i64 0, .string ⟨#[35, 86, 65, 76, 85, 69, 33]⟩, .slice none 0 0]).alloc _, blk_at (by simp) (Blk.new _ 27 [.int .i64 4, .int .i64 0, .int .i64 0, .string ⟨#[35, 86, 65, 76, 85, 69, 33]⟩, .slice none 0 0]), (HBB.out.alloc HBB.out.size _).alloc (by have := HBB.out.size; simp; omega) _⟩ ?_
  rintro wc ⟨hk7, hk8, hbc⟩
  have hg0 : w.heap.size ≤ wb.heap.size := HBB.out.size
  clear HBB
  generalize wb.heap.size = g7 at *
  have HK7 : Hid (Blk wc g7 27 [.int .i64 4, .int .i64 0, .int .i64 0, .string ⟨#[35, 86, 65, 76, 85, 69, 33]⟩, .slice none 0 0]) := hk7
  have HK8 : Hid (Blk wc (g7 + 1) 27 [.int .i64 4, .int .i64 0, .int .i64 0, .string ⟨#[35, 86, 65, 76, 85, 69, 33]⟩, .slice none 0 0]) := hk8
  have HBC : Hid (Below w.heap.size w wc) := hbc
  have HG : Hid (w.heap.size ≤ g7 ∧ w.heap.size ≤ g7 + 1) := ⟨hg0, by omega⟩
  clear hk7 hk8 hbc hg0
  refine (findAt_any sub s a (by omega) (by omega) hne (by omega) _).mono ?_
  rintro e w1 ⟨⟨k', rfl, hf'⟩, rfl⟩
  obtain rfl := first_one hf.out hf'
  rw [HX1.out]
  clear hf'
  go_wp2_with fail
  refine (specInt_any _ (by omega) (by have := HKB.out; omega) _).mono ?_
  rintro e wd ⟨rfl, hbd⟩
  have HK7d : Hid (Blk wd g7 27 [.int .i64 4, .int .i64 0, .int .i64 0, .string ⟨#[35, 86, 65, 76, 85, 69, 33]⟩, .slice none 0 0]) := HK7.out.below hbd HK7.out.lt
  have HK8d : Hid (Blk wd (g7 + 1) 27 [.int .i64 4, .int .i64 0, .int .i64 0, .string ⟨#[35, 86, 65, 76, 85, 69, 33]⟩, .slice none 0 0]) := HK8.out.below hbd HK8.out.lt
  have HBD : Hid (Below w.heap.size w wd) := HBC.out.trans (hbd.mono HBC.out.size)
  clear hbd HK7 HK8 HBC
  go_wp2_with (refine store_row rfl 27 (.tmp 7) (.tmp 53) rfl g7 27 [.int .i64 4, .int .i64 0, .int .i64 0, .string ⟨#[35, 86, 65, 76, 85, 69, 33]⟩, .slice none 0 0] [.int .i64 1, .int .i64 ((k : Int) + 1), .int .i64 1, .string ⟨#[]⟩, .slice none 0 0] rfl rfl HK7d.out size27 rfl rfl w.heap.size HG.out.1 ?_; intro w6 hr6 hb6 hp6)
  have HK7' : Hid (Blk w6 g7 27 [.int .i64 1, .int .i64 ((k : Int) + 1), .int .i64 1, .string ⟨#[]⟩, .slice none 0 0]) := hr6
  have HK8' : Hid (Blk w6 (g7 + 1) 27 [.int .i64 4, .int .i64 0, .int .i64 0, .string ⟨#[35, 86, 65, 76, 85, 69, 33]⟩, .slice none 0 0]) := hp6.blk HK8d.out (by omega)
  have HB6 : Hid (Below w.heap.size w w6) := HBD.out.trans hb6
  clear hr6 hb6 hp6 HK7d HK8d HBD

  go_wp2_with fail
  refine (findLower_any sub (by omega) _).mono ?_
  rintro e w7 ⟨rfl, hb7⟩
  have HK7'' : Hid (Blk w7 g7 27 [.int .i64 1, .int .i64 ((k : Int) + 1), .int .i64 1, .string ⟨#[]⟩, .slice none 0 0]) := HK7'.out.below hb7 HK7'.out.lt
  have HK8'' : Hid (Blk w7 (g7 + 1) 27 [.int .i64 4, .int .i64 0, .int .i64 0, .string ⟨#[35, 86, 65, 76, 85, 69, 33]⟩, .slice none 0 0]) := HK8'.out.below hb7 HK8'.out.lt
  have HB7 : Hid (Below w.heap.size w w7) := HB6.out.trans (hb7.mono HB6.out.size)
  clear hb7 HK7' HK8' HB6
  go_wp2_with fail
  refine (findLower_any s (by omega) _).mono ?_
  rintro e w8 ⟨rfl, hb8⟩
  have HK7' : Hid (Blk w8 g7 27 [.int .i64 1, .int .i64 ((k : Int) + 1), .int .i64 1, .string ⟨#[]⟩, .slice none 0 0]) := HK7''.out.below hb8 HK7''.out.lt
  have HK8' : Hid (Blk w8 (g7 + 1) 27 [.int .i64 4, .int .i64 0, .int .i64 0, .string ⟨#[35, 86, 65, 76, 85, 69, 33]⟩, .slice none 0 0]) := HK8''.out.below hb8 HK8''.out.lt
  have HB8 : Hid (Below w.heap.size w w8) := HB7.out.trans (hb8.mono HB7.out.size)
  clear hb8 HK7'' HK8'' HB7
  go_wp2_with fail
  refine (findAt_any (lowS sub) (lowS s) a (by rw [lowS_size]; omega) (by rw [lowS_size]; omega) (by rw [lowS_size]; exact hne) (by rw [lowS_size]; omega) _).mono ?_
  rintro e w1 ⟨⟨m', rfl, hf'⟩, rfl⟩
  obtain rfl := first_one hfm.out hf'
  rw [HX2.out]
  clear hf'
  go_wp2_with fail
  refine (specInt_any _ (by omega) (by have := HMB.out; omega) _).mono ?_
  rintro e wd ⟨rfl, hbd⟩
  have HK7d : Hid (Blk wd g7 27 [.int .i64 1, .int .i64 ((k : Int) + 1), .int .i64 1, .string ⟨#[]⟩, .slice none 0 0]) := HK7'.out.below hbd HK7'.out.lt
  have HK8d : Hid (Blk wd (g7 + 1) 27 [.int .i64 4, .int .i64 0, .int .i64 0, .string ⟨#[35, 86, 65, 76, 85, 69, 33]⟩, .slice none 0 0]) := HK8'.out.below hbd HK8'.out.lt
  have HBD : Hid (Below w.heap.size w wd) := HB8.out.trans (hbd.mono HB8.out.size)
  clear hbd HK7' HK8' HB8
  go_wp2_with (refine store_row rfl 27 (.tmp 8) (.tmp 65) rfl (g7 + 1) 27 [.int .i64 4, .int .i64 0, .int .i64 0, .string ⟨#[35, 86, 65, 76, 85, 69, 33]⟩, .slice none 0 0] [.int .i64 1, .int .i64 ((m : Int) + 1), .int .i64 1, .string ⟨#[]⟩, .slice none 0 0] rfl rfl HK8d.out size27 rfl rfl w.heap.size HG.out.2 ?_; intro w9 hr9 hb9 hp9)
  have h8 : Blk w9 (g7 + 1) 27 [.int .i64 1, .int .i64 ((m : Int) + 1), .int .i64 1, .string ⟨#[]⟩, .slice none 0 0] := hr9
  have h7 : Blk w9 g7 27 [.int .i64 1, .int .i64 ((k : Int) + 1), .int .i64 1, .string ⟨#[]⟩, .slice none 0 0] := hp9.blk HK7d.out (by omega)
  have hb : Below w.heap.size w w9 := HBD.out.trans hb9
  clear hr9 hb9 hp9 HK7d HK8d HBD
  go_wp2_with fail
  go_region_held3 (fun w' => w'.cell? ⟨g7, 0, none⟩ = some (.int .i64 1) ∧ w'.cell? ⟨g7, 1, none⟩ = some (.int .i64 ((k : Int) + 1)) ∧ w'.cell? ⟨g7, 2, none⟩ = some (.int .i64 1) ∧ w'.cell? ⟨g7, 3, none⟩ = some (.string ⟨#[]⟩) ∧ w'.cell? ⟨g7, 4, none⟩ = some (.slice none 0 0) ∧ w'.cell? ⟨g7 + 1, 0, none⟩ = some (.int .i64 1) ∧ w'.cell? ⟨g7 + 1, 1, none⟩ = some (.int .i64 ((m : Int) + 1)) ∧ w'.cell? ⟨g7 + 1, 2, none⟩ = some (.int .i64 1) ∧ w'.cell? ⟨g7 + 1, 3, none⟩ = some (.string ⟨#[]⟩) ∧ w'.cell? ⟨g7 + 1, 4, none⟩ = some (.slice none 0 0)) (exact ⟨h7.get 0 rfl, h7.get 1 rfl, h7.get 2 rfl, h7.get 3 rfl, h7.get 4 rfl, h8.get 0 rfl, h8.get 1 rfl, h8.get 2 rfl, h8.get 3 rfl, h8.get 4 rfl⟩) (first
    | (go_at_call 40; refine (findArgs_any sub s ((a : Int) + 1) (by omega) (by omega) _).mono ?_; rintro e w2 ⟨v, rfl, harr, hb2⟩; have k7 : Blk w2 g7 27 [.int .i64 1, .int .i64 ((k : Int) + 1), .int .i64 1, .string ⟨#[]⟩, .slice none 0 0] := (hb2.block g7 h7.lt).trans h7; have k8 : Blk w2 (g7 + 1) 27 [.int .i64 1, .int .i64 ((m : Int) + 1), .int .i64 1, .string ⟨#[]⟩, .slice none 0 0] := (hb2.block (g7 + 1) h8.lt).trans h8; have kb : Below w.heap.size w w2 := (by first | exact hb.trans (hb2.mono hb.size) | exact (below_drewN' hb 1).trans (hb2.mono hb.size)); replace h7 := k7; replace h8 := k8; replace hb := kb; clear k7 k8 kb hb2; have hA : ArgsAt w2 37 v [.text sub, .text s, .num (fx ((a : Int) + 1) 0)] := ⟨harr.base (Nat.zero_le _), by simp, by simp, ok3 (by omega)⟩; clear harr)
    | (go_at_call 39; refine (find_law sub s a k f1.out f2.out HE.out ha hf.out _ HW.out _ _ hA).mono ?_; rintro e w2 ⟨rfl, hb2⟩; have k7 : Blk w2 g7 27 [.int .i64 1, .int .i64 ((k : Int) + 1), .int .i64 1, .string ⟨#[]⟩, .slice none 0 0] := (hb2.block g7 h7.lt).trans h7; have k8 : Blk w2 (g7 + 1) 27 [.int .i64 1, .int .i64 ((m : Int) + 1), .int .i64 1, .string ⟨#[]⟩, .slice none 0 0] := (hb2.block (g7 + 1) h8.lt).trans h8; have kb : Below w.heap.size w w2 := (by first | exact hb.trans (hb2.mono hb.size) | exact (below_drewN' hb 1).trans (hb2.mono hb.size)); replace h7 := k7; replace h8 := k8; replace hb := kb; clear k7 k8 kb hb2)
    | (go_at_call 41; refine (search_law sub s a m f1.out f2.out HE.out ha hfm.out _ HM.out _ _ hA).mono ?_; rintro e w2 ⟨rfl, hb2⟩; have k7 : Blk w2 g7 27 [.int .i64 1, .int .i64 ((k : Int) + 1), .int .i64 1, .string ⟨#[]⟩, .slice none 0 0] := (hb2.block g7 h7.lt).trans h7; have k8 : Blk w2 (g7 + 1) 27 [.int .i64 1, .int .i64 ((m : Int) + 1), .int .i64 1, .string ⟨#[]⟩, .slice none 0 0] := (hb2.block (g7 + 1) h8.lt).trans h8; have kb : Below w.heap.size w w2 := (by first | exact hb.trans (hb2.mono hb.size) | exact (below_drewN' hb 1).trans (hb2.mono hb.size)); replace h7 := k7; replace h8 := k8; replace hb := kb; clear k7 k8 kb hb2)
    | (go_at_call_of 22 (x1); refine (same_true' x1 _ HC1.out HO1.out _).mono ?_; rintro e w2 ⟨rfl, hb2⟩; have k7 : Blk w2 g7 27 [.int .i64 1, .int .i64 ((k : Int) + 1), .int .i64 1, .string ⟨#[]⟩, .slice none 0 0] := (hb2.block g7 h7.lt).trans h7; have k8 : Blk w2 (g7 + 1) 27 [.int .i64 1, .int .i64 ((m : Int) + 1), .int .i64 1, .string ⟨#[]⟩, .slice none 0 0] := (hb2.block (g7 + 1) h8.lt).trans h8; have kb : Below w.heap.size w w2 := (by first | exact hb.trans (hb2.mono hb.size) | exact (below_drewN' hb 1).trans (hb2.mono hb.size)); replace h7 := k7; replace h8 := k8; replace hb := kb; clear k7 k8 kb hb2)
    | (go_at_call_of 22 (x2); refine (same_true' x2 _ HC2.out HO2.out _).mono ?_; rintro e w2 ⟨rfl, hb2⟩; have k7 : Blk w2 g7 27 [.int .i64 1, .int .i64 ((k : Int) + 1), .int .i64 1, .string ⟨#[]⟩, .slice none 0 0] := (hb2.block g7 h7.lt).trans h7; have k8 : Blk w2 (g7 + 1) 27 [.int .i64 1, .int .i64 ((m : Int) + 1), .int .i64 1, .string ⟨#[]⟩, .slice none 0 0] := (hb2.block (g7 + 1) h8.lt).trans h8; have kb : Below w.heap.size w w2 := (by first | exact hb.trans (hb2.mono hb.size) | exact (below_drewN' hb 1).trans (hb2.mono hb.size)); replace h7 := k7; replace h8 := k8; replace hb := kb; clear k7 k8 kb hb2)
    | (go_at_call 35; refine (findLives_any _).mono ?_; rintro e w2 ⟨rfl, hb2⟩; have k7 : Blk w2 g7 27 [.int .i64 1, .int .i64 ((k : Int) + 1), .int .i64 1, .string ⟨#[]⟩, .slice none 0 0] := (hb2.block g7 h7.lt).trans h7; have k8 : Blk w2 (g7 + 1) 27 [.int .i64 1, .int .i64 ((m : Int) + 1), .int .i64 1, .string ⟨#[]⟩, .slice none 0 0] := (hb2.block (g7 + 1) h8.lt).trans h8; have kb : Below w.heap.size w w2 := (by first | exact hb.trans (hb2.mono hb.size) | exact (below_drewN' hb 1).trans (hb2.mono hb.size)); replace h7 := k7; replace h8 := k8; replace hb := kb; clear k7 k8 kb hb2))
  go_wp2
  go_ret
  exact ⟨rfl, hb⟩

set_option maxRecDepth 20000 in
set_option maxHeartbeats 2000000 in
theorem law6_10 (sub s : ByteArray) (a k m : Nat) (w : World) (f1 : Hid (FPlain sub)) (f2 : Hid (FPlain s)) (hne : 0 < sub.size) (ha : a < s.size) (z1 : sub.size ≤ 200) (z2 : s.size ≤ 200)
    (hf : Hid (First s sub a k)) (hfm : Hid (First (lowS s) (lowS sub) a m)) (hk : k < s.size) (hm : ¬ m < s.size) :
    Calls Tryz.prog 6 #[.string sub, .string s, .int .i64 (a + 1)] w fun e w' => e = .returned (.bool true) ∧ Below w.heap.size w w' := by
  have hemp : sub.toList.isEmpty = false := by
    rw [toList_bytes]
    have hl : sub.data.toList.length = sub.size := (by simp)
    cases hq : sub.data.toList with
    | nil => rw [hq] at hl; simp at hl; omega
    | cons => rfl
  have e1 : IntKind.i64.wrap ((a : Int) + 1 - 1) = (a : Int) := by rw [IntWalk.i64_in _ (by omega)]; omega
  have y1 : atInt s k = (k : Int) := if_pos hk
  have y2 : atInt (lowS s) m = -1 := if_neg (by rw [lowS_size]; exact hm)
  have HX1 : Hid (atInt s k = (k : Int)) := y1
  have HX2 : Hid (atInt (lowS s) m = -1) := y2
  have HE : Hid (sub.toList.isEmpty = false) := hemp
  obtain ⟨x1, hx1⟩ : ∃ x, x = Sp.int ((k : Int) + 1) := ⟨_, rfl⟩
  obtain ⟨x2, hx2⟩ : ∃ x, x = Sp.err valueStr := ⟨_, rfl⟩
  have HW : Hid (wantSp s k = x1) := (by show wantSp s k = x1; rw [hx1]; exact if_pos hk)
  have HM : Hid (wantSp s m = x2) := (by show wantSp s m = x2; rw [hx2]; exact if_neg hm)
  have wk : IntKind.i64.wrap ((k : Int) + 1) = (k : Int) + 1 := IntWalk.i64_in _ (by omega)
  
  have HKB : Hid (k ≤ 1000) := (show k ≤ 1000 by have := hf.out.1; omega)
  have HMB : Hid (m ≤ 1000) := (show m ≤ 1000 by have := hfm.out.1; rw [lowS_size] at this; omega)
  have HC1 : Hid (x1.cells = [.int .i64 1, .int .i64 ((k : Int) + 1), .int .i64 1, .string ⟨#[]⟩, .slice none 0 0]) := (by show x1.cells = _; rw [hx1]; rfl)
  have HC2 : Hid (x2.cells = [.int .i64 4, .int .i64 0, .int .i64 0, .string ⟨#[35, 86, 65, 76, 85, 69, 33]⟩, .slice none 0 0]) := (by show x2.cells = _; rw [hx2]; rfl)
  have HO1 : Hid x1.Ok := (by show x1.Ok; rw [hx1]; exact ⟨by omega, by have := HKB.out; omega⟩)
  have HO2 : Hid x2.Ok := (by show x2.Ok; rw [hx2]; exact trivial)
  clear y1 y2 hk hm hx1 hx2
  go_enter Tryz.func6, Tryz.ntmps6
  go_wp2_with (first | (go_at_call_of 34 (sub); refine (plain_any sub (by omega) _).mono ?_; rintro e w1 ⟨⟨b, rfl, hbf⟩, rfl⟩; obtain rfl := hbf.2 f1.out; clear hbf) | (go_at_call_of 34 (s); refine (plain_any s (by omega) _).mono ?_; rintro e w1 ⟨⟨b, rfl, hbf⟩, rfl⟩; obtain rfl := hbf.2 f2.out; clear hbf))
  refine (specErr_any _ _).mono ?_
  rintro e wa ⟨rfl, hba⟩
  have HBA : Hid (Below w.heap.size w wa) := hba
  clear hba
  go_wp2_with fail
  refine (specErr_any _ _).mono ?_
  rintro e wb ⟨rfl, hbb⟩
  have HBB : Hid (Below w.heap.size w wb) := HBA.out.trans (hbb.mono HBA.out.size)
  clear hbb HBA
  go_wp2_with fail
  refine abs_calls (fun w' => Blk w' wb.heap.size 27 [.int .i64 4, .int .i64 0, .int .i64 0, .string ⟨#[35, 86, 65, 76, 85, 69, 33]⟩, .slice none 0 0] ∧ Blk w' (wb.heap.size + 1) 27 [.int .i64 4, .int .i64 0, .int .i64 0, .string ⟨#[35, 86, 65, 76, 85, 69, 33]⟩, .slice none 0 0] ∧ Below w.heap.size w w') ⟨(Blk.new wb 27 [.int .i64 4, .int .i64 0, .int .i64 0, .string ⟨#[35, 86, 65, 76, 85, 69, 33]⟩, .slice none 0 0]).alloc _, blk_at (by simp) (Blk.new _ 27 [.int .i64 4, .int .i64 0, .int .i64 0, .string ⟨#[35, 86, 65, 76, 85, 69, 33]⟩, .slice none 0 0]), (HBB.out.alloc HBB.out.size _).alloc (by have := HBB.out.size; simp; omega) _⟩ ?_
  rintro wc ⟨hk7, hk8, hbc⟩
  have hg0 : w.heap.size ≤ wb.heap.size := HBB.out.size
  clear HBB
  generalize wb.heap.size = g7 at *
  have HK7 : Hid (Blk wc g7 27 [.int .i64 4, .int .i64 0, .int .i64 0, .string ⟨#[35, 86, 65, 76, 85, 69, 33]⟩, .slice none 0 0]) := hk7
  have HK8 : Hid (Blk wc (g7 + 1) 27 [.int .i64 4, .int .i64 0, .int .i64 0, .string ⟨#[35, 86, 65, 76, 85, 69, 33]⟩, .slice none 0 0]) := hk8
  have HBC : Hid (Below w.heap.size w wc) := hbc
  have HG : Hid (w.heap.size ≤ g7 ∧ w.heap.size ≤ g7 + 1) := ⟨hg0, by omega⟩
  clear hk7 hk8 hbc hg0
  refine (findAt_any sub s a (by omega) (by omega) hne (by omega) _).mono ?_
  rintro e w1 ⟨⟨k', rfl, hf'⟩, rfl⟩
  obtain rfl := first_one hf.out hf'
  rw [HX1.out]
  clear hf'
  go_wp2_with fail
  refine (specInt_any _ (by omega) (by have := HKB.out; omega) _).mono ?_
  rintro e wd ⟨rfl, hbd⟩
  have HK7d : Hid (Blk wd g7 27 [.int .i64 4, .int .i64 0, .int .i64 0, .string ⟨#[35, 86, 65, 76, 85, 69, 33]⟩, .slice none 0 0]) := HK7.out.below hbd HK7.out.lt
  have HK8d : Hid (Blk wd (g7 + 1) 27 [.int .i64 4, .int .i64 0, .int .i64 0, .string ⟨#[35, 86, 65, 76, 85, 69, 33]⟩, .slice none 0 0]) := HK8.out.below hbd HK8.out.lt
  have HBD : Hid (Below w.heap.size w wd) := HBC.out.trans (hbd.mono HBC.out.size)
  clear hbd HK7 HK8 HBC
  go_wp2_with (refine store_row rfl 27 (.tmp 7) (.tmp 53) rfl g7 27 [.int .i64 4, .int .i64 0, .int .i64 0, .string ⟨#[35, 86, 65, 76, 85, 69, 33]⟩, .slice none 0 0] [.int .i64 1, .int .i64 ((k : Int) + 1), .int .i64 1, .string ⟨#[]⟩, .slice none 0 0] rfl rfl HK7d.out size27 rfl rfl w.heap.size HG.out.1 ?_; intro w6 hr6 hb6 hp6)
  have HK7' : Hid (Blk w6 g7 27 [.int .i64 1, .int .i64 ((k : Int) + 1), .int .i64 1, .string ⟨#[]⟩, .slice none 0 0]) := hr6
  have HK8' : Hid (Blk w6 (g7 + 1) 27 [.int .i64 4, .int .i64 0, .int .i64 0, .string ⟨#[35, 86, 65, 76, 85, 69, 33]⟩, .slice none 0 0]) := hp6.blk HK8d.out (by omega)
  have HB6 : Hid (Below w.heap.size w w6) := HBD.out.trans hb6
  clear hr6 hb6 hp6 HK7d HK8d HBD

  go_wp2_with fail
  refine (findLower_any sub (by omega) _).mono ?_
  rintro e w7 ⟨rfl, hb7⟩
  have HK7'' : Hid (Blk w7 g7 27 [.int .i64 1, .int .i64 ((k : Int) + 1), .int .i64 1, .string ⟨#[]⟩, .slice none 0 0]) := HK7'.out.below hb7 HK7'.out.lt
  have HK8'' : Hid (Blk w7 (g7 + 1) 27 [.int .i64 4, .int .i64 0, .int .i64 0, .string ⟨#[35, 86, 65, 76, 85, 69, 33]⟩, .slice none 0 0]) := HK8'.out.below hb7 HK8'.out.lt
  have HB7 : Hid (Below w.heap.size w w7) := HB6.out.trans (hb7.mono HB6.out.size)
  clear hb7 HK7' HK8' HB6
  go_wp2_with fail
  refine (findLower_any s (by omega) _).mono ?_
  rintro e w8 ⟨rfl, hb8⟩
  have HK7' : Hid (Blk w8 g7 27 [.int .i64 1, .int .i64 ((k : Int) + 1), .int .i64 1, .string ⟨#[]⟩, .slice none 0 0]) := HK7''.out.below hb8 HK7''.out.lt
  have HK8' : Hid (Blk w8 (g7 + 1) 27 [.int .i64 4, .int .i64 0, .int .i64 0, .string ⟨#[35, 86, 65, 76, 85, 69, 33]⟩, .slice none 0 0]) := HK8''.out.below hb8 HK8''.out.lt
  have HB8 : Hid (Below w.heap.size w w8) := HB7.out.trans (hb8.mono HB7.out.size)
  clear hb8 HK7'' HK8'' HB7
  go_wp2_with fail
  refine (findAt_any (lowS sub) (lowS s) a (by rw [lowS_size]; omega) (by rw [lowS_size]; omega) (by rw [lowS_size]; exact hne) (by rw [lowS_size]; omega) _).mono ?_
  rintro e w1 ⟨⟨m', rfl, hf'⟩, rfl⟩
  obtain rfl := first_one hfm.out hf'
  rw [HX2.out]
  clear hf'
  go_wp2_with fail
  obtain ⟨w9, hw9⟩ : ∃ w9, w9 = w8 := ⟨_, rfl⟩
  rw [← hw9]
  have h7 : Blk w9 g7 27 [.int .i64 1, .int .i64 ((k : Int) + 1), .int .i64 1, .string ⟨#[]⟩, .slice none 0 0] := (by rw [hw9]; exact HK7'.out)
  have h8 : Blk w9 (g7 + 1) 27 [.int .i64 4, .int .i64 0, .int .i64 0, .string ⟨#[35, 86, 65, 76, 85, 69, 33]⟩, .slice none 0 0] := (by rw [hw9]; exact HK8'.out)
  have hb : Below w.heap.size w w9 := (by rw [hw9]; exact HB8.out)
  clear hw9 HK7' HK8' HB8
  go_region_held3 (fun w' => w'.cell? ⟨g7, 0, none⟩ = some (.int .i64 1) ∧ w'.cell? ⟨g7, 1, none⟩ = some (.int .i64 ((k : Int) + 1)) ∧ w'.cell? ⟨g7, 2, none⟩ = some (.int .i64 1) ∧ w'.cell? ⟨g7, 3, none⟩ = some (.string ⟨#[]⟩) ∧ w'.cell? ⟨g7, 4, none⟩ = some (.slice none 0 0) ∧ w'.cell? ⟨g7 + 1, 0, none⟩ = some (.int .i64 4) ∧ w'.cell? ⟨g7 + 1, 1, none⟩ = some (.int .i64 0) ∧ w'.cell? ⟨g7 + 1, 2, none⟩ = some (.int .i64 0) ∧ w'.cell? ⟨g7 + 1, 3, none⟩ = some (.string ⟨#[35, 86, 65, 76, 85, 69, 33]⟩) ∧ w'.cell? ⟨g7 + 1, 4, none⟩ = some (.slice none 0 0)) (exact ⟨h7.get 0 rfl, h7.get 1 rfl, h7.get 2 rfl, h7.get 3 rfl, h7.get 4 rfl, h8.get 0 rfl, h8.get 1 rfl, h8.get 2 rfl, h8.get 3 rfl, h8.get 4 rfl⟩) (first
    | (go_at_call 40; refine (findArgs_any sub s ((a : Int) + 1) (by omega) (by omega) _).mono ?_; rintro e w2 ⟨v, rfl, harr, hb2⟩; have k7 : Blk w2 g7 27 [.int .i64 1, .int .i64 ((k : Int) + 1), .int .i64 1, .string ⟨#[]⟩, .slice none 0 0] := (hb2.block g7 h7.lt).trans h7; have k8 : Blk w2 (g7 + 1) 27 [.int .i64 4, .int .i64 0, .int .i64 0, .string ⟨#[35, 86, 65, 76, 85, 69, 33]⟩, .slice none 0 0] := (hb2.block (g7 + 1) h8.lt).trans h8; have kb : Below w.heap.size w w2 := (by first | exact hb.trans (hb2.mono hb.size) | exact (below_drewN' hb 1).trans (hb2.mono hb.size)); replace h7 := k7; replace h8 := k8; replace hb := kb; clear k7 k8 kb hb2; have hA : ArgsAt w2 37 v [.text sub, .text s, .num (fx ((a : Int) + 1) 0)] := ⟨harr.base (Nat.zero_le _), by simp, by simp, ok3 (by omega)⟩; clear harr)
    | (go_at_call 39; refine (find_law sub s a k f1.out f2.out HE.out ha hf.out _ HW.out _ _ hA).mono ?_; rintro e w2 ⟨rfl, hb2⟩; have k7 : Blk w2 g7 27 [.int .i64 1, .int .i64 ((k : Int) + 1), .int .i64 1, .string ⟨#[]⟩, .slice none 0 0] := (hb2.block g7 h7.lt).trans h7; have k8 : Blk w2 (g7 + 1) 27 [.int .i64 4, .int .i64 0, .int .i64 0, .string ⟨#[35, 86, 65, 76, 85, 69, 33]⟩, .slice none 0 0] := (hb2.block (g7 + 1) h8.lt).trans h8; have kb : Below w.heap.size w w2 := (by first | exact hb.trans (hb2.mono hb.size) | exact (below_drewN' hb 1).trans (hb2.mono hb.size)); replace h7 := k7; replace h8 := k8; replace hb := kb; clear k7 k8 kb hb2)
    | (go_at_call 41; refine (search_law sub s a m f1.out f2.out HE.out ha hfm.out _ HM.out _ _ hA).mono ?_; rintro e w2 ⟨rfl, hb2⟩; have k7 : Blk w2 g7 27 [.int .i64 1, .int .i64 ((k : Int) + 1), .int .i64 1, .string ⟨#[]⟩, .slice none 0 0] := (hb2.block g7 h7.lt).trans h7; have k8 : Blk w2 (g7 + 1) 27 [.int .i64 4, .int .i64 0, .int .i64 0, .string ⟨#[35, 86, 65, 76, 85, 69, 33]⟩, .slice none 0 0] := (hb2.block (g7 + 1) h8.lt).trans h8; have kb : Below w.heap.size w w2 := (by first | exact hb.trans (hb2.mono hb.size) | exact (below_drewN' hb 1).trans (hb2.mono hb.size)); replace h7 := k7; replace h8 := k8; replace hb := kb; clear k7 k8 kb hb2)
    | (go_at_call_of 22 (x1); refine (same_true' x1 _ HC1.out HO1.out _).mono ?_; rintro e w2 ⟨rfl, hb2⟩; have k7 : Blk w2 g7 27 [.int .i64 1, .int .i64 ((k : Int) + 1), .int .i64 1, .string ⟨#[]⟩, .slice none 0 0] := (hb2.block g7 h7.lt).trans h7; have k8 : Blk w2 (g7 + 1) 27 [.int .i64 4, .int .i64 0, .int .i64 0, .string ⟨#[35, 86, 65, 76, 85, 69, 33]⟩, .slice none 0 0] := (hb2.block (g7 + 1) h8.lt).trans h8; have kb : Below w.heap.size w w2 := (by first | exact hb.trans (hb2.mono hb.size) | exact (below_drewN' hb 1).trans (hb2.mono hb.size)); replace h7 := k7; replace h8 := k8; replace hb := kb; clear k7 k8 kb hb2)
    | (go_at_call_of 22 (x2); refine (same_true' x2 _ HC2.out HO2.out _).mono ?_; rintro e w2 ⟨rfl, hb2⟩; have k7 : Blk w2 g7 27 [.int .i64 1, .int .i64 ((k : Int) + 1), .int .i64 1, .string ⟨#[]⟩, .slice none 0 0] := (hb2.block g7 h7.lt).trans h7; have k8 : Blk w2 (g7 + 1) 27 [.int .i64 4, .int .i64 0, .int .i64 0, .string ⟨#[35, 86, 65, 76, 85, 69, 33]⟩, .slice none 0 0] := (hb2.block (g7 + 1) h8.lt).trans h8; have kb : Below w.heap.size w w2 := (by first | exact hb.trans (hb2.mono hb.size) | exact (below_drewN' hb 1).trans (hb2.mono hb.size)); replace h7 := k7; replace h8 := k8; replace hb := kb; clear k7 k8 kb hb2)
    | (go_at_call 35; refine (findLives_any _).mono ?_; rintro e w2 ⟨rfl, hb2⟩; have k7 : Blk w2 g7 27 [.int .i64 1, .int .i64 ((k : Int) + 1), .int .i64 1, .string ⟨#[]⟩, .slice none 0 0] := (hb2.block g7 h7.lt).trans h7; have k8 : Blk w2 (g7 + 1) 27 [.int .i64 4, .int .i64 0, .int .i64 0, .string ⟨#[35, 86, 65, 76, 85, 69, 33]⟩, .slice none 0 0] := (hb2.block (g7 + 1) h8.lt).trans h8; have kb : Below w.heap.size w w2 := (by first | exact hb.trans (hb2.mono hb.size) | exact (below_drewN' hb 1).trans (hb2.mono hb.size)); replace h7 := k7; replace h8 := k8; replace hb := kb; clear k7 k8 kb hb2))
  go_wp2
  go_ret
  exact ⟨rfl, hb⟩

set_option maxRecDepth 20000 in
set_option maxHeartbeats 2000000 in
theorem law6_01 (sub s : ByteArray) (a k m : Nat) (w : World) (f1 : Hid (FPlain sub)) (f2 : Hid (FPlain s)) (hne : 0 < sub.size) (ha : a < s.size) (z1 : sub.size ≤ 200) (z2 : s.size ≤ 200)
    (hf : Hid (First s sub a k)) (hfm : Hid (First (lowS s) (lowS sub) a m)) (hk : ¬ k < s.size) (hm : m < s.size) :
    Calls Tryz.prog 6 #[.string sub, .string s, .int .i64 (a + 1)] w fun e w' => e = .returned (.bool true) ∧ Below w.heap.size w w' := by
  have hemp : sub.toList.isEmpty = false := by
    rw [toList_bytes]
    have hl : sub.data.toList.length = sub.size := (by simp)
    cases hq : sub.data.toList with
    | nil => rw [hq] at hl; simp at hl; omega
    | cons => rfl
  have e1 : IntKind.i64.wrap ((a : Int) + 1 - 1) = (a : Int) := by rw [IntWalk.i64_in _ (by omega)]; omega
  have y1 : atInt s k = -1 := if_neg hk
  have y2 : atInt (lowS s) m = (m : Int) := if_pos (by rw [lowS_size]; exact hm)
  have HX1 : Hid (atInt s k = -1) := y1
  have HX2 : Hid (atInt (lowS s) m = (m : Int)) := y2
  have HE : Hid (sub.toList.isEmpty = false) := hemp
  obtain ⟨x1, hx1⟩ : ∃ x, x = Sp.err valueStr := ⟨_, rfl⟩
  obtain ⟨x2, hx2⟩ : ∃ x, x = Sp.int ((m : Int) + 1) := ⟨_, rfl⟩
  have HW : Hid (wantSp s k = x1) := (by show wantSp s k = x1; rw [hx1]; exact if_neg hk)
  have HM : Hid (wantSp s m = x2) := (by show wantSp s m = x2; rw [hx2]; exact if_pos hm)
  
  have wm : IntKind.i64.wrap ((m : Int) + 1) = (m : Int) + 1 := IntWalk.i64_in _ (by omega)
  have HKB : Hid (k ≤ 1000) := (show k ≤ 1000 by have := hf.out.1; omega)
  have HMB : Hid (m ≤ 1000) := (show m ≤ 1000 by have := hfm.out.1; rw [lowS_size] at this; omega)
  have HC1 : Hid (x1.cells = [.int .i64 4, .int .i64 0, .int .i64 0, .string ⟨#[35, 86, 65, 76, 85, 69, 33]⟩, .slice none 0 0]) := (by show x1.cells = _; rw [hx1]; rfl)
  have HC2 : Hid (x2.cells = [.int .i64 1, .int .i64 ((m : Int) + 1), .int .i64 1, .string ⟨#[]⟩, .slice none 0 0]) := (by show x2.cells = _; rw [hx2]; rfl)
  have HO1 : Hid x1.Ok := (by show x1.Ok; rw [hx1]; exact trivial)
  have HO2 : Hid x2.Ok := (by show x2.Ok; rw [hx2]; exact ⟨by omega, by have := HMB.out; omega⟩)
  clear y1 y2 hk hm hx1 hx2
  go_enter Tryz.func6, Tryz.ntmps6
  go_wp2_with (first | (go_at_call_of 34 (sub); refine (plain_any sub (by omega) _).mono ?_; rintro e w1 ⟨⟨b, rfl, hbf⟩, rfl⟩; obtain rfl := hbf.2 f1.out; clear hbf) | (go_at_call_of 34 (s); refine (plain_any s (by omega) _).mono ?_; rintro e w1 ⟨⟨b, rfl, hbf⟩, rfl⟩; obtain rfl := hbf.2 f2.out; clear hbf))
  refine (specErr_any _ _).mono ?_
  rintro e wa ⟨rfl, hba⟩
  have HBA : Hid (Below w.heap.size w wa) := hba
  clear hba
  go_wp2_with fail
  refine (specErr_any _ _).mono ?_
  rintro e wb ⟨rfl, hbb⟩
  have HBB : Hid (Below w.heap.size w wb) := HBA.out.trans (hbb.mono HBA.out.size)
  clear hbb HBA
  go_wp2_with fail
  refine abs_calls (fun w' => Blk w' wb.heap.size 27 [.int .i64 4, .int .i64 0, .int .i64 0, .string ⟨#[35, 86, 65, 76, 85, 69, 33]⟩, .slice none 0 0] ∧ Blk w' (wb.heap.size + 1) 27 [.int .i64 4, .int .i64 0, .int .i64 0, .string ⟨#[35, 86, 65, 76, 85, 69, 33]⟩, .slice none 0 0] ∧ Below w.heap.size w w') ⟨(Blk.new wb 27 [.int .i64 4, .int .i64 0, .int .i64 0, .string ⟨#[35, 86, 65, 76, 85, 69, 33]⟩, .slice none 0 0]).alloc _, blk_at (by simp) (Blk.new _ 27 [.int .i64 4, .int .i64 0, .int .i64 0, .string ⟨#[35, 86, 65, 76, 85, 69, 33]⟩, .slice none 0 0]), (HBB.out.alloc HBB.out.size _).alloc (by have := HBB.out.size; simp; omega) _⟩ ?_
  rintro wc ⟨hk7, hk8, hbc⟩
  have hg0 : w.heap.size ≤ wb.heap.size := HBB.out.size
  clear HBB
  generalize wb.heap.size = g7 at *
  have HK7 : Hid (Blk wc g7 27 [.int .i64 4, .int .i64 0, .int .i64 0, .string ⟨#[35, 86, 65, 76, 85, 69, 33]⟩, .slice none 0 0]) := hk7
  have HK8 : Hid (Blk wc (g7 + 1) 27 [.int .i64 4, .int .i64 0, .int .i64 0, .string ⟨#[35, 86, 65, 76, 85, 69, 33]⟩, .slice none 0 0]) := hk8
  have HBC : Hid (Below w.heap.size w wc) := hbc
  have HG : Hid (w.heap.size ≤ g7 ∧ w.heap.size ≤ g7 + 1) := ⟨hg0, by omega⟩
  clear hk7 hk8 hbc hg0
  refine (findAt_any sub s a (by omega) (by omega) hne (by omega) _).mono ?_
  rintro e w1 ⟨⟨k', rfl, hf'⟩, rfl⟩
  obtain rfl := first_one hf.out hf'
  rw [HX1.out]
  clear hf'
  go_wp2_with fail
  obtain ⟨w6, hw6⟩ : ∃ w6, w6 = wc := ⟨_, rfl⟩
  rw [← hw6]
  have HK7' : Hid (Blk w6 g7 27 [.int .i64 4, .int .i64 0, .int .i64 0, .string ⟨#[35, 86, 65, 76, 85, 69, 33]⟩, .slice none 0 0]) := (by rw [hw6]; exact HK7)
  have HK8' : Hid (Blk w6 (g7 + 1) 27 [.int .i64 4, .int .i64 0, .int .i64 0, .string ⟨#[35, 86, 65, 76, 85, 69, 33]⟩, .slice none 0 0]) := (by rw [hw6]; exact HK8)
  have HB6 : Hid (Below w.heap.size w w6) := (by rw [hw6]; exact HBC)
  clear hw6 HK7 HK8 HBC

  go_wp2_with fail
  refine (findLower_any sub (by omega) _).mono ?_
  rintro e w7 ⟨rfl, hb7⟩
  have HK7'' : Hid (Blk w7 g7 27 [.int .i64 4, .int .i64 0, .int .i64 0, .string ⟨#[35, 86, 65, 76, 85, 69, 33]⟩, .slice none 0 0]) := HK7'.out.below hb7 HK7'.out.lt
  have HK8'' : Hid (Blk w7 (g7 + 1) 27 [.int .i64 4, .int .i64 0, .int .i64 0, .string ⟨#[35, 86, 65, 76, 85, 69, 33]⟩, .slice none 0 0]) := HK8'.out.below hb7 HK8'.out.lt
  have HB7 : Hid (Below w.heap.size w w7) := HB6.out.trans (hb7.mono HB6.out.size)
  clear hb7 HK7' HK8' HB6
  go_wp2_with fail
  refine (findLower_any s (by omega) _).mono ?_
  rintro e w8 ⟨rfl, hb8⟩
  have HK7' : Hid (Blk w8 g7 27 [.int .i64 4, .int .i64 0, .int .i64 0, .string ⟨#[35, 86, 65, 76, 85, 69, 33]⟩, .slice none 0 0]) := HK7''.out.below hb8 HK7''.out.lt
  have HK8' : Hid (Blk w8 (g7 + 1) 27 [.int .i64 4, .int .i64 0, .int .i64 0, .string ⟨#[35, 86, 65, 76, 85, 69, 33]⟩, .slice none 0 0]) := HK8''.out.below hb8 HK8''.out.lt
  have HB8 : Hid (Below w.heap.size w w8) := HB7.out.trans (hb8.mono HB7.out.size)
  clear hb8 HK7'' HK8'' HB7
  go_wp2_with fail
  refine (findAt_any (lowS sub) (lowS s) a (by rw [lowS_size]; omega) (by rw [lowS_size]; omega) (by rw [lowS_size]; exact hne) (by rw [lowS_size]; omega) _).mono ?_
  rintro e w1 ⟨⟨m', rfl, hf'⟩, rfl⟩
  obtain rfl := first_one hfm.out hf'
  rw [HX2.out]
  clear hf'
  go_wp2_with fail
  refine (specInt_any _ (by omega) (by have := HMB.out; omega) _).mono ?_
  rintro e wd ⟨rfl, hbd⟩
  have HK7d : Hid (Blk wd g7 27 [.int .i64 4, .int .i64 0, .int .i64 0, .string ⟨#[35, 86, 65, 76, 85, 69, 33]⟩, .slice none 0 0]) := HK7'.out.below hbd HK7'.out.lt
  have HK8d : Hid (Blk wd (g7 + 1) 27 [.int .i64 4, .int .i64 0, .int .i64 0, .string ⟨#[35, 86, 65, 76, 85, 69, 33]⟩, .slice none 0 0]) := HK8'.out.below hbd HK8'.out.lt
  have HBD : Hid (Below w.heap.size w wd) := HB8.out.trans (hbd.mono HB8.out.size)
  clear hbd HK7' HK8' HB8
  go_wp2_with (refine store_row rfl 27 (.tmp 8) (.tmp 65) rfl (g7 + 1) 27 [.int .i64 4, .int .i64 0, .int .i64 0, .string ⟨#[35, 86, 65, 76, 85, 69, 33]⟩, .slice none 0 0] [.int .i64 1, .int .i64 ((m : Int) + 1), .int .i64 1, .string ⟨#[]⟩, .slice none 0 0] rfl rfl HK8d.out size27 rfl rfl w.heap.size HG.out.2 ?_; intro w9 hr9 hb9 hp9)
  have h8 : Blk w9 (g7 + 1) 27 [.int .i64 1, .int .i64 ((m : Int) + 1), .int .i64 1, .string ⟨#[]⟩, .slice none 0 0] := hr9
  have h7 : Blk w9 g7 27 [.int .i64 4, .int .i64 0, .int .i64 0, .string ⟨#[35, 86, 65, 76, 85, 69, 33]⟩, .slice none 0 0] := hp9.blk HK7d.out (by omega)
  have hb : Below w.heap.size w w9 := HBD.out.trans hb9
  clear hr9 hb9 hp9 HK7d HK8d HBD
  go_wp2_with fail
  go_region_held3 (fun w' => w'.cell? ⟨g7, 0, none⟩ = some (.int .i64 4) ∧ w'.cell? ⟨g7, 1, none⟩ = some (.int .i64 0) ∧ w'.cell? ⟨g7, 2, none⟩ = some (.int .i64 0) ∧ w'.cell? ⟨g7, 3, none⟩ = some (.string ⟨#[35, 86, 65, 76, 85, 69, 33]⟩) ∧ w'.cell? ⟨g7, 4, none⟩ = some (.slice none 0 0) ∧ w'.cell? ⟨g7 + 1, 0, none⟩ = some (.int .i64 1) ∧ w'.cell? ⟨g7 + 1, 1, none⟩ = some (.int .i64 ((m : Int) + 1)) ∧ w'.cell? ⟨g7 + 1, 2, none⟩ = some (.int .i64 1) ∧ w'.cell? ⟨g7 + 1, 3, none⟩ = some (.string ⟨#[]⟩) ∧ w'.cell? ⟨g7 + 1, 4, none⟩ = some (.slice none 0 0)) (exact ⟨h7.get 0 rfl, h7.get 1 rfl, h7.get 2 rfl, h7.get 3 rfl, h7.get 4 rfl, h8.get 0 rfl, h8.get 1 rfl, h8.get 2 rfl, h8.get 3 rfl, h8.get 4 rfl⟩) (first
    | (go_at_call 40; refine (findArgs_any sub s ((a : Int) + 1) (by omega) (by omega) _).mono ?_; rintro e w2 ⟨v, rfl, harr, hb2⟩; have k7 : Blk w2 g7 27 [.int .i64 4, .int .i64 0, .int .i64 0, .string ⟨#[35, 86, 65, 76, 85, 69, 33]⟩, .slice none 0 0] := (hb2.block g7 h7.lt).trans h7; have k8 : Blk w2 (g7 + 1) 27 [.int .i64 1, .int .i64 ((m : Int) + 1), .int .i64 1, .string ⟨#[]⟩, .slice none 0 0] := (hb2.block (g7 + 1) h8.lt).trans h8; have kb : Below w.heap.size w w2 := (by first | exact hb.trans (hb2.mono hb.size) | exact (below_drewN' hb 1).trans (hb2.mono hb.size)); replace h7 := k7; replace h8 := k8; replace hb := kb; clear k7 k8 kb hb2; have hA : ArgsAt w2 37 v [.text sub, .text s, .num (fx ((a : Int) + 1) 0)] := ⟨harr.base (Nat.zero_le _), by simp, by simp, ok3 (by omega)⟩; clear harr)
    | (go_at_call 39; refine (find_law sub s a k f1.out f2.out HE.out ha hf.out _ HW.out _ _ hA).mono ?_; rintro e w2 ⟨rfl, hb2⟩; have k7 : Blk w2 g7 27 [.int .i64 4, .int .i64 0, .int .i64 0, .string ⟨#[35, 86, 65, 76, 85, 69, 33]⟩, .slice none 0 0] := (hb2.block g7 h7.lt).trans h7; have k8 : Blk w2 (g7 + 1) 27 [.int .i64 1, .int .i64 ((m : Int) + 1), .int .i64 1, .string ⟨#[]⟩, .slice none 0 0] := (hb2.block (g7 + 1) h8.lt).trans h8; have kb : Below w.heap.size w w2 := (by first | exact hb.trans (hb2.mono hb.size) | exact (below_drewN' hb 1).trans (hb2.mono hb.size)); replace h7 := k7; replace h8 := k8; replace hb := kb; clear k7 k8 kb hb2)
    | (go_at_call 41; refine (search_law sub s a m f1.out f2.out HE.out ha hfm.out _ HM.out _ _ hA).mono ?_; rintro e w2 ⟨rfl, hb2⟩; have k7 : Blk w2 g7 27 [.int .i64 4, .int .i64 0, .int .i64 0, .string ⟨#[35, 86, 65, 76, 85, 69, 33]⟩, .slice none 0 0] := (hb2.block g7 h7.lt).trans h7; have k8 : Blk w2 (g7 + 1) 27 [.int .i64 1, .int .i64 ((m : Int) + 1), .int .i64 1, .string ⟨#[]⟩, .slice none 0 0] := (hb2.block (g7 + 1) h8.lt).trans h8; have kb : Below w.heap.size w w2 := (by first | exact hb.trans (hb2.mono hb.size) | exact (below_drewN' hb 1).trans (hb2.mono hb.size)); replace h7 := k7; replace h8 := k8; replace hb := kb; clear k7 k8 kb hb2)
    | (go_at_call_of 22 (x1); refine (same_true' x1 _ HC1.out HO1.out _).mono ?_; rintro e w2 ⟨rfl, hb2⟩; have k7 : Blk w2 g7 27 [.int .i64 4, .int .i64 0, .int .i64 0, .string ⟨#[35, 86, 65, 76, 85, 69, 33]⟩, .slice none 0 0] := (hb2.block g7 h7.lt).trans h7; have k8 : Blk w2 (g7 + 1) 27 [.int .i64 1, .int .i64 ((m : Int) + 1), .int .i64 1, .string ⟨#[]⟩, .slice none 0 0] := (hb2.block (g7 + 1) h8.lt).trans h8; have kb : Below w.heap.size w w2 := (by first | exact hb.trans (hb2.mono hb.size) | exact (below_drewN' hb 1).trans (hb2.mono hb.size)); replace h7 := k7; replace h8 := k8; replace hb := kb; clear k7 k8 kb hb2)
    | (go_at_call_of 22 (x2); refine (same_true' x2 _ HC2.out HO2.out _).mono ?_; rintro e w2 ⟨rfl, hb2⟩; have k7 : Blk w2 g7 27 [.int .i64 4, .int .i64 0, .int .i64 0, .string ⟨#[35, 86, 65, 76, 85, 69, 33]⟩, .slice none 0 0] := (hb2.block g7 h7.lt).trans h7; have k8 : Blk w2 (g7 + 1) 27 [.int .i64 1, .int .i64 ((m : Int) + 1), .int .i64 1, .string ⟨#[]⟩, .slice none 0 0] := (hb2.block (g7 + 1) h8.lt).trans h8; have kb : Below w.heap.size w w2 := (by first | exact hb.trans (hb2.mono hb.size) | exact (below_drewN' hb 1).trans (hb2.mono hb.size)); replace h7 := k7; replace h8 := k8; replace hb := kb; clear k7 k8 kb hb2)
    | (go_at_call 35; refine (findLives_any _).mono ?_; rintro e w2 ⟨rfl, hb2⟩; have k7 : Blk w2 g7 27 [.int .i64 4, .int .i64 0, .int .i64 0, .string ⟨#[35, 86, 65, 76, 85, 69, 33]⟩, .slice none 0 0] := (hb2.block g7 h7.lt).trans h7; have k8 : Blk w2 (g7 + 1) 27 [.int .i64 1, .int .i64 ((m : Int) + 1), .int .i64 1, .string ⟨#[]⟩, .slice none 0 0] := (hb2.block (g7 + 1) h8.lt).trans h8; have kb : Below w.heap.size w w2 := (by first | exact hb.trans (hb2.mono hb.size) | exact (below_drewN' hb 1).trans (hb2.mono hb.size)); replace h7 := k7; replace h8 := k8; replace hb := kb; clear k7 k8 kb hb2))
  go_wp2
  go_ret
  exact ⟨rfl, hb⟩

set_option maxRecDepth 20000 in
set_option maxHeartbeats 2000000 in
theorem law6_00 (sub s : ByteArray) (a k m : Nat) (w : World) (f1 : Hid (FPlain sub)) (f2 : Hid (FPlain s)) (hne : 0 < sub.size) (ha : a < s.size) (z1 : sub.size ≤ 200) (z2 : s.size ≤ 200)
    (hf : Hid (First s sub a k)) (hfm : Hid (First (lowS s) (lowS sub) a m)) (hk : ¬ k < s.size) (hm : ¬ m < s.size) :
    Calls Tryz.prog 6 #[.string sub, .string s, .int .i64 (a + 1)] w fun e w' => e = .returned (.bool true) ∧ Below w.heap.size w w' := by
  have hemp : sub.toList.isEmpty = false := by
    rw [toList_bytes]
    have hl : sub.data.toList.length = sub.size := (by simp)
    cases hq : sub.data.toList with
    | nil => rw [hq] at hl; simp at hl; omega
    | cons => rfl
  have e1 : IntKind.i64.wrap ((a : Int) + 1 - 1) = (a : Int) := by rw [IntWalk.i64_in _ (by omega)]; omega
  have y1 : atInt s k = -1 := if_neg hk
  have y2 : atInt (lowS s) m = -1 := if_neg (by rw [lowS_size]; exact hm)
  have HX1 : Hid (atInt s k = -1) := y1
  have HX2 : Hid (atInt (lowS s) m = -1) := y2
  have HE : Hid (sub.toList.isEmpty = false) := hemp
  obtain ⟨x1, hx1⟩ : ∃ x, x = Sp.err valueStr := ⟨_, rfl⟩
  obtain ⟨x2, hx2⟩ : ∃ x, x = Sp.err valueStr := ⟨_, rfl⟩
  have HW : Hid (wantSp s k = x1) := (by show wantSp s k = x1; rw [hx1]; exact if_neg hk)
  have HM : Hid (wantSp s m = x2) := (by show wantSp s m = x2; rw [hx2]; exact if_neg hm)
  
  
  have HKB : Hid (k ≤ 1000) := (show k ≤ 1000 by have := hf.out.1; omega)
  have HMB : Hid (m ≤ 1000) := (show m ≤ 1000 by have := hfm.out.1; rw [lowS_size] at this; omega)
  have HC1 : Hid (x1.cells = [.int .i64 4, .int .i64 0, .int .i64 0, .string ⟨#[35, 86, 65, 76, 85, 69, 33]⟩, .slice none 0 0]) := (by show x1.cells = _; rw [hx1]; rfl)
  have HC2 : Hid (x2.cells = [.int .i64 4, .int .i64 0, .int .i64 0, .string ⟨#[35, 86, 65, 76, 85, 69, 33]⟩, .slice none 0 0]) := (by show x2.cells = _; rw [hx2]; rfl)
  have HO1 : Hid x1.Ok := (by show x1.Ok; rw [hx1]; exact trivial)
  have HO2 : Hid x2.Ok := (by show x2.Ok; rw [hx2]; exact trivial)
  clear y1 y2 hk hm hx1 hx2
  go_enter Tryz.func6, Tryz.ntmps6
  go_wp2_with (first | (go_at_call_of 34 (sub); refine (plain_any sub (by omega) _).mono ?_; rintro e w1 ⟨⟨b, rfl, hbf⟩, rfl⟩; obtain rfl := hbf.2 f1.out; clear hbf) | (go_at_call_of 34 (s); refine (plain_any s (by omega) _).mono ?_; rintro e w1 ⟨⟨b, rfl, hbf⟩, rfl⟩; obtain rfl := hbf.2 f2.out; clear hbf))
  refine (specErr_any _ _).mono ?_
  rintro e wa ⟨rfl, hba⟩
  have HBA : Hid (Below w.heap.size w wa) := hba
  clear hba
  go_wp2_with fail
  refine (specErr_any _ _).mono ?_
  rintro e wb ⟨rfl, hbb⟩
  have HBB : Hid (Below w.heap.size w wb) := HBA.out.trans (hbb.mono HBA.out.size)
  clear hbb HBA
  go_wp2_with fail
  refine abs_calls (fun w' => Blk w' wb.heap.size 27 [.int .i64 4, .int .i64 0, .int .i64 0, .string ⟨#[35, 86, 65, 76, 85, 69, 33]⟩, .slice none 0 0] ∧ Blk w' (wb.heap.size + 1) 27 [.int .i64 4, .int .i64 0, .int .i64 0, .string ⟨#[35, 86, 65, 76, 85, 69, 33]⟩, .slice none 0 0] ∧ Below w.heap.size w w') ⟨(Blk.new wb 27 [.int .i64 4, .int .i64 0, .int .i64 0, .string ⟨#[35, 86, 65, 76, 85, 69, 33]⟩, .slice none 0 0]).alloc _, blk_at (by simp) (Blk.new _ 27 [.int .i64 4, .int .i64 0, .int .i64 0, .string ⟨#[35, 86, 65, 76, 85, 69, 33]⟩, .slice none 0 0]), (HBB.out.alloc HBB.out.size _).alloc (by have := HBB.out.size; simp; omega) _⟩ ?_
  rintro wc ⟨hk7, hk8, hbc⟩
  have hg0 : w.heap.size ≤ wb.heap.size := HBB.out.size
  clear HBB
  generalize wb.heap.size = g7 at *
  have HK7 : Hid (Blk wc g7 27 [.int .i64 4, .int .i64 0, .int .i64 0, .string ⟨#[35, 86, 65, 76, 85, 69, 33]⟩, .slice none 0 0]) := hk7
  have HK8 : Hid (Blk wc (g7 + 1) 27 [.int .i64 4, .int .i64 0, .int .i64 0, .string ⟨#[35, 86, 65, 76, 85, 69, 33]⟩, .slice none 0 0]) := hk8
  have HBC : Hid (Below w.heap.size w wc) := hbc
  have HG : Hid (w.heap.size ≤ g7 ∧ w.heap.size ≤ g7 + 1) := ⟨hg0, by omega⟩
  clear hk7 hk8 hbc hg0
  refine (findAt_any sub s a (by omega) (by omega) hne (by omega) _).mono ?_
  rintro e w1 ⟨⟨k', rfl, hf'⟩, rfl⟩
  obtain rfl := first_one hf.out hf'
  rw [HX1.out]
  clear hf'
  go_wp2_with fail
  obtain ⟨w6, hw6⟩ : ∃ w6, w6 = wc := ⟨_, rfl⟩
  rw [← hw6]
  have HK7' : Hid (Blk w6 g7 27 [.int .i64 4, .int .i64 0, .int .i64 0, .string ⟨#[35, 86, 65, 76, 85, 69, 33]⟩, .slice none 0 0]) := (by rw [hw6]; exact HK7)
  have HK8' : Hid (Blk w6 (g7 + 1) 27 [.int .i64 4, .int .i64 0, .int .i64 0, .string ⟨#[35, 86, 65, 76, 85, 69, 33]⟩, .slice none 0 0]) := (by rw [hw6]; exact HK8)
  have HB6 : Hid (Below w.heap.size w w6) := (by rw [hw6]; exact HBC)
  clear hw6 HK7 HK8 HBC

  go_wp2_with fail
  refine (findLower_any sub (by omega) _).mono ?_
  rintro e w7 ⟨rfl, hb7⟩
  have HK7'' : Hid (Blk w7 g7 27 [.int .i64 4, .int .i64 0, .int .i64 0, .string ⟨#[35, 86, 65, 76, 85, 69, 33]⟩, .slice none 0 0]) := HK7'.out.below hb7 HK7'.out.lt
  have HK8'' : Hid (Blk w7 (g7 + 1) 27 [.int .i64 4, .int .i64 0, .int .i64 0, .string ⟨#[35, 86, 65, 76, 85, 69, 33]⟩, .slice none 0 0]) := HK8'.out.below hb7 HK8'.out.lt
  have HB7 : Hid (Below w.heap.size w w7) := HB6.out.trans (hb7.mono HB6.out.size)
  clear hb7 HK7' HK8' HB6
  go_wp2_with fail
  refine (findLower_any s (by omega) _).mono ?_
  rintro e w8 ⟨rfl, hb8⟩
  have HK7' : Hid (Blk w8 g7 27 [.int .i64 4, .int .i64 0, .int .i64 0, .string ⟨#[35, 86, 65, 76, 85, 69, 33]⟩, .slice none 0 0]) := HK7''.out.below hb8 HK7''.out.lt
  have HK8' : Hid (Blk w8 (g7 + 1) 27 [.int .i64 4, .int .i64 0, .int .i64 0, .string ⟨#[35, 86, 65, 76, 85, 69, 33]⟩, .slice none 0 0]) := HK8''.out.below hb8 HK8''.out.lt
  have HB8 : Hid (Below w.heap.size w w8) := HB7.out.trans (hb8.mono HB7.out.size)
  clear hb8 HK7'' HK8'' HB7
  go_wp2_with fail
  refine (findAt_any (lowS sub) (lowS s) a (by rw [lowS_size]; omega) (by rw [lowS_size]; omega) (by rw [lowS_size]; exact hne) (by rw [lowS_size]; omega) _).mono ?_
  rintro e w1 ⟨⟨m', rfl, hf'⟩, rfl⟩
  obtain rfl := first_one hfm.out hf'
  rw [HX2.out]
  clear hf'
  go_wp2_with fail
  obtain ⟨w9, hw9⟩ : ∃ w9, w9 = w8 := ⟨_, rfl⟩
  rw [← hw9]
  have h7 : Blk w9 g7 27 [.int .i64 4, .int .i64 0, .int .i64 0, .string ⟨#[35, 86, 65, 76, 85, 69, 33]⟩, .slice none 0 0] := (by rw [hw9]; exact HK7'.out)
  have h8 : Blk w9 (g7 + 1) 27 [.int .i64 4, .int .i64 0, .int .i64 0, .string ⟨#[35, 86, 65, 76, 85, 69, 33]⟩, .slice none 0 0] := (by rw [hw9]; exact HK8'.out)
  have hb : Below w.heap.size w w9 := (by rw [hw9]; exact HB8.out)
  clear hw9 HK7' HK8' HB8
  go_region_held3 (fun w' => w'.cell? ⟨g7, 0, none⟩ = some (.int .i64 4) ∧ w'.cell? ⟨g7, 1, none⟩ = some (.int .i64 0) ∧ w'.cell? ⟨g7, 2, none⟩ = some (.int .i64 0) ∧ w'.cell? ⟨g7, 3, none⟩ = some (.string ⟨#[35, 86, 65, 76, 85, 69, 33]⟩) ∧ w'.cell? ⟨g7, 4, none⟩ = some (.slice none 0 0) ∧ w'.cell? ⟨g7 + 1, 0, none⟩ = some (.int .i64 4) ∧ w'.cell? ⟨g7 + 1, 1, none⟩ = some (.int .i64 0) ∧ w'.cell? ⟨g7 + 1, 2, none⟩ = some (.int .i64 0) ∧ w'.cell? ⟨g7 + 1, 3, none⟩ = some (.string ⟨#[35, 86, 65, 76, 85, 69, 33]⟩) ∧ w'.cell? ⟨g7 + 1, 4, none⟩ = some (.slice none 0 0)) (exact ⟨h7.get 0 rfl, h7.get 1 rfl, h7.get 2 rfl, h7.get 3 rfl, h7.get 4 rfl, h8.get 0 rfl, h8.get 1 rfl, h8.get 2 rfl, h8.get 3 rfl, h8.get 4 rfl⟩) (first
    | (go_at_call 40; refine (findArgs_any sub s ((a : Int) + 1) (by omega) (by omega) _).mono ?_; rintro e w2 ⟨v, rfl, harr, hb2⟩; have k7 : Blk w2 g7 27 [.int .i64 4, .int .i64 0, .int .i64 0, .string ⟨#[35, 86, 65, 76, 85, 69, 33]⟩, .slice none 0 0] := (hb2.block g7 h7.lt).trans h7; have k8 : Blk w2 (g7 + 1) 27 [.int .i64 4, .int .i64 0, .int .i64 0, .string ⟨#[35, 86, 65, 76, 85, 69, 33]⟩, .slice none 0 0] := (hb2.block (g7 + 1) h8.lt).trans h8; have kb : Below w.heap.size w w2 := (by first | exact hb.trans (hb2.mono hb.size) | exact (below_drewN' hb 1).trans (hb2.mono hb.size)); replace h7 := k7; replace h8 := k8; replace hb := kb; clear k7 k8 kb hb2; have hA : ArgsAt w2 37 v [.text sub, .text s, .num (fx ((a : Int) + 1) 0)] := ⟨harr.base (Nat.zero_le _), by simp, by simp, ok3 (by omega)⟩; clear harr)
    | (go_at_call 39; refine (find_law sub s a k f1.out f2.out HE.out ha hf.out _ HW.out _ _ hA).mono ?_; rintro e w2 ⟨rfl, hb2⟩; have k7 : Blk w2 g7 27 [.int .i64 4, .int .i64 0, .int .i64 0, .string ⟨#[35, 86, 65, 76, 85, 69, 33]⟩, .slice none 0 0] := (hb2.block g7 h7.lt).trans h7; have k8 : Blk w2 (g7 + 1) 27 [.int .i64 4, .int .i64 0, .int .i64 0, .string ⟨#[35, 86, 65, 76, 85, 69, 33]⟩, .slice none 0 0] := (hb2.block (g7 + 1) h8.lt).trans h8; have kb : Below w.heap.size w w2 := (by first | exact hb.trans (hb2.mono hb.size) | exact (below_drewN' hb 1).trans (hb2.mono hb.size)); replace h7 := k7; replace h8 := k8; replace hb := kb; clear k7 k8 kb hb2)
    | (go_at_call 41; refine (search_law sub s a m f1.out f2.out HE.out ha hfm.out _ HM.out _ _ hA).mono ?_; rintro e w2 ⟨rfl, hb2⟩; have k7 : Blk w2 g7 27 [.int .i64 4, .int .i64 0, .int .i64 0, .string ⟨#[35, 86, 65, 76, 85, 69, 33]⟩, .slice none 0 0] := (hb2.block g7 h7.lt).trans h7; have k8 : Blk w2 (g7 + 1) 27 [.int .i64 4, .int .i64 0, .int .i64 0, .string ⟨#[35, 86, 65, 76, 85, 69, 33]⟩, .slice none 0 0] := (hb2.block (g7 + 1) h8.lt).trans h8; have kb : Below w.heap.size w w2 := (by first | exact hb.trans (hb2.mono hb.size) | exact (below_drewN' hb 1).trans (hb2.mono hb.size)); replace h7 := k7; replace h8 := k8; replace hb := kb; clear k7 k8 kb hb2)
    | (go_at_call_of 22 (x1); refine (same_true' x1 _ HC1.out HO1.out _).mono ?_; rintro e w2 ⟨rfl, hb2⟩; have k7 : Blk w2 g7 27 [.int .i64 4, .int .i64 0, .int .i64 0, .string ⟨#[35, 86, 65, 76, 85, 69, 33]⟩, .slice none 0 0] := (hb2.block g7 h7.lt).trans h7; have k8 : Blk w2 (g7 + 1) 27 [.int .i64 4, .int .i64 0, .int .i64 0, .string ⟨#[35, 86, 65, 76, 85, 69, 33]⟩, .slice none 0 0] := (hb2.block (g7 + 1) h8.lt).trans h8; have kb : Below w.heap.size w w2 := (by first | exact hb.trans (hb2.mono hb.size) | exact (below_drewN' hb 1).trans (hb2.mono hb.size)); replace h7 := k7; replace h8 := k8; replace hb := kb; clear k7 k8 kb hb2)
    | (go_at_call_of 22 (x2); refine (same_true' x2 _ HC2.out HO2.out _).mono ?_; rintro e w2 ⟨rfl, hb2⟩; have k7 : Blk w2 g7 27 [.int .i64 4, .int .i64 0, .int .i64 0, .string ⟨#[35, 86, 65, 76, 85, 69, 33]⟩, .slice none 0 0] := (hb2.block g7 h7.lt).trans h7; have k8 : Blk w2 (g7 + 1) 27 [.int .i64 4, .int .i64 0, .int .i64 0, .string ⟨#[35, 86, 65, 76, 85, 69, 33]⟩, .slice none 0 0] := (hb2.block (g7 + 1) h8.lt).trans h8; have kb : Below w.heap.size w w2 := (by first | exact hb.trans (hb2.mono hb.size) | exact (below_drewN' hb 1).trans (hb2.mono hb.size)); replace h7 := k7; replace h8 := k8; replace hb := kb; clear k7 k8 kb hb2)
    | (go_at_call 35; refine (findLives_any _).mono ?_; rintro e w2 ⟨rfl, hb2⟩; have k7 : Blk w2 g7 27 [.int .i64 4, .int .i64 0, .int .i64 0, .string ⟨#[35, 86, 65, 76, 85, 69, 33]⟩, .slice none 0 0] := (hb2.block g7 h7.lt).trans h7; have k8 : Blk w2 (g7 + 1) 27 [.int .i64 4, .int .i64 0, .int .i64 0, .string ⟨#[35, 86, 65, 76, 85, 69, 33]⟩, .slice none 0 0] := (hb2.block (g7 + 1) h8.lt).trans h8; have kb : Below w.heap.size w w2 := (by first | exact hb.trans (hb2.mono hb.size) | exact (below_drewN' hb 1).trans (hb2.mono hb.size)); replace h7 := k7; replace h8 := k8; replace hb := kb; clear k7 k8 kb hb2))
  go_wp2
  go_ret
  exact ⟨rfl, hb⟩
end Go.Proofs.YtoebgbojpkflnaaGreatDoor
