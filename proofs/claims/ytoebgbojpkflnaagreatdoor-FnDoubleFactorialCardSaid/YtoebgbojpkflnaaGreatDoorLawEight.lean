/- Law 8, FnArabic: the walk. Condition: romanTable as the row lists it. -/
import Derived.Test.YtoebgbojpkflnaaGreatDoorArabDoor
import Derived.Test.YtoebgbojpkflnaaGreatDoorArgs
import Derived.Deep.RegionWith
namespace Go.Proofs.YtoebgbojpkflnaaGreatDoor
open Go Go.RowKit
theorem int_spec (n : Int) (h1 : -99999999999 ≤ n) (h2 : n ≤ 99999999999) (w : World) :
    Calls Tryz.prog 24 #[.int .i64 n] w fun e w' => e = .returned (.agg #[.int .i64 1, .int .i64 n, .int .i64 1, .string ⟨#[]⟩, .slice none 0 0]) ∧ Below w.heap.size w w' := by
  go_enter Tryz.func24, Tryz.ntmps24
  go_wp2
  go_returns
  exact ⟨rfl, by go_grown⟩
theorem same_int (n : Int) (h1 : -99999999999 ≤ n) (h2 : n ≤ 99999999999) (b : Nat) (hb : b = fx n 0) (w : World) :
    Calls Tryz.prog 22 #[(Atom.num b).val, .agg #[.int .i64 1, .int .i64 n, .int .i64 1, .string ⟨#[]⟩, .slice none 0 0]] w fun e w' => e = .returned (.bool true) ∧ Below w.heap.size w w' := by
  subst hb
  exact same_true (.int n) w ⟨h1, h2⟩
theorem arab_ofBlk {B : Nat} {w : World} {e sz g : Nat} {xs : List (List Value)} (h : Blk w g e xs.flatten) (hw : ∀ x ∈ xs, x.length = sz) (hB : B ≤ g) (hn : xs.length ≤ maxLen) : Arr B w e sz (.slice (some ⟨g, 0, none⟩) xs.length xs.length) xs := by
  have hl : xs.flatten.length = xs.length * sz := by
    clear h hn
    induction xs with
    | nil => simp
    | cons y ys ih => rw [List.flatten_cons, List.length_append, ih fun x hx => hw x (List.mem_cons_of_mem _ hx), hw y (by simp), List.length_cons, Nat.succ_mul, Nat.add_comm]
  exact ⟨⟨hl, .inr ⟨g, xs.length, xs.flatten.toArray, rfl, hB, h, Nat.le_refl _, hn, by simpa using hl, by rw [← hl]; exact List.take_length⟩⟩, hw⟩
theorem romanS_numeral {m : Nat} (h1 : 1 ≤ m) (h2 : m ≤ 3999) : RomanS ⟨(numeral m).toArray⟩ := by
  obtain ⟨_, a, b, c⟩ := rom_ok h1 h2
  exact ⟨c, by show 1 ≤ (numeral m).toArray.size; simpa using b, by show (numeral m).toArray.size ≤ 15; simpa using a⟩

theorem tmod_small (n : Int) (k : Int) (hk : 0 < k) : -k < n.tmod k ∧ n.tmod k < k := by
  refine ⟨?_, Int.tmod_lt_of_pos n hk⟩
  rcases Int.le_total 0 n with h | h
  · have := Int.tmod_nonneg k h; omega
  · have h1 := Int.tmod_lt_of_pos (-n) hk
    rw [Int.neg_tmod] at h1
    omega
theorem arab_in (n : Int) : ∃ m : Nat, 1 ≤ m ∧ m ≤ 3999 ∧ wrap64 ((wrap64 (n.tmod 3999 + 3999)).tmod 3999 + 1) = (m : Int) := by
  have h := tmod_small n 3999 (by omega)
  have e : wrap64 (n.tmod 3999 + 3999) = n.tmod 3999 + 3999 := by unfold wrap64; omega
  rw [e]
  have h2 := tmod_small (n.tmod 3999 + 3999) 3999 (by omega)
  have h3 := Int.tmod_nonneg 3999 (a := n.tmod 3999 + 3999) (by omega)
  refine ⟨((n.tmod 3999 + 3999).tmod 3999 + 1).toNat, ?_, ?_, ?_⟩
  · omega
  · omega
  · unfold wrap64; omega
/-- What ARABIC gives at the numeral. -/
theorem arabic_call (m : Nat) (h1 : 1 ≤ m) (h2 : m ≤ 3999) (b : Nat) (hb : b = fx m 0) (v : Value) (w : World) (hv : ArgsAt w 37 v [.text ⟨(numeral m).toArray⟩]) :
    Calls Tryz.prog 46 #[v] w fun e w' => e = .returned (Atom.num b).val ∧ Below w.heap.size w w' :=
  (arabic_impl _ _ v w hv (arabic_gives _ (romanS_numeral h1 h2))).mono fun _ _ ⟨_, he, hr, hbl⟩ => ⟨by rw [he, hr, hb]; show Ending.returned (Atom.num (fx (arabRes (numeral m)) 0)).val = _; rw [(rom_ok h1 h2).1], hbl⟩
theorem roman_call (m : Nat) (h2 : m ≤ 3999) (v : Value) (w : World) (ht : RomTab w) (hv : ArgsAt w 37 v [.num (fx m 0)]) :
    Calls Tryz.prog 48 #[v] w fun e w' => e = .returned (.agg #[.int .i64 2, .float .f64 0, .string ⟨(numeral m).toArray⟩, .slice none 0 0]) ∧ Below w.heap.size w w' :=
  (roman_impl _ _ v w hv RomTab ht romTab_stable (roman_gives m h2)).mono fun _ _ ⟨_, he, hr, hbl⟩ => ⟨by rw [he, hr]; rfl, hbl⟩

set_option maxRecDepth 20000 in
set_option maxHeartbeats 2000000 in
theorem law8_any (n : Int) (w : World) (ht : RomTab w) :
    Calls Tryz.prog 8 #[.int .i64 n] w fun e w' => e = .returned (.bool true) ∧ Below w.heap.size w w' := by
  have HT : Hid (RomTab w) := ht
  clear ht
  go_enter Tryz.func8, Tryz.ntmps8
  go_wp2_with fail
  obtain ⟨m, m1, m2, hm⟩ := arab_in n
  rw [hm]
  clear hm
  obtain ⟨nu, hnu⟩ : ∃ nu : ByteArray, nu = ⟨(numeral m).toArray⟩ := ⟨_, rfl⟩
  have HNU : Hid (nu = ⟨(numeral m).toArray⟩) := hnu
  obtain ⟨b, hb⟩ : ∃ b, b = fx (m : Int) 0 := ⟨_, rfl⟩
  have HBB : Hid (b = fx (m : Int) 0) := hb
  clear hnu hb
  refine (numeral_any m (by omega) w).mono ?_
  rintro e w1 ⟨rfl, hb1⟩
  rw [← HNU.out]
  have HB1 : Hid (Below w.heap.size w w1) := hb1
  clear hb1
  go_wp2_with fail
  refine (textArgs_any [nu] _ w1.heap.size 1 (fun k x hk => (Blk.new w1 9 [.string nu]).get k (by match k with | 0 => simpa using hk | j + 1 => simp at hk)) (by simp) (by simp)).mono ?_
  rintro e w2 ⟨va, rfl, ha, hb2⟩
  have HA2 : Hid (ArgsAt w2 37 va [.text nu]) := ⟨ha.base (Nat.zero_le _), by simp, by simp, by intro a h; simp at h; subst h; trivial⟩
  have HB2 : Hid (Below w.heap.size w w2) := (HB1.out.alloc HB1.out.size _).trans (hb2.mono (by have := HB1.out.size; simp; omega))
  clear ha hb2 HB1
  go_wp2_with fail
  refine (arabic_call m m1 m2 b HBB.out va w2 (by rw [← HNU.out]; exact HA2.out)).mono ?_
  rintro e w3 ⟨rfl, hb3⟩
  have HB3 : Hid (Below w.heap.size w w3) := HB2.out.trans (hb3.mono HB2.out.size)
  clear hb3 HB2 HA2
  go_wp2_with fail
  refine (int_spec m (by omega) (by omega) w3).mono ?_
  rintro e w4 ⟨rfl, hb4⟩
  have HB4 : Hid (Below w.heap.size w w4) := HB3.out.trans (hb4.mono HB3.out.size)
  clear hb4 HB3
  go_wp2_with fail
  refine (same_int m (by omega) (by omega) b HBB.out w4).mono ?_
  rintro e w5 ⟨rfl, hb5⟩
  have HB5 : Hid (Below w.heap.size w w5) := HB4.out.trans (hb5.mono HB4.out.size)
  clear hb5 HB4
  go_wp2_with fail
  refine (numArgs_any [(m : Int)] (by intro x hx; simp at hx; subst hx; omega) _ w5.heap.size 1 (fun k x hk => (Blk.new w5 3 [.int .i64 m]).get k (by match k with | 0 => simpa using hk | j + 1 => simp at hk)) (by simp) (by simp)).mono ?_
  rintro e w6 ⟨vb, rfl, ha, hb6⟩
  have HA6 : Hid (ArgsAt w6 37 vb [.num (fx m 0)]) := ⟨ha.base (Nat.zero_le _), by simp, by simp, by intro a h; simp at h; subst h; exact good_fx (by omega)⟩
  have HB6 : Hid (Below w.heap.size w w6) := (HB5.out.alloc HB5.out.size _).trans (hb6.mono (by have := HB5.out.size; simp; omega))
  clear ha hb6 HB5
  go_wp2_with fail
  refine (roman_call m m2 vb w6 (HT.out.below HB6.out) HA6.out).mono ?_
  rintro e w7 ⟨rfl, hb7⟩
  rw [← HNU.out]
  have HB7 : Hid (Below w.heap.size w w7) := HB6.out.trans (hb7.mono HB6.out.size)
  clear hb7 HB6 HA6
  go_wp2_with fail
  have HA8 : Hid (ArgsAt (w7.alloc (.cells ([Atom.text nu].map Atom.cells).flatten.toArray 37)) 37 (.slice (some ⟨w7.heap.size, 0, none⟩) 1 1) [.text nu]) := ⟨arab_ofBlk (xs := [Atom.text nu].map Atom.cells) (Blk.new w7 37 _) (by intro y hy; obtain ⟨a, _, rfl⟩ := List.mem_map.1 hy; exact a.clen) (Nat.zero_le _) (by simp [maxLen]), by simp, by simp, by intro a h; simp at h; subst h; trivial⟩
  refine (arabic_call m m1 m2 b HBB.out _ _ (by rw [← HNU.out]; exact HA8.out)).mono ?_
  rintro e w8 ⟨rfl, hb8⟩
  have HB8 : Hid (Below w.heap.size w w8) := (HB7.out.alloc HB7.out.size _).trans (hb8.mono (by have := HB7.out.size; simp; omega))
  clear hb8 HB7 HA8
  go_wp2_with fail
  refine (int_spec m (by omega) (by omega) w8).mono ?_
  rintro e w9 ⟨rfl, hb9⟩
  have HB9 : Hid (Below w.heap.size w w9) := HB8.out.trans (hb9.mono HB8.out.size)
  clear hb9 HB8
  go_wp2_with fail
  refine (same_int m (by omega) (by omega) b HBB.out w9).mono ?_
  rintro e w10 ⟨rfl, hb10⟩
  have HB10 : Hid (Below w.heap.size w w10) := HB9.out.trans (hb10.mono HB9.out.size)
  clear hb10 HB9
  go_wp2
  go_ret
  exact ⟨rfl, HB10.out⟩
theorem law8_all (n : Int) (w : World) (_ : (Lit.int .i64 n).wf = true) (ht : RomTab w) :
    Calls Tryz.prog 8 #[.int .i64 n] w fun e w' => e = .returned (.bool true) ∧ Below w.heap.size w w' := law8_any n w ht
end Go.Proofs.YtoebgbojpkflnaaGreatDoor
