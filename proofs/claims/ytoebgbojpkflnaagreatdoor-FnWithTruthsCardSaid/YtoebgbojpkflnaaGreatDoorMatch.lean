/- How a text is looked for in another one: zzIndex, zzContainsAny, countUTF16String, matchPattern. Conditions: at most 1000 bytes of ASCII, no wildcards. -/
import Derived.Test.YtoebgbojpkflnaaGreatDoorPlain
namespace Go.Proofs.YtoebgbojpkflnaaGreatDoor
open Go Go.RowKit

/-- Only bytes of ASCII. -/
def AsciiS (s : ByteArray) : Prop := ∀ i (h : i < s.size), (s[i]'h).toNat < 128
/-- No byte of s is a star or a question mark. -/
def NoWild (s : ByteArray) : Prop := ∀ i (h : i < s.size), (s[i]'h).toNat ≠ 42 ∧ (s[i]'h).toNat ≠ 63

/-- sub stands in s at k. -/
def occ (s sub : ByteArray) (k : Nat) : Bool := decide (k + sub.size ≤ s.size) && ((s.extract k (k + sub.size)).toList == sub.toList)

set_option maxRecDepth 20000 in
set_option maxHeartbeats 1000000 in
theorem runeLen_ascii (r : Int) (h0 : 0 ≤ r) (h1 : r < 128) (w : World) :
    Calls Tryz.prog 165 #[.int .i32 r] w fun e w' => e = .returned (.int .i64 1) ∧ w = w' := by
  go_enter Tryz.func165, Tryz.ntmps165
  go_wp2
  all_goals go_ret
  all_goals exact ⟨rfl, rfl⟩

theorem occ_false_size {s sub : ByteArray} {k : Nat} (h : (s.size : Int) < k + sub.size) : occ s sub k = false := by
  unfold occ; rw [decide_eq_false (by omega)]; rfl
theorem occ_of {s sub : ByteArray} {k : Nat} {b : Bool} (h : (k : Int) + sub.size ≤ s.size) (he : ((s.extract k (k + sub.size)).toList == sub.toList) = b) : occ s sub k = b := by
  unfold occ; rw [decide_eq_true (by omega), he]; rfl

theorem ret_int64 {a b : Int} (h : a = b) : Ending.returned (Value.int .i64 a) = .returned (.int .i64 b) := by rw [h]

set_option maxRecDepth 20000 in
set_option maxHeartbeats 1000000 in
theorem zzIndex_any (s sub : ByteArray) (hs : s.size ≤ 1000) (hb : sub.size ≤ 1000) (w : World) :
    Calls Tryz.prog 192 #[.string s, .string sub] w fun e w' => (∃ r : Int, e = .returned (.int .i64 r) ∧ (r == 0) = occ s sub 0) ∧ w = w' := by
  go_enter Tryz.func192, Tryz.ntmps192
  go_wp2
  go_loop [5] (fun i => ∃ k : Nat, k ≤ s.size + 1 ∧ i = .int .i64 k ∧ (1 ≤ k → occ s sub 0 = false)) (fun i => s.size + 1 - (intOf i).toNat)
  case atStart => exact ⟨0, by omega, rfl, fun h => by omega⟩
  case round =>
    obtain ⟨k, hk, rfl, hh⟩ := hrel
    have HH : Hid (1 ≤ k → occ s sub 0 = false) := hh
    clear hh
    go_wp2
    · have h1 : ((s.extract k (k + sub.size)).toList == sub.toList) = true := by assumption
      have h2 : (k : Int) + sub.size ≤ s.size := by assumption
      go_ret
      refine ⟨⟨k, rfl, ?_⟩, rfl⟩
      by_cases h0 : k = 0
      · subst h0; rw [occ_of h2 h1]; rfl
      · rw [HH.out (by omega)]; simp; omega
    · have h1 : ((s.extract k (k + sub.size)).toList == sub.toList) = false := by assumption
      have h2 : (k : Int) + sub.size ≤ s.size := by assumption
      refine ⟨⟨k + 1, by omega, by go_num, fun _ => ?_⟩, by simp [intOf]; omega⟩
      by_cases h0 : k = 0
      · subst h0; exact occ_of h2 h1
      · exact HH.out (by omega)
    · have h2 : (s.size : Int) < k + sub.size := by assumption
      go_ret
      refine ⟨⟨-1, rfl, ?_⟩, rfl⟩
      by_cases h0 : k = 0
      · subst h0; rw [occ_false_size h2]; rfl
      · rw [HH.out (by omega)]; rfl

set_option maxRecDepth 20000 in
set_option maxHeartbeats 1000000 in
theorem noWild_any (s : ByteArray) (hs : s.size ≤ 1000) (hw : NoWild s) (w : World) :
    Calls Tryz.prog 190 #[.string s, .string ⟨#[42, 63]⟩] w fun e w' => e = .returned (.bool false) ∧ Below w.heap.size w w' := by
  go_enter Tryz.func190, Tryz.ntmps190
  go_wp2
  go_loopw [5] (fun i wr => ∃ k : Nat, k ≤ s.size ∧ i = .int .i64 k ∧ Below w.heap.size w wr) (fun i _ => s.size - (intOf i).toNat)
  case atStart => exact ⟨0, by omega, rfl, Below.refl _ _⟩
  case round =>
    obtain ⟨k, hk, rfl, hb⟩ := hrel
    by_cases hlt : k < s.size
    · obtain ⟨h1, h2⟩ := hw k hlt
      have g1 : (((s[k]'hlt).toNat : Int) == ((((⟨#[42, 63]⟩ : ByteArray)[0]'(by decide)).toNat : Nat) : Int)) = false := by
        rw [show (((⟨#[42, 63]⟩ : ByteArray)[0]'(by decide)).toNat : Nat) = 42 from rfl]; simp; omega
      have g2 : (((s[k]'hlt).toNat : Int) == ((((⟨#[42, 63]⟩ : ByteArray)[1]'(by decide)).toNat : Nat) : Int)) = false := by
        rw [show (((⟨#[42, 63]⟩ : ByteArray)[1]'(by decide)).toNat : Nat) = 63 from rfl]; simp; omega
      have HB : Hid (Below w.heap.size w wr) := hb
      clear hb h1 h2
      go_wp2
      refine wp_loop_rounds 3 ?_
      rw [rounds_succ]
      go_wp2
      go_quiet (fail)
      go_wp2
      rw [rounds_succ]
      go_wp2
      go_quiet (fail)
      go_wp2
      rw [rounds_succ]
      go_wp2
      exact ⟨⟨k + 1, by omega, by go_num, below_drewN' HB.out _⟩, by simp [intOf]; omega⟩
    · go_wp2
      go_ret
      exact ⟨rfl, hb⟩

set_option maxRecDepth 20000 in
set_option maxHeartbeats 1000000 in
theorem count_ascii (s : ByteArray) (hs : s.size ≤ 1000) (ha : AsciiS s) (w : World) :
    Calls Tryz.prog 133 #[.string s] w fun e w' => e = .returned (.int .i64 s.size) ∧ Below w.heap.size w w' := by
  go_enter Tryz.func133, Tryz.ntmps133
  go_wp2
  go_loopw [3] (fun n w' => ∃ pos : Nat, pos ≤ s.size ∧ w' = w.iter s pos ∧ n = .int .i64 pos) (fun _ w' => s.size - w'.iterPos w.heap.size)
  case atStart => exact ⟨0, by omega, rfl, rfl⟩
  case round =>
    obtain ⟨pos, hpos, rfl, rfl⟩ := hrel
    by_cases hp : pos < s.size
    · have h128 := ha pos hp
      have hnx : ∀ ty, (Instr.next (.pointer (some ⟨w.heap.size, 0, none⟩)) true ty).run Tryz.prog (w.iter s pos) = _ := fun ty => run_next_ascii w s pos ty hp h128
      go_wp2_with (go_at_call 165; refine (runeLen_ascii _ (by omega) (by omega) _).mono ?_; rintro e w1 ⟨rfl, rfl⟩)
      go_roundw
      case rel => exact ⟨pos + 1, by omega, rfl, by go_num⟩
      case measure => simp; omega
    · have hnx : ∀ ty, (Instr.next (.pointer (some ⟨w.heap.size, 0, none⟩)) true ty).run Tryz.prog (w.iter s pos) = _ := fun ty => run_next_end w s pos ty hp
      have hpe : pos = s.size := by omega
      have HP : Hid (pos = s.size) := hpe
      clear hpe
      go_wp2
      go_ret
      exact ⟨ret_int64 (by rw [HP.out]), (Below.refl _ _).alloc (Nat.le_refl _) _⟩

/-- k is the first place from a on at which sub stands in s, or the end of s. -/
def First (s sub : ByteArray) (a k : Nat) : Prop := k ≤ s.size ∧ (∀ j, a ≤ j → j < k → occ s sub j = false) ∧ (k < s.size → a ≤ k ∧ occ s sub k = true)

theorem occ_from (s sub : ByteArray) (p : Nat) (hp : p ≤ s.size) : occ (s.extract p s.size) sub 0 = occ s sub p := by
  unfold occ
  by_cases h : p + sub.size ≤ s.size
  · rw [decide_eq_true h, decide_eq_true (by simp [ByteArray.size_extract]; omega)]
    simp only [Nat.zero_add, ByteArray.extract_extract, Nat.add_zero]
    rw [Nat.min_eq_left h]
  · rw [decide_eq_false h, decide_eq_false (by simp [ByteArray.size_extract]; omega)]; rfl

/-- What matchPattern hands back. -/
def Matched (s sub : ByteArray) (a : Nat) (w : World) (e : Ending) (w' : World) : Prop :=
  ∃ k : Nat, e = .returned (.tuple #[.int .i64 (k + 1), .bool (decide (k < s.size))]) ∧ First s sub a k ∧ Below w.heap.size w w'

set_option maxRecDepth 20000 in
set_option maxHeartbeats 1000000 in
theorem match_any (s sub : ByteArray) (a : Nat) (hs : s.size ≤ 1000) (hb : sub.size ≤ 1000) (ha : AsciiS s) (hw : NoWild sub) (d : Bool) (_hal : a ≤ 1000000) (w : World) :
    Calls Tryz.prog 164 #[.string sub, .string s, .bool d, .int .i64 (a + 1)] w (Matched s sub a w) := by
  go_enter Tryz.func164, Tryz.ntmps164
  go_wp2_with (go_at_call 190; refine (noWild_any sub hb hw _).mono ?_; rintro e w1 ⟨rfl, hb1⟩)
  go_loopw [11] (fun n w' => ∃ pos : Nat, pos ≤ s.size ∧ w' = w1.iter s pos ∧ n = .int .i64 (pos + 1) ∧ ∀ j, a ≤ j → j < pos → occ s sub j = false) (fun _ w' => s.size - w'.iterPos w1.heap.size)
  case atStart => exact ⟨0, by omega, rfl, rfl, fun j _ h => by omega⟩
  case round =>
    obtain ⟨pos, hpos, rfl, rfl, hno⟩ := hrel
    have HN : Hid (∀ j, a ≤ j → j < pos → occ s sub j = false) := hno
    clear hno
    by_cases hp : pos < s.size
    · have hnx : ∀ ty, (Instr.next (.pointer (some ⟨w1.heap.size, 0, none⟩)) true ty).run Tryz.prog (w1.iter s pos) = _ := fun ty => run_next_ascii w1 s pos ty hp (ha pos hp)
      have hof : occ (s.extract pos s.size) sub 0 = occ s sub pos := occ_from s sub pos (by omega)
      have HOF : Hid (occ (s.extract pos s.size) sub 0 = occ s sub pos) := hof
      clear hof
      go_wp2_with fail
      · have hlt : (pos : Int) < a := by omega
        exact ⟨⟨pos + 1, by omega, rfl, by go_num, fun j h1 h2 => by omega⟩, by simp; omega⟩
      · have hge : (a : Int) ≤ pos := by omega
        refine (zzIndex_any _ _ (by simp [ByteArray.size_extract]; omega) hb _).mono ?_
        rintro e w2 ⟨⟨r, rfl, hr⟩, rfl⟩
        rw [HOF.out] at hr
        cases ho : occ s sub pos
        · rw [ho] at hr
          have HO : Hid (occ s sub pos = false) := ho
          clear ho
          go_wp2_with fail
          refine ⟨⟨pos + 1, by omega, rfl, by go_num, fun j h1 h2 => ?_⟩, by simp; omega⟩
          by_cases hj : j = pos
          · subst hj; exact HO.out
          · exact HN.out j h1 (by omega)
        · rw [ho] at hr
          have HO : Hid (occ s sub pos = true) := ho
          clear ho
          have hne : ((s.size : Int) != (pos : Int)) = true := by simp; omega
          go_wp2_with (go_at_call 133; refine (count_ascii s hs ha _).mono ?_; rintro e w3 ⟨rfl, hb3⟩)
          go_ret2
          exact ⟨pos, by rw [decide_eq_true hp]; rfl, ⟨by omega, fun j h1 h2 => HN.out j h1 h2, fun _ => ⟨by omega, HO.out⟩⟩, (hb1.alloc hb1.size (.stringIter s (pos + 1))).trans (hb3.mono (by have := hb1.size; simp [World.iter]; omega))⟩
    · have hnx : ∀ ty, (Instr.next (.pointer (some ⟨w1.heap.size, 0, none⟩)) true ty).run Tryz.prog (w1.iter s pos) = _ := fun ty => run_next_end w1 s pos ty hp
      have hpe : pos = s.size := by omega
      have hne : ((s.size : Int) != (pos : Int)) = false := by simp; omega
      have HPE : Hid (pos = s.size) := hpe
      clear hpe
      go_wp2_with (go_at_call 133; refine (count_ascii s hs ha _).mono ?_; rintro e w3 ⟨rfl, hb3⟩)
      go_ret2
      exact ⟨pos, by rw [decide_eq_false hp]; rfl, ⟨by rw [HPE.out]; exact Nat.le_refl _, fun j h1 h2 => HN.out j h1 h2, fun h => absurd h hp⟩, (hb1.alloc hb1.size (.stringIter s pos)).trans (hb3.mono (by have := hb1.size; simp [World.iter]; omega))⟩
end Go.Proofs.YtoebgbojpkflnaaGreatDoor
