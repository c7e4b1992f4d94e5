/- Roman numerals in plain words: the numeral of a number from 1 to 3999, and that reading it from the right gives the number back. No program in sight. -/
import Derived.Calls
namespace Go.Proofs.YtoebgbojpkflnaaGreatDoor
/-- The values, from the greatest on, each with its sign. -/
def romVals : List Nat := [1000, 900, 500, 400, 100, 90, 50, 40, 10, 9, 5, 4, 1]
def romSigns : List (List UInt8) := [[77], [67, 77], [68], [67, 68], [67], [88, 67], [76], [88, 76], [88], [73, 88], [86], [73, 86], [73]]
def romVal (k : Nat) : Nat := romVals.getD k 1
def romSign (k : Nat) : List UInt8 := romSigns.getD k []
/-- What is left, and what has been written, before value k. -/
def romLeft (n : Nat) : Nat → Nat
  | 0 => n
  | k + 1 => romLeft n k % romVal k
def romTimes (j : Nat) (s : List UInt8) : List UInt8 := (List.replicate j s).flatten
def romText (n : Nat) : Nat → List UInt8
  | 0 => []
  | k + 1 => romText n k ++ romTimes (romLeft n k / romVal k) (romSign k)
/-- The numeral. -/
def numeral (n : Nat) : List UInt8 := romText n 13
theorem romTimes_succ (j : Nat) (s : List UInt8) : romTimes (j + 1) s = romTimes j s ++ s := by
  unfold romTimes
  rw [List.replicate_succ', List.flatten_append]
  simp
theorem romVal_pos (k : Nat) : 0 < romVal k := by
  unfold romVal
  by_cases h : k < 13
  · have : ∀ k, k < 13 → 0 < romVals.getD k 1 := by decide
    exact this k h
  · show 0 < (romVals[k]?).getD 1
    rw [List.getElem?_eq_none (by simp [romVals]; omega)]; exact Nat.one_pos

/-- The value of a sign's letter; 0 of any other byte. -/
def arabVal (b : UInt8) : Int := if b = 73 then 1 else if b = 86 then 5 else if b = 88 then 10 else if b = 76 then 50 else if b = 67 then 100 else if b = 68 then 500 else if b = 77 then 1000 else 0
/-- One letter, from the right: the number, what is to be taken off, the value before. -/
def arabStep (t : Int × Int × Int) (b : UInt8) : Int × Int × Int :=
  if t.2.2 ≤ arabVal b then (t.1 + (arabVal b - t.2.1), 0, arabVal b) else (t.1, t.2.1 + arabVal b, t.2.2)
def arabTo (l : List UInt8) (k : Nat) : Int × Int × Int := (l.reverse.take k).foldl arabStep (0, 0, -1)
def arabRes (l : List UInt8) : Int := (arabTo l l.length).1 - (arabTo l l.length).2.1
def isRoman (b : UInt8) : Bool := b == 73 || b == 86 || b == 88 || b == 76 || b == 67 || b == 68 || b == 77
def romOk (n : Nat) : Bool := decide (arabRes (numeral n) = (n : Int)) && decide ((numeral n).length ≤ 15) && decide (1 ≤ (numeral n).length) && (numeral n).all isRoman
def upTo (p : Nat → Bool) : Nat → Bool
  | 0 => true
  | n + 1 => p n && upTo p n
theorem upTo_get {p : Nat → Bool} : ∀ {n : Nat}, upTo p n = true → ∀ k, k < n → p k = true
  | n + 1, h, k, hk => by
    simp only [upTo, Bool.and_eq_true] at h
    by_cases e : k = n
    · subst e; exact h.1
    · exact upTo_get h.2 k (by omega)
theorem rom_all : upTo (fun n => romOk (n + 1)) 3999 = true := by decide +kernel
theorem rom_ok {n : Nat} (h1 : 1 ≤ n) (h2 : n ≤ 3999) : arabRes (numeral n) = (n : Int) ∧ (numeral n).length ≤ 15 ∧ 1 ≤ (numeral n).length ∧ (numeral n).all isRoman = true := by
  have h := upTo_get rom_all (n - 1) (by omega)
  rw [show n - 1 + 1 = n by omega] at h
  simpa [romOk, Bool.and_eq_true, and_assoc] using h
theorem arabTo_succ (l : List UInt8) (k : Nat) (b : UInt8) (h : l.reverse[k]? = some b) : arabTo l (k + 1) = arabStep (arabTo l k) b := by
  unfold arabTo
  rw [List.take_succ_eq_append_getElem (List.getElem?_eq_some_iff.1 h).1, List.foldl_append]
  obtain ⟨_, h2⟩ := List.getElem?_eq_some_iff.1 h
  rw [h2]; rfl
end Go.Proofs.YtoebgbojpkflnaaGreatDoor
