/- Plain: the numbers of a table's cells; their greatest, least, sum; what the spec's Frac makes of a quotient. -/
import Derived.Test.YtoebgbojpkflnaaGreatDoorOf
namespace Go.Proofs.YtoebgbojpkflnaaGreatDoor
open Go Go.RowKit
def Cel.num? : Cel → Option Nat
  | .int n => some n
  | .bool x => some (if x then 1 else 0)
  | .gap => none
/-- What AVERAGEA and its kin take together. -/
def nums (cs : List Cel) : List Nat := cs.filterMap Cel.num?
theorem nums_snoc (cs : List Cel) (c : Cel) : nums (cs ++ [c]) = nums cs ++ c.num?.toList := by
  unfold nums; rw [List.filterMap_append]; cases h : c.num? <;> simp [h]
theorem nums_le {cs : List Cel} (h : ∀ x ∈ cs, x.Ok) : ∀ n ∈ nums cs, n ≤ 100000 := by
  intro n hn
  obtain ⟨c, hc, he⟩ := List.mem_filterMap.1 hn
  have := h c hc
  rcases c with m | x | _
  · simp [Cel.num?] at he; subst he; exact this
  · cases x <;> simp [Cel.num?] at he <;> omega
  · simp [Cel.num?] at he
theorem nums_len (cs : List Cel) : (nums cs).length ≤ cs.length := List.length_filterMap_le _ _
def IsMax (l : List Nat) (m : Nat) : Prop := m ∈ l ∧ ∀ x ∈ l, x ≤ m
def IsMin (l : List Nat) (m : Nat) : Prop := m ∈ l ∧ ∀ x ∈ l, m ≤ x
theorem IsMax.eq {l : List Nat} {m k : Nat} (h : IsMax l m) (h' : IsMax l k) : m = k := Nat.le_antisymm (h'.2 m h.1) (h.2 k h'.1)
theorem IsMin.eq {l : List Nat} {m k : Nat} (h : IsMin l m) (h' : IsMin l k) : m = k := Nat.le_antisymm (h.2 k h'.1) (h'.2 m h.1)
/-- The greatest so far: none yet, or a number. -/
def maxo : Option Nat → Nat → Option Nat
  | none, n => some n
  | some m, n => some (if m < n then n else m)
def mino : Option Nat → Nat → Option Nat
  | none, n => some n
  | some m, n => some (if n < m then n else m)
def maxOf (l : List Nat) : Option Nat := l.foldl maxo none
def minOf (l : List Nat) : Option Nat := l.foldl mino none
theorem maxOf_snoc (l : List Nat) (n : Nat) : maxOf (l ++ [n]) = maxo (maxOf l) n := by unfold maxOf; rw [List.foldl_append]; rfl
theorem minOf_snoc (l : List Nat) (n : Nat) : minOf (l ++ [n]) = mino (minOf l) n := by unfold minOf; rw [List.foldl_append]; rfl
theorem snoc_ind {α : Type} {P : List α → Prop} (h0 : P []) (h1 : ∀ l x, P l → P (l ++ [x])) (l : List α) : P l := by
  have : ∀ k, k ≤ l.length → P (l.take k) := by
    intro k
    induction k with
    | zero => intro _; simpa using h0
    | succ k ih =>
      intro hk
      have e := List.take_succ_eq_append_getElem (l := l) (i := k) (by omega)
      rw [e]
      exact h1 _ _ (ih (by omega))
  have h := this l.length (Nat.le_refl _)
  rwa [List.take_length] at h
theorem maxOf_spec (l : List Nat) : (l = [] ∧ maxOf l = none) ∨ ∃ m, maxOf l = some m ∧ IsMax l m := by
  refine snoc_ind (P := fun l => (l = [] ∧ maxOf l = none) ∨ ∃ m, maxOf l = some m ∧ IsMax l m) (.inl ⟨rfl, rfl⟩) ?_ l
  intro l x ih
  right
  rw [maxOf_snoc]
  rcases ih with ⟨rfl, h⟩ | ⟨m, h, h1, h2⟩
  · rw [h]; exact ⟨x, rfl, by simp, by simp⟩
  · rw [h]
    refine ⟨_, rfl, ?_, ?_⟩
    · split
      · simp
      · exact List.mem_append_left _ h1
    · intro y hy
      rcases List.mem_append.1 hy with hy | hy
      · have := h2 y hy
        split <;> omega
      · simp at hy; subst hy
        split <;> omega
theorem minOf_spec (l : List Nat) : (l = [] ∧ minOf l = none) ∨ ∃ m, minOf l = some m ∧ IsMin l m := by
  refine snoc_ind (P := fun l => (l = [] ∧ minOf l = none) ∨ ∃ m, minOf l = some m ∧ IsMin l m) (.inl ⟨rfl, rfl⟩) ?_ l
  intro l x ih
  right
  rw [minOf_snoc]
  rcases ih with ⟨rfl, h⟩ | ⟨m, h, h1, h2⟩
  · rw [h]; exact ⟨x, rfl, by simp, by simp⟩
  · rw [h]
    refine ⟨_, rfl, ?_, ?_⟩
    · split
      · simp
      · exact List.mem_append_left _ h1
    · intro y hy
      rcases List.mem_append.1 hy with hy | hy
      · have := h2 y hy
        split <;> omega
      · simp at hy; subst hy
        split <;> omega
/-- Rising. -/
def Rises (l : List Nat) : Prop := ∀ i j a b : Nat, i ≤ j → l[i]? = some a → l[j]? = some b → a ≤ b
theorem rises_last {l : List Nat} {m : Nat} (h : Rises l) (hm : l[l.length - 1]? = some m) : IsMax l m := by
  refine ⟨List.mem_of_getElem? hm, fun x hx => ?_⟩
  obtain ⟨i, hi, rfl⟩ := List.mem_iff_getElem.1 hx
  exact h i _ _ _ (by omega) (List.getElem?_eq_getElem hi) hm
theorem rises_first {l : List Nat} {m : Nat} (h : Rises l) (hm : l[0]? = some m) : IsMin l m := by
  refine ⟨List.mem_of_getElem? hm, fun x hx => ?_⟩
  obtain ⟨i, hi, rfl⟩ := List.mem_iff_getElem.1 hx
  exact h 0 i _ _ (by omega) hm (List.getElem?_eq_getElem hi)
/-- x laid in at the place k: what is ahead is not greater, what is behind is greater. -/
theorem rises_insert {l : List Nat} {x k : Nat} (h : Rises l) (hk : k ≤ l.length) (h1 : ∀ i a : Nat, i < k → l[i]? = some a → a ≤ x) (h2 : ∀ a : Nat, l[k]? = some a → x < a) : Rises (l.take k ++ [x] ++ l.drop k) := by
  have hl : (l.take k).length = k := by rw [List.length_take]; omega
  have g : ∀ i a : Nat, (l.take k ++ [x] ++ l.drop k)[i]? = some a → (i < k ∧ l[i]? = some a) ∨ (i = k ∧ a = x) ∨ (k < i ∧ l[i - 1]? = some a) := by
    intro i a hi
    rw [List.append_assoc] at hi
    by_cases c1 : i < k
    · rw [List.getElem?_append_left (by omega), List.getElem?_take_of_lt c1] at hi
      exact .inl ⟨c1, hi⟩
    · rw [List.getElem?_append_right (by omega), hl] at hi
      by_cases c2 : i = k
      · subst c2; simp at hi; exact .inr (.inl ⟨rfl, hi.symm⟩)
      · refine .inr (.inr ⟨by omega, ?_⟩)
        rw [show i - k = (i - k - 1) + 1 by omega] at hi
        simp only [List.singleton_append, List.getElem?_cons_succ, List.getElem?_drop] at hi
        rw [← hi]; congr 1; omega
  have hx : ∀ j b : Nat, k ≤ j → l[j]? = some b → x ≤ b := by
    intro j b hj hb
    have hjl := (List.getElem?_eq_some_iff.1 hb).1
    have e : l[k]? = some l[k] := List.getElem?_eq_getElem (by omega)
    have := h2 _ e
    have := h k j _ _ hj e hb
    omega
  intro i j a b hij ha hb
  have ga := g i a ha
  have gb := g j b hb
  clear ha hb g
  rcases ga with ⟨i1, ha⟩ | ⟨i1, ha⟩ | ⟨i1, ha⟩ <;> rcases gb with ⟨j1, hb⟩ | ⟨j1, hb⟩ | ⟨j1, hb⟩
  · exact h i j a b hij ha hb
  · subst hb; exact h1 i a i1 ha
  · exact h i (j - 1) a b (by omega) ha hb
  · omega
  · omega
  · subst ha; exact hx _ b (by omega) hb
  · omega
  · omega
  · exact h (i - 1) (j - 1) a b (by omega) ha hb
theorem mem_insert {l : List Nat} {x k : Nat} (y : Nat) : y ∈ l.take k ++ [x] ++ l.drop k ↔ y ∈ l ∨ y = x := by
  have e : y ∈ l ↔ y ∈ l.take k ∨ y ∈ l.drop k := by rw [← List.mem_append, List.take_append_drop]
  simp only [List.mem_append, List.mem_singleton, e]
  constructor
  · rintro ((h | h) | h)
    · exact .inl (.inl h)
    · exact .inr h
    · exact .inl (.inr h)
  · rintro ((h | h) | h)
    · exact .inl (.inl h)
    · exact .inr h
    · exact .inl (.inr h)
theorem sum_snoc (l : List Nat) (n : Nat) : (l ++ [n]).sum = l.sum + n := by rw [List.sum_append]; simp
theorem sum_le {l : List Nat} {M : Nat} (h : ∀ x ∈ l, x ≤ M) : l.sum ≤ l.length * M := by
  induction l with
  | nil => simp
  | cons a t ih =>
    have h1 := h a (by simp)
    have h2 := ih fun x hx => h x (by simp [hx])
    simp only [List.sum_cons, List.length_cons, Nat.succ_mul]
    omega
theorem take_sum_le {l : List Nat} {M : Nat} (h : ∀ x ∈ l, x ≤ M) (k : Nat) (hl : l.length ≤ 60) : (l.take k).sum ≤ 60 * M := by
  have h1 := sum_le (l := l.take k) (M := M) fun x hx => h x (List.mem_of_mem_take hx)
  have h2 : (l.take k).length ≤ 60 := by have := List.length_take_le k l; rw [List.length_take]; omega
  exact Nat.le_trans h1 (Nat.mul_le_mul_right _ h2)
/-- The greatest and least floats against whole numbers from 0 on. -/
theorem order_negmax {n : Nat} (h : n ≤ 100000000) : FloatKind.f64.format.order (fx (n : Int) 0) 18442240474082181119 = some .gt := by
  obtain ⟨m, i, hr, hi1, hi2, hm⟩ := reads_fx (n : Int) 0 (by omega) (by omega) (by omega)
  show Ieee.double.order _ _ = _
  unfold Ieee.Format.order
  rw [hr, show Ieee.double.read 18442240474082181119 = .number true 9007199254740991 971 by decide +kernel]
  simp only [Ieee.Datum.order, Option.some.injEq]
  rw [hm, signed_eq]
  have e2 : Ieee.signed true 9007199254740991 (971 - min i 971).toNat = -((9007199254740991 * 2 ^ (971 - min i 971).toNat : Nat) : Int) := by
    unfold Ieee.signed; rw [Nat.shiftLeft_eq]; rfl
  rw [e2]
  have h1 : 0 ≤ (n : Int) * 2 ^ ((0 - i).toNat + (i - min i 971).toNat) := Int.mul_nonneg (by omega) (Int.le_of_lt (Int.pow_pos (by omega)))
  have h2 : 0 < 9007199254740991 * 2 ^ (971 - min i 971).toNat := Nat.mul_pos (by omega) (Nat.two_pow_pos _)
  exact Int.compare_eq_gt.2 (by omega)
theorem order_posmax {n : Nat} (h : n ≤ 100000000) : FloatKind.f64.format.order (fx (n : Int) 0) 9218868437227405311 = some .lt := by
  obtain ⟨m, i, hr, hi1, hi2, hm⟩ := reads_fx (n : Int) 0 (by omega) (by omega) (by omega)
  show Ieee.double.order _ _ = _
  unfold Ieee.Format.order
  rw [hr, show Ieee.double.read 9218868437227405311 = .number false 9007199254740991 971 by decide +kernel]
  simp only [Ieee.Datum.order, Option.some.injEq]
  rw [hm, signed_eq]
  have e2 : Ieee.signed false 9007199254740991 (971 - min i 971).toNat = ((9007199254740991 * 2 ^ (971 - min i 971).toNat : Nat) : Int) := by
    unfold Ieee.signed; rw [Nat.shiftLeft_eq]; rfl
  rw [e2, show (0 - i).toNat + (i - min i 971).toNat = (0 - i).toNat by omega, show (971 - min i 971).toNat = (0 - i).toNat + 971 by omega]
  generalize (0 - i).toNat = k
  obtain ⟨e, he⟩ : ∃ e : Nat, e = 971 := ⟨_, rfl⟩
  rw [← he]
  clear he
  have h1 : n * 2 ^ k < 9007199254740991 * 2 ^ (k + e) := by
    rw [Nat.pow_add]
    have : 2 ^ k ≤ 2 ^ k * 2 ^ e := Nat.le_mul_of_pos_right _ (Nat.two_pow_pos _)
    calc n * 2 ^ k ≤ 100000000 * 2 ^ k := Nat.mul_le_mul_right _ h
      _ < 9007199254740991 * 2 ^ k := Nat.mul_lt_mul_of_pos_right (by decide) (Nat.two_pow_pos _)
      _ ≤ _ := Nat.mul_le_mul_left _ this
  have e3 : (n : Int) * 2 ^ k = ((n * 2 ^ k : Nat) : Int) := by simp
  rw [e3]
  exact Int.compare_eq_lt.2 (by omega)
end Go.Proofs.YtoebgbojpkflnaaGreatDoor
