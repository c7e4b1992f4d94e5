/- Upper and lower case of ASCII text; occurrences without regard to case. -/
import Derived.Test.YtoebgbojpkflnaaGreatDoorUpper
import Derived.Test.YtoebgbojpkflnaaGreatDoorLives
namespace Go.Proofs.YtoebgbojpkflnaaGreatDoor
open Go Go.RowKit

def upS (s : ByteArray) : ByteArray := ⟨(Lib.toUpperA s.data.toList).toArray⟩
def lowS (s : ByteArray) : ByteArray := ⟨(Lib.toLowerA s.data.toList).toArray⟩
theorem bytes_get {s : ByteArray} {j : Nat} {b : UInt8} (h : s.data.toList[j]? = some b) : ∃ hj : j < s.size, s[j]'hj = b := by
  obtain ⟨hj, he⟩ := List.getElem?_eq_some_iff.1 h
  exact ⟨by simpa using hj, by show s.data[j]'_ = b; simpa using he⟩
theorem AsciiS.bytes {s : ByteArray} (h : AsciiS s) : ∀ (j : Nat) (b : UInt8), s.data.toList[j]? = some b → b.toNat < 128 := by
  intro j b hb
  obtain ⟨hj, rfl⟩ := bytes_get hb
  exact h j hj
theorem upper_any (s : ByteArray) (hs : s.size ≤ 1000) (ha : AsciiS s) (w : World) :
    Calls Tryz.prog 128 #[.string s] w fun e w' => e = .returned (.string (upS s)) ∧ Below w.heap.size w w' := Tryz.strings_ToUpper_ascii s w (by omega) ha.bytes
theorem lower_any (s : ByteArray) (hs : s.size ≤ 1000) (ha : AsciiS s) (w : World) :
    Calls Tryz.prog 137 #[.string s] w fun e w' => e = .returned (.string (lowS s)) ∧ Below w.heap.size w w' := Tryz.strings_ToLower_ascii s w (by omega) ha.bytes
theorem upS_size (s : ByteArray) : (upS s).size = s.size := by show ((Lib.toUpperA s.data.toList).toArray).size = s.data.size; simp [Lib.toUpperA]
theorem lowS_size (s : ByteArray) : (lowS s).size = s.size := by show ((Lib.toLowerA s.data.toList).toArray).size = s.data.size; simp [Lib.toLowerA]
theorem upS_at (s : ByteArray) (i : Nat) (h : i < (upS s).size) (h' : i < s.size) : (upS s)[i]'h = Lib.upperB (s[i]'h') := by
  show (upS s).data[i] = _
  simp [upS, Lib.toUpperA]
  rfl
theorem lowS_at (s : ByteArray) (i : Nat) (h : i < (lowS s).size) (h' : i < s.size) : (lowS s)[i]'h = Lib.lowerB (s[i]'h') := by
  show (lowS s).data[i] = _
  simp [lowS, Lib.toLowerA]
  rfl
theorem up_facts : ∀ b : UInt8, (b.toNat < 128 → (Lib.upperB b).toNat < 128) ∧ ((Lib.upperB b).toNat = 42 → b.toNat = 42) ∧ ((Lib.upperB b).toNat = 63 → b.toNat = 63) ∧ Lib.lowerB (Lib.upperB b) = Lib.lowerB b ∧ Lib.upperB (Lib.lowerB b) = Lib.upperB b
    ∧ ((Lib.lowerB b).toNat = 42 → b.toNat = 42) ∧ ((Lib.lowerB b).toNat = 63 → b.toNat = 63) ∧ (b.toNat < 128 → (Lib.lowerB b).toNat < 128) := by
  intro b
  have h : ∀ n : Fin 256, (fun b : UInt8 => ((b.toNat < 128 → (Lib.upperB b).toNat < 128) ∧ ((Lib.upperB b).toNat = 42 → b.toNat = 42) ∧ ((Lib.upperB b).toNat = 63 → b.toNat = 63) ∧ Lib.lowerB (Lib.upperB b) = Lib.lowerB b ∧ Lib.upperB (Lib.lowerB b) = Lib.upperB b
    ∧ ((Lib.lowerB b).toNat = 42 → b.toNat = 42) ∧ ((Lib.lowerB b).toNat = 63 → b.toNat = 63) ∧ (b.toNat < 128 → (Lib.lowerB b).toNat < 128))) (UInt8.ofNat n.val) := by decide +kernel
  have hb := h ⟨b.toNat, b.toNat_lt⟩
  simpa using hb
theorem upS_ascii {s : ByteArray} (h : AsciiS s) : AsciiS (upS s) := by
  intro i hi
  have hi' : i < s.size := by rw [← upS_size s]; exact hi
  rw [upS_at s i hi hi']
  exact (up_facts _).1 (h i hi')
theorem lowS_ascii {s : ByteArray} (h : AsciiS s) : AsciiS (lowS s) := by
  intro i hi
  have hi' : i < s.size := by rw [← lowS_size s]; exact hi
  rw [lowS_at s i hi hi']
  exact (up_facts _).2.2.2.2.2.2.2 (h i hi')
theorem upS_nowild {s : ByteArray} (h : NoWild s) : NoWild (upS s) := by
  intro i hi
  have hi' : i < s.size := by rw [← upS_size s]; exact hi
  rw [upS_at s i hi hi']
  exact ⟨fun e => (h i hi').1 ((up_facts _).2.1 e), fun e => (h i hi').2 ((up_facts _).2.2.1 e)⟩
theorem lowS_nowild {s : ByteArray} (h : NoWild s) : NoWild (lowS s) := by
  intro i hi
  have hi' : i < s.size := by rw [← lowS_size s]; exact hi
  rw [lowS_at s i hi hi']
  exact ⟨fun e => (h i hi').1 ((up_facts _).2.2.2.2.2.1 e), fun e => (h i hi').2 ((up_facts _).2.2.2.2.2.2.1 e)⟩
theorem loop_bytes (s : ByteArray) : ∀ (n i : Nat) (r : List UInt8), s.size - i = n → ByteArray.toList.loop s i r = r.reverse ++ s.data.toList.drop i := by
  intro n
  induction n with
  | zero =>
    intro i r h
    have hge : ¬ i < s.size := by omega
    have hl : s.data.toList.length = s.size := by simp
    rw [ByteArray.toList.loop, if_neg hge, List.drop_of_length_le (by omega), List.append_nil]
  | succ n ih =>
    intro i r h
    have hlt : i < s.size := by omega
    have hl : s.data.toList.length = s.size := by simp
    rw [ByteArray.toList.loop, if_pos hlt, ih (i + 1) _ (by omega), List.drop_eq_getElem_cons (by omega : i < s.data.toList.length)]
    have hg : s.get! i = s.data.toList[i]'(by omega) := by
      show s.data[i]! = _
      rw [getElem!_pos s.data i hlt]
      simp
    rw [hg]
    simp
theorem toList_bytes (s : ByteArray) : s.toList = s.data.toList := by
  unfold ByteArray.toList
  rw [loop_bytes s _ 0 [] rfl]
  rfl
theorem map_up_low (l1 l2 : List UInt8) : l1.map Lib.upperB = l2.map Lib.upperB ↔ l1.map Lib.lowerB = l2.map Lib.lowerB := by
  have e1 : ∀ l : List UInt8, l.map Lib.lowerB = (l.map Lib.upperB).map Lib.lowerB := fun l => by
    rw [List.map_map]; exact List.map_congr_left fun b _ => ((up_facts b).2.2.2.1).symm
  have e2 : ∀ l : List UInt8, l.map Lib.upperB = (l.map Lib.lowerB).map Lib.upperB := fun l => by
    rw [List.map_map]; exact List.map_congr_left fun b _ => ((up_facts b).2.2.2.2.1).symm
  constructor
  · intro h; rw [e1 l1, e1 l2, h]
  · intro h; rw [e2 l1, e2 l2, h]
theorem up_extract (s : ByteArray) (a b : Nat) : ((upS s).extract a b).toList = (s.extract a b).toList.map Lib.upperB := by
  rw [toList_bytes, toList_bytes]
  simp [upS, Lib.toUpperA, List.map_take, List.map_drop]
theorem low_extract (s : ByteArray) (a b : Nat) : ((lowS s).extract a b).toList = (s.extract a b).toList.map Lib.lowerB := by
  rw [toList_bytes, toList_bytes]
  simp [lowS, Lib.toLowerA, List.map_take, List.map_drop]
theorem up_toList (s : ByteArray) : (upS s).toList = s.toList.map Lib.upperB := by rw [toList_bytes, toList_bytes]; simp [upS, Lib.toUpperA]
theorem low_toList (s : ByteArray) : (lowS s).toList = s.toList.map Lib.lowerB := by rw [toList_bytes, toList_bytes]; simp [lowS, Lib.toLowerA]
theorem occ_case (s sub : ByteArray) (k : Nat) : occ (upS s) (upS sub) k = occ (lowS s) (lowS sub) k := by
  unfold occ
  rw [upS_size, upS_size, lowS_size, lowS_size, up_extract, low_extract, up_toList, low_toList]
  congr 1
  rw [Bool.eq_iff_iff, beq_iff_eq, beq_iff_eq]
  exact map_up_low _ _
theorem first_case {s sub : ByteArray} {a k : Nat} (h : First (upS s) (upS sub) a k) : First (lowS s) (lowS sub) a k := by
  obtain ⟨h1, h2, h3⟩ := h
  rw [upS_size] at h1 h3
  exact ⟨by rw [lowS_size]; exact h1, fun j hj hk => by rw [← occ_case]; exact h2 j hj hk, fun hk => by rw [lowS_size] at hk; rw [← occ_case]; exact h3 hk⟩
/-- One place alone is the first. -/
theorem first_one {s sub : ByteArray} {a k k' : Nat} (h : First s sub a k) (h' : First s sub a k') : k = k' := by
  obtain ⟨h1, h2, h3⟩ := h
  obtain ⟨h1', h2', h3'⟩ := h'
  rcases Nat.lt_trichotomy k k' with hlt | he | hgt
  · have := h3 (by omega)
    rw [h2' k this.1 hlt] at this
    exact absurd this.2 (by decide)
  · exact he
  · have := h3' (by omega)
    rw [h2 k' this.1 hgt] at this
    exact absurd this.2 (by decide)
end Go.Proofs.YtoebgbojpkflnaaGreatDoor
