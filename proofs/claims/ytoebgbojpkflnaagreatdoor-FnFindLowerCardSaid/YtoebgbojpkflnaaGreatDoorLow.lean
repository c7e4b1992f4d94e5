/- findLower: a string in lower case, byte by byte. -/
import Derived.Test.YtoebgbojpkflnaaGreatDoorSearchLaw
namespace Go.Proofs.YtoebgbojpkflnaaGreatDoor
open Go Go.RowKit

/-- A block that begins with the bytes l, unmarked. -/
def Bts (w : World) (g : Nat) (l : List UInt8) : Prop := ∃ (C : Array Value) (lo hi : Nat), w.heap[g]? = some (.cells C 5 (lo, hi)) ∧ l.length ≤ lo ∧ l.length ≤ C.size ∧ ∀ (j : Nat) (b : UInt8), l[j]? = some b → C[j]? = some (Value.int .u8 (b.toNat : Int))
theorem Bts.lt {w : World} {g : Nat} {l : List UInt8} (h : Bts w g l) : g < w.heap.size := by
  obtain ⟨C, lo, hi, h1, _⟩ := h
  exact (Array.getElem?_eq_some_iff.1 h1).1
theorem Bts.get {w : World} {g : Nat} {l : List UInt8} (h : Bts w g l) {j : Nat} {b : UInt8} (hj : l[j]? = some b) : w.cell? ⟨g, j, none⟩ = some (.int .u8 b.toNat) := by
  obtain ⟨C, lo, hi, h1, h2, h3, h4⟩ := h
  simp [World.cell?, h1, h4 j b hj]
theorem Bts.free {w : World} {g : Nat} {l : List UInt8} (h : Bts w g l) {j : Nat} (hj : j < l.length) : w.frozen? ⟨g, j, none⟩ = false := by
  obtain ⟨C, lo, hi, h1, h2, h3, h4⟩ := h
  simp [World.frozen?, h1]
  intro; omega
theorem Bts.below {w w' : World} {g : Nat} {l : List UInt8} (h : Bts w g l) {B : Nat} (hb : Below B w w') (hB : g < B) : Bts w' g l := by
  obtain ⟨C, lo, hi, h1, h2⟩ := h
  exact ⟨C, lo, hi, (hb.block g hB).trans h1, h2⟩
theorem Bts.set {w : World} {g : Nat} {l : List UInt8} (h : Bts w g l) (k : Nat) (c : UInt8) : Bts (w.setCell ⟨g, k, none⟩ (.int .u8 c.toNat)) g (l.set k c) := by
  have hlt := h.lt
  obtain ⟨C, lo, hi, h1, h2, h3, h4⟩ := h
  have h1' : w.heap[g] = .cells C 5 (lo, hi) := by simpa [Array.getElem?_eq_getElem hlt] using h1
  refine ⟨C.setIfInBounds k (.int .u8 c.toNat), lo, hi, ?_, by simpa using h2, by simpa using h3, fun j b hj => ?_⟩
  · show (w.heap.modify g _)[g]? = _
    rw [Array.getElem?_eq_getElem (by simpa using hlt), Array.getElem_modify_self, h1']
    rfl
  · rw [List.getElem?_set] at hj
    split at hj
    · rename_i hkj
      subst hkj
      split at hj
      · rename_i hl
        obtain rfl := Option.some.inj hj
        rw [Array.getElem?_setIfInBounds, if_pos rfl, if_pos (by omega)]
      · cases hj
    · rename_i hkj
      rw [Array.getElem?_setIfInBounds, if_neg hkj]
      exact h4 j b hj
theorem Bts.new (w : World) (s : ByteArray) (cap m : Nat) : Bts (w.alloc (.cells (bytesRow s cap) 5 ((bytesRow s cap).size, m))) w.heap.size s.data.toList := by
  refine ⟨_, _, _, heap_alloc_new w _, ?_, ?_, fun j b hj => ?_⟩
  · simp [bytesRow]
  · simp [bytesRow]
  · obtain ⟨hlt, he⟩ := List.getElem?_eq_some_iff.1 hj
    rw [bytesRow_at s cap j (by simpa using hlt), ← he]
    simp
/-- The first k bytes turned. -/
def lowTo (l : List UInt8) (k : Nat) : List UInt8 := (l.take k).map Lib.lowerB ++ l.drop k
theorem lowTo_zero (l : List UInt8) : lowTo l 0 = l := by simp [lowTo]
theorem lowTo_end (l : List UInt8) (k : Nat) (h : l.length ≤ k) : lowTo l k = Lib.toLowerA l := by
  simp [lowTo, Lib.toLowerA, List.take_of_length_le h, List.drop_of_length_le h]
theorem lowTo_len (l : List UInt8) (k : Nat) : (lowTo l k).length = l.length := by simp [lowTo]; omega
theorem lowTo_at {l : List UInt8} {k : Nat} {b : UInt8} (h : l[k]? = some b) : (lowTo l k)[k]? = some b := by
  obtain ⟨hlt, he⟩ := List.getElem?_eq_some_iff.1 h
  unfold lowTo
  rw [List.getElem?_append_right (by simp; omega)]
  simp [show k - min k l.length = 0 by omega, he, hlt]
theorem lowTo_succ {l : List UInt8} {k : Nat} {b : UInt8} (h : l[k]? = some b) : (lowTo l k).set k (Lib.lowerB b) = lowTo l (k + 1) := by
  obtain ⟨hlt, he⟩ := List.getElem?_eq_some_iff.1 h
  unfold lowTo
  have hl : ((l.take k).map Lib.lowerB).length = k := by simp; omega
  rw [List.set_append_right _ _ (by omega), hl, Nat.sub_self, List.drop_eq_getElem_cons hlt, List.set_cons_zero, List.take_succ_eq_append_getElem hlt, List.map_append]
  simp [he]

set_option maxRecDepth 20000 in
theorem specLower_any (b : UInt8) (w : World) :
    Calls Tryz.prog 74 #[.int .u8 b.toNat] w fun e w' => e = .returned (.int .u8 (Lib.lowerB b).toNat) ∧ w = w' := by
  have hb := b.toNat_lt
  have hu := Lib.isUpperB_int b
  by_cases h1 : 65 ≤ b.toNat
  · by_cases h2 : b.toNat ≤ 90
    · have hl : ((Lib.lowerB b).toNat : Int) = (b.toNat : Int) + 32 := by
        have : Lib.isUpperB b = true := by rw [hu]; simp; omega
        unfold Lib.lowerB; rw [if_pos this, UInt8.toNat_add]; simp; omega
      rw [hl]
      clear hl hu
      go_enter Tryz.func74, Tryz.ntmps74
      go_wp2
      go_ret
      exact ⟨rfl, rfl⟩
    · have hl : ((Lib.lowerB b).toNat : Int) = (b.toNat : Int) := by
        have : Lib.isUpperB b = false := by rw [hu]; simp; omega
        unfold Lib.lowerB; rw [this]; rfl
      rw [hl]
      clear hl hu
      go_enter Tryz.func74, Tryz.ntmps74
      go_wp2
      go_ret
      exact ⟨rfl, rfl⟩
  · have hl : ((Lib.lowerB b).toNat : Int) = (b.toNat : Int) := by
      have : Lib.isUpperB b = false := by rw [hu]; simp; omega
      unfold Lib.lowerB; rw [this]; rfl
    rw [hl]
    clear hl hu
    go_enter Tryz.func74, Tryz.ntmps74
    go_wp2
    go_ret
    exact ⟨rfl, rfl⟩
set_option maxRecDepth 20000 in
set_option maxHeartbeats 1000000 in
theorem findLower_any (s : ByteArray) (hs : s.size ≤ 1000) (w : World) :
    Calls Tryz.prog 38 #[.string s] w fun e w' => e = .returned (.string (lowS s)) ∧ Below w.heap.size w w' := by
  have hcv := run_bytes_of_string w 9 75 5 s Tryz.underlying9 Tryz.underlying75 Tryz.underlying5
  obtain ⟨cap, hcap⟩ : ∃ cap, cap = grownCap w s.size 0 5 := ⟨_, rfl⟩
  rw [← hcap] at hcv
  clear hcap
  go_enter Tryz.func38, Tryz.ntmps38
  go_wp2_with fail
  have HL : Hid (s.data.toList.length = s.size) := (by show s.data.toList.length = s.size; simp)
  go_loopw [4] (fun i wr => ∃ k : Nat, k ≤ s.size ∧ i = .int .i64 k ∧ Bts wr w.heap.size (lowTo s.data.toList k) ∧ Below w.heap.size w wr) (fun i _ => s.size - (intOf i).toNat)
  case atStart => exact ⟨0, by omega, rfl, by rw [lowTo_zero]; exact Bts.new w s cap _, below_drewN' ((Below.refl _ _).alloc (Nat.le_refl _) _) 1⟩
  case round =>
    obtain ⟨k, hk, rfl, hbt, hbl⟩ := hrel
    by_cases hlt : k < s.size
    · obtain ⟨b, hbb⟩ : ∃ b, s.data.toList[k]? = some b := ⟨_, List.getElem?_eq_getElem (by rw [HL.out]; exact hlt)⟩
      have c0 := hbt.get (lowTo_at hbb)
      have f0 := hbt.free (j := k) (by rw [lowTo_len, HL.out]; exact hlt)
      have l0 := hbt.lt
      have HB : Hid (s.data.toList[k]? = some b) := hbb
      have HT : Hid (Bts wr w.heap.size (lowTo s.data.toList k)) := hbt
      have HW : Hid (Below w.heap.size w wr) := hbl
      clear hbt hbl hbb
      go_wp2_with (go_at_call 74; refine (specLower_any b _).mono ?_; rintro e w1 ⟨rfl, rfl⟩)
      refine ⟨⟨k + 1, by omega, by go_num, by rw [← lowTo_succ HB.out]; exact HT.out.set k _, ?_⟩, by simp [intOf]; omega⟩
      exact HW.out.setCell (Nat.le_refl _) _
    · have hke : k = s.size := by omega
      subst hke
      have e1 : lowTo s.data.toList s.size = Lib.toLowerA s.data.toList := lowTo_end _ _ (by rw [HL.out]; exact Nat.le_refl _)
      rw [e1] at hbt
      have e2 : (Lib.toLowerA s.data.toList).length = s.size := by rw [← HL.out]; simp [Lib.toLowerA]
      have hcb := run_convert_bytes_back wr 75 9 5 ⟨w.heap.size, 0, none⟩ cap (Lib.toLowerA s.data.toList) Tryz.underlying75 Tryz.underlying5 Tryz.underlying9 (fun j hj => by
        have := hbt.get (List.getElem?_eq_getElem hj)
        have e0 : (⟨w.heap.size, 0, none⟩ : Addr).add j = ⟨w.heap.size, j, none⟩ := by simp [Addr.add]; intro h; exact h.symm
        rw [e0]; exact this)
      rw [e2] at hcb
      have HW : Hid (Below w.heap.size w wr) := hbl
      clear hbt hbl e1 e2 hcv
      go_wp2
      go_ret
      exact ⟨rfl, HW.out⟩
end Go.Proofs.YtoebgbojpkflnaaGreatDoor
