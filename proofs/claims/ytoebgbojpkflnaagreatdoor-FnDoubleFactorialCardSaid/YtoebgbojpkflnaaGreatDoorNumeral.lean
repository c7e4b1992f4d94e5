/- spec.Numeral returns the numeral in plain words. Condition: a number from 0 to 4000. -/
import Derived.Test.YtoebgbojpkflnaaGreatDoorList
import Derived.Test.YtoebgbojpkflnaaGreatDoorRoman
namespace Go.Proofs.YtoebgbojpkflnaaGreatDoor
open Go Go.RowKit
def romValCells : List Value := [.int .i64 1000, .int .i64 900, .int .i64 500, .int .i64 400, .int .i64 100, .int .i64 90, .int .i64 50, .int .i64 40, .int .i64 10, .int .i64 9, .int .i64 5, .int .i64 4, .int .i64 1]
def romSignCells : List Value := [.string ⟨#[77]⟩, .string ⟨#[67, 77]⟩, .string ⟨#[68]⟩, .string ⟨#[67, 68]⟩, .string ⟨#[67]⟩, .string ⟨#[88, 67]⟩, .string ⟨#[76]⟩, .string ⟨#[88, 76]⟩, .string ⟨#[88]⟩, .string ⟨#[73, 88]⟩, .string ⟨#[86]⟩, .string ⟨#[73, 86]⟩, .string ⟨#[73]⟩]
theorem romValCells_get (k : Nat) (h : k < 13) : romValCells[k]? = some (.int .i64 (romVal k)) := by
  match k, h with
  | 0, _ | 1, _ | 2, _ | 3, _ | 4, _ | 5, _ | 6, _ | 7, _ | 8, _ | 9, _ | 10, _ | 11, _ | 12, _ => rfl
theorem romSignCells_get (k : Nat) (h : k < 13) : romSignCells[k]? = some (.string ⟨(romSign k).toArray⟩) := by
  match k, h with
  | 0, _ | 1, _ | 2, _ | 3, _ | 4, _ | 5, _ | 6, _ | 7, _ | 8, _ | 9, _ | 10, _ | 11, _ | 12, _ => rfl
theorem blk_at0 {w : World} {b b' : Nat} {t : TypeId} {cs : List Value} (h : b' = b) (hb : Blk w b t cs) : Blk w b' t cs := h ▸ hb
theorem append_bytes (a b : List UInt8) : (⟨a.toArray⟩ : ByteArray) ++ ⟨b.toArray⟩ = ⟨(a ++ b).toArray⟩ := by
  apply ByteArray.ext
  simp
/-- The text before value k, and behind j of its signs. -/
def romAt (n k j : Nat) : ByteArray := ⟨(romText n k ++ romTimes j (romSign k)).toArray⟩
theorem romTimes_len (j : Nat) (s : List UInt8) : (romTimes j s).length = j * s.length := by
  unfold romTimes
  simp
theorem romSign_len (k : Nat) : (romSign k).length ≤ 2 := by
  by_cases h : k < 13
  · have : ∀ k, k < 13 → (romSigns.getD k []).length ≤ 2 := by decide
    exact this k h
  · show ((romSigns[k]?).getD []).length ≤ 2
    rw [List.getElem?_eq_none (by simp [romSigns]; omega)]; exact Nat.zero_le _
theorem romTimes_le (j k : Nat) : (romTimes j (romSign k)).length ≤ 2 * j := by
  rw [romTimes_len, Nat.mul_comm]
  exact Nat.mul_le_mul_right _ (romSign_len k)
theorem romText_len (n : Nat) : ∀ k, (romText n k).length + 2 * romLeft n k ≤ 2 * n
  | 0 => by simp [romText, romLeft]
  | k + 1 => by
    have ih := romText_len n k
    have h1 := romTimes_le (romLeft n k / romVal k) k
    have h2 := Nat.div_add_mod (romLeft n k) (romVal k)
    have h3 : romLeft n k / romVal k ≤ romVal k * (romLeft n k / romVal k) := Nat.le_mul_of_pos_left _ (romVal_pos k)
    simp only [romText, romLeft, List.length_append]
    omega
theorem romAt_size (n k j : Nat) (hj : j ≤ romLeft n k) : (romAt n k j).size ≤ 2 * n := by
  have h := romText_len n k
  have h1 := romTimes_le j k
  show ((romText n k ++ romTimes j (romSign k)).toArray).size ≤ 2 * n
  rw [List.size_toArray, List.length_append]
  omega
theorem romAt_succ (n k j : Nat) : romAt n k j ++ ⟨(romSign k).toArray⟩ = romAt n k (j + 1) := by
  unfold romAt
  rw [append_bytes, romTimes_succ, List.append_assoc]
theorem romAt_zero (n : Nat) : romAt n 0 0 = ⟨#[]⟩ := by simp [romAt, romText, romTimes]
theorem romAt_next (n k : Nat) : romAt n k (romLeft n k / romVal k) = romAt n (k + 1) 0 := by simp [romAt, romText, romTimes]
theorem romAt_end (n : Nat) : romAt n 13 0 = ⟨(numeral n).toArray⟩ := by simp [romAt, numeral, romTimes]
theorem romLeft_le (n : Nat) : ∀ k, romLeft n k ≤ n
  | 0 => Nat.le_refl _
  | k + 1 => Nat.le_trans (Nat.mod_le _ _) (romLeft_le n k)

theorem ret_str {a b : ByteArray} (h : a = b) : Ending.returned (.string a) = .returned (.string b) := by rw [h]
theorem mod_of {m j v r : Nat} (h : m = j * v + r) (hr : r < v) : m % v = r ∧ m / v = j := by
  subst h
  rw [Nat.add_comm, Nat.add_mul_mod_self_right, Nat.add_mul_div_right _ _ (by omega), Nat.mod_eq_of_lt hr, Nat.div_eq_of_lt hr]
  exact ⟨rfl, Nat.zero_add j⟩

set_option maxRecDepth 20000 in
set_option maxHeartbeats 1000000 in
theorem numeral_any (n : Nat) (hn : n ≤ 4000) (w : World) :
    Calls Tryz.prog 47 #[.int .i64 n] w fun e w' => e = .returned (.string ⟨(numeral n).toArray⟩) ∧ Below w.heap.size w w' := by
  go_enter Tryz.func47, Tryz.ntmps47
  go_wp2
  refine abs_wp (fun w' => Blk w' w.heap.size 3 romValCells ∧ Blk w' (w.heap.size + 1) 9 romSignCells ∧ Below w.heap.size w w') ⟨(Blk.new w 3 romValCells).alloc _, blk_at0 (by simp) (Blk.new _ 9 romSignCells), by go_grown⟩ ?_
  rintro w1 ⟨hv, hs, hb⟩
  have HV : Hid (Blk w1 w.heap.size 3 romValCells) := hv
  have HS : Hid (Blk w1 (w.heap.size + 1) 9 romSignCells) := hs
  have HB : Hid (Below w.heap.size w w1) := hb
  clear hv hs hb
  generalize w.heap.size = g at HV HS ⊢
  go_loop [0, 5, 6] (fun x s i => ∃ k : Nat, k ≤ 13 ∧ x = .int .i64 (romLeft n k) ∧ s = .string (romAt n k 0) ∧ i = .int .i64 k) (fun _ _ i => 13 - (intOf i).toNat)
  case atStart => exact ⟨0, by omega, rfl, by rw [romAt_zero], rfl⟩
  case round =>
    obtain ⟨k, hk, rfl, rfl, rfl⟩ := hrel
    by_cases hlt : k < 13
    · have c := HV.out.get k (romValCells_get k hlt)
      have d := HS.out.get k (romSignCells_get k hlt)
      have hp := romVal_pos k
      have hm := romLeft_le n k
      have HN : Hid (romLeft n (k + 1) = romLeft n k % romVal k) := (rfl : romLeft n (k + 1) = romLeft n k % romVal k)
      have HT : Hid (romAt n k (romLeft n k / romVal k) = romAt n (k + 1) 0) := romAt_next n k
      have HZ : Hid (∀ j, j ≤ romLeft n k → (romAt n k j).size ≤ 2 * n) := fun j hj => romAt_size n k j hj
      have hz2 := romSign_len k
      obtain ⟨m, hmm⟩ : ∃ m, m = romLeft n k := ⟨_, rfl⟩
      obtain ⟨v, hvv⟩ : ∃ v, v = romVal k := ⟨_, rfl⟩
      rw [← hmm] at hm HN HT HZ ⊢
      rw [← hvv] at hp c HN HT
      clear hmm hvv
      go_wp2
      go_loop [0, 5] (fun x s => ∃ j r : Nat, m = j * v + r ∧ x = .int .i64 r ∧ s = .string (romAt n k j)) (fun x _ => (intOf x).toNat)
      case atStart => exact ⟨0, m, by omega, rfl, rfl⟩
      case round =>
        obtain ⟨j, r, hj, rfl, rfl⟩ := hrel
        have hjm : j ≤ m := (by have := Nat.le_mul_of_pos_right j hp; omega)
        have hz1 := HZ.out j hjm
        have hr : r ≤ 4000 := (by omega)
        have HJ : Hid (m = j * v + r) := hj
        clear hj
        by_cases hvr : v ≤ r
        · go_wp2
          refine ⟨⟨j + 1, r - v, ?_, by rw [Int.natCast_sub hvr], by rw [romAt_succ]⟩, by simp [intOf]; omega⟩
          have := HJ.out
          rw [Nat.succ_mul]; omega
        · go_wp2
          have hq := mod_of HJ.out (by omega)
          go_round
          case rel => exact ⟨k + 1, by omega, by rw [HN.out, hq.1], by rw [← HT.out, hq.2], by go_num⟩
          case measure => simp [intOf]; omega
    · have HK : Hid (k = 13) := (show k = 13 by omega)
      have hge : ¬ ((k : Int) < 13) := by omega
      go_wp2
      go_ret
      exact ⟨ret_str (by rw [HK.out, romAt_end]), HB.out⟩
end Go.Proofs.YtoebgbojpkflnaaGreatDoor
