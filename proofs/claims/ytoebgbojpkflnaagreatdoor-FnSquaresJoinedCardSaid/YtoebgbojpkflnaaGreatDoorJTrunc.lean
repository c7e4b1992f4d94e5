/- Proof of FnSquaresJoined, a part: Roman numerals in plain words: the numeral of a number from 1 to 3999, and that reading it from the right gives the number back. No program in sight. -/
import Derived.Calls
import Derived.Test.YtoebgbojpkflnaaGreatDoorJList
import Derived.Test.YtoebgbojpkflnaaGreatDoorJRepl
namespace Go.Proofs.YtoebgbojpkflnaaGreatDoor
def upTo (p : Nat → Bool) : Nat → Bool
  | 0 => true
  | n + 1 => p n && upTo p n
theorem upTo_get {p : Nat → Bool} : ∀ {n : Nat}, upTo p n = true → ∀ k, k < n → p k = true
  | n + 1, h, k, hk => by
    simp only [upTo, Bool.and_eq_true] at h
    by_cases e : k = n
    · subst e; exact h.1
    · exact upTo_get h.2 k (by omega)
end Go.Proofs.YtoebgbojpkflnaaGreatDoor
namespace Go.Proofs.YtoebgbojpkflnaaGreatDoor
open Go Go.RowKit
theorem blk_at0 {w : World} {b b' : Nat} {t : TypeId} {cs : List Value} (h : b' = b) (hb : Blk w b t cs) : Blk w b' t cs := h ▸ hb
end Go.Proofs.YtoebgbojpkflnaaGreatDoor
namespace Go.Proofs.YtoebgbojpkflnaaGreatDoor
open Go Go.RowKit
set_option maxRecDepth 20000 in
set_option maxHeartbeats 1000000 in
theorem toNum_num (b : Nat) (hb : Good b) (w : World) : Calls Tryz.prog 125 #[(Atom.num b).fa] w fun e w' => e = .returned (Res.num b).fa ∧ Below w.heap.size w w' := by
  have HB : Hid (Good b) := hb
  clear hb
  have he : (Atom.num b).fa = .agg #[.string ⟨#[]⟩, .float .f64 b, .string ⟨#[]⟩, .slice none 0 0, .slice none 0 0, .bool false, .string ⟨#[]⟩, .int .u8 1, .pointer none, .pointer none] := rfl
  rw [he]
  clear he
  go_enter Tryz.func125, Tryz.ntmps125
  go_wp2_with fail
  refine (newNum_any b _ HB.out).mono ?_
  rintro e w1 ⟨rfl, hb1⟩
  have HR : Hid (Blk w1 (w.heap.size + 1) 84 [.string ⟨#[]⟩, .float .f64 0, .string ⟨#[]⟩, .slice none 0 0, .slice none 0 0, .bool false, .string ⟨#[]⟩, .int .u8 0, .pointer none, .pointer none]) := (blk_at0 (by simp) (Blk.new _ 84 [.string ⟨#[]⟩, .float .f64 0, .string ⟨#[]⟩, .slice none 0 0, .slice none 0 0, .bool false, .string ⟨#[]⟩, .int .u8 0, .pointer none, .pointer none])).below hb1 (by simp)
  have HB1 : Hid (Below w.heap.size w w1) := Below.trans (by go_grown) (hb1.mono (by simp; omega))
  clear hb1
  go_wp2_with (refine store_res rfl (.tmp 2) (.tmp 37) rfl (w.heap.size + 1) [.string ⟨#[]⟩, .float .f64 0, .string ⟨#[]⟩, .slice none 0 0, .slice none 0 0, .bool false, .string ⟨#[]⟩, .int .u8 0, .pointer none, .pointer none] (.num b) rfl rfl HR.out rfl w.heap.size (Nat.le_succ _) ?_; intro w6 hr6 hb6)
  exact bodyPost_ret (ret_res rfl _ _ (w.heap.size + 1) (.num b) rfl hr6) rfl ⟨rfl, HB1.out.trans hb6⟩
end Go.Proofs.YtoebgbojpkflnaaGreatDoor
