/- Proof of FnSquaresJoined, a part: innerList: the arguments of a function as a list of Go's container/list; in: values of the thin package as the package's. Conditions: each argument's own making is given by its contract. -/
import Derived.Test.YtoebgbojpkflnaaGreatDoorJAtom
import Derived.Test.YtoebgbojpkflnaaGreatDoorJArr
namespace Go.Proofs.YtoebgbojpkflnaaGreatDoor
open Go Go.RowKit
theorem info64 : (Tryz.prog.info? 64).map (fun i => (i.zero, i.size, i.bytes)) = some (some (.agg #[.int .i64 0, .float .f64 0, .string ⟨#[]⟩, .slice none 0 0]), 4, 56) := by kernel_rfl
structure Stable (S : World → Prop) : Prop where
  out : ∀ w w', S w → Below w.heap.size w w' → S w'
theorem alloc_stable {S : World → Prop} (hs : Stable S) {w : World} (h : S w) (o : Obj) : S (w.alloc o) := hs.out w _ h ((Below.refl _ _).alloc (Nat.le_refl _) o)
/-- What innerArg makes of an argument. -/
def CallsArg (x : List Value) (S : World → Prop) (R : World → Value → Prop) : Prop :=
  ∀ w, S w → Calls Tryz.prog 109 #[.agg x.toArray] w fun e w' => ∃ f, e = .returned f ∧ On w.heap.size w'.heap.size (fun w2 => R w2 f) w' ∧ Below w.heap.size w w'
/-- A row of four cells: a kind, a number, a text, a slice. -/
def Quad (x : List Value) : Prop := ∃ k b s p n c, x = [.int .i64 k, .float .f64 b, .string s, .slice p n c]
/-- What holds of the elements made so far: each by blocks of its own, none of which is the list's. -/
def Held (R : Nat → World → Value → Prop) (X : List Nat) (w : World) (fs : List Value) : Prop :=
  ∀ i f, fs[i]? = some f → ∃ lo hi, (∀ b ∈ X, b < lo ∨ hi ≤ b) ∧ On lo hi (fun w2 => R i w2 f) w
theorem Held.get {R : Nat → World → Value → Prop} {X : List Nat} {w : World} {fs : List Value} (h : Held R X w fs) {i : Nat} {f : Value} (hf : fs[i]? = some f) : R i w f :=
  let ⟨_, _, _, h2⟩ := h i f hf; h2.out
theorem Held.below {R : Nat → World → Value → Prop} {X : List Nat} {w w' : World} {fs : List Value} (h : Held R X w fs) (hb : Below w.heap.size w w') : Held R X w' fs :=
  fun i f hf => let ⟨lo, hi, h1, h2⟩ := h i f hf; ⟨lo, hi, h1, h2.below hb⟩
theorem held_snoc {R : Nat → World → Value → Prop} {L : Nat} {bs : List Nat} {wr w2 w3 : World} {o : Obj} {fs : List Value} {f : Value} (h : Held R (L :: bs) wr fs) (hX : ∀ b ∈ L :: bs, b < wr.heap.size)
    (hf : On (wr.alloc o).heap.size w2.heap.size (fun w => R fs.length w f) w2) (hb : Below (wr.alloc o).heap.size (wr.alloc o) w2) (hk : PushKept (L :: bs) w2 w3) : Held R (L :: (bs ++ [w2.heap.size])) w3 (fs ++ [f]) := by
  have hs1 : wr.heap.size + 1 ≤ w2.heap.size := by have := hb.size; simpa using this
  intro i g hg
  by_cases hi : i < fs.length
  · rw [List.getElem?_append_left hi] at hg
    obtain ⟨lo, hi', h1, h2⟩ := h i g hg
    refine ⟨lo, hi', ?_, ?_⟩
    · intro b hb'
      rcases List.mem_cons.1 hb' with rfl | hb'
      · exact h1 _ (by simp)
      · rcases List.mem_append.1 hb' with hb' | hb'
        · exact h1 b (List.mem_cons_of_mem _ hb')
        · simp at hb'; subst hb'; exact .inr (by have := h2.1; omega)
    · have h3 : On lo hi' (fun w => R i w g) (wr.alloc o) := h2.below ((Below.refl _ _).alloc (Nat.le_refl _) o)
      refine (h3.below hb).keep hk.size fun k hk1 hk2 => hk.kept k (by have := h2.1; omega) (fun hx => ?_)
      rcases h1 k hx with h4 | h4 <;> omega
  · have he : i = fs.length := by
      have := (List.getElem?_eq_some_iff.1 hg).1
      simp at this; omega
    subst he
    rw [List.getElem?_append_right (Nat.le_refl _)] at hg
    simp at hg
    subst hg
    refine ⟨(wr.alloc o).heap.size, w2.heap.size, ?_, hf.keep hk.size fun k hk1 hk2 => hk.kept k hk2 (fun hx => ?_)⟩
    · intro b hb'
      rcases List.mem_cons.1 hb' with rfl | hb'
      · exact .inl (by have := hX b (by simp); simp; omega)
      · rcases List.mem_append.1 hb' with hb' | hb'
        · exact .inl (by have := hX b (List.mem_cons_of_mem _ hb'); simp; omega)
        · simp at hb'; subst hb'; exact .inr (Nat.le_refl _)
    · have := hX k hx
      simp at hk1
      omega
theorem IsList.lts {B : Nat} {w : World} {L : Nat} {bs : List Nat} {xs : List Value} (h : IsList B w L bs xs) : ∀ b ∈ L :: bs, b < w.heap.size := by
  intro b hb
  rcases List.mem_cons.1 hb with rfl | hb
  · exact h.root.lt
  · obtain ⟨i, hi, rfl⟩ := List.mem_iff_getElem.1 hb
    obtain ⟨pv, hp⟩ := h.elt i _ (xs[i]'(by rw [← h.len]; exact hi)) (List.getElem?_eq_getElem hi) (List.getElem?_eq_getElem _)
    exact hp.lt
set_option maxHeartbeats 400000 in
theorem innerList_any (xs : List (List Value)) (v : Value) (S : World → Prop) (R : Nat → World → Value → Prop) (w : World) (g c : Nat) (hv : v = .slice (some ⟨g, 0, none⟩) xs.length c) (hrow : Arr 0 w 64 4 v xs)
    (hq : ∀ x ∈ xs, Quad x) (hn : xs.length ≤ 1000) (hS : S w) (hSs : Stable S) (hcall : ∀ i x, xs[i]? = some x → CallsArg x S (R i)) :
    Calls Tryz.prog 84 #[v] w fun e w' => ∃ L bs fs, e = .returned (.pointer (some ⟨L, 0, none⟩)) ∧ fs.length = xs.length ∧ IsList w.heap.size w' L bs (fs.map (.iface 84)) ∧ Held R (L :: bs) w' fs ∧ Below w.heap.size w w' := by
  subst hv
  have HC : Hid (∀ i x, xs[i]? = some x → CallsArg x S (R i)) := hcall
  clear hcall
  obtain ⟨n, hnn⟩ : ∃ n, n = xs.length := ⟨_, rfl⟩
  rw [← hnn]
  have HN : Hid (n = xs.length) := hnn
  rw [← hnn] at hrow hn
  clear hnn
  go_enter Tryz.func84, Tryz.ntmps84
  go_wp2_with (go_at_call 107; refine (new_any _).mono ?_; rintro e w1 ⟨rfl, hl, hb⟩)
  obtain ⟨L, hL⟩ : ∃ L, L = w.heap.size := ⟨_, rfl⟩
  rw [← hL]
  have HL : Hid (L = w.heap.size) := hL
  rw [← hL] at hl hb
  clear hL
  go_loopw [9] (fun i wr => ∃ (k : Nat) (bs : List Nat) (fs : List Value), k ≤ n ∧ i = .int .i64 k ∧ fs.length = k ∧ IsList L wr L bs (fs.map (.iface 84)) ∧ Held R (L :: bs) wr fs ∧ Below L w wr) (fun i _ => n - (intOf i).toNat)
  case atStart => exact ⟨0, [], [], Nat.zero_le _, rfl, rfl, hl, fun i f h => by simp at h, hb⟩
  case round =>
    obtain ⟨k, bs, fs, hk, rfl, hfk, hil, hheld, hb2⟩ := hrel
    have HFK : Hid (fs.length = k) := hfk
    clear hfk
    by_cases hlt : k < n
    · obtain ⟨x, hx⟩ : ∃ x, xs[k]? = some x := ⟨_, List.getElem?_eq_getElem (by rw [← HN.out]; exact hlt)⟩
      have hrow2 := hrow.keep (by rw [← HL.out]; exact hb2)
      obtain ⟨x0, x1, x2, p3, n3, k3, rfl⟩ := hq x (List.mem_of_getElem? hx)
      have c0 := hrow2.cell0 hx (u := .int .i64 x0) rfl
      have c1 := hrow2.cell (j := 1) hx (u := .float .f64 x1) rfl
      have c2 := hrow2.cell (j := 2) hx (u := .string x2) rfl
      have c3 := hrow2.cell (j := 3) hx (u := .slice p3 n3 k3) rfl
      have HX : Hid (xs[k]? = some [.int .i64 x0, .float .f64 x1, .string x2, .slice p3 n3 k3]) := hx
      clear hx hrow2
      go_wp2_with fail
      refine ((HC.out k _ HX.out) _ (alloc_stable hSs (hSs.out w wr hS (by rw [← HL.out]; exact hb2)) _)).mono ?_
      rintro e w2 ⟨f, rfl, hf, hb3⟩
      go_wp2_with fail
      refine (push_any L L bs 84 f (fs.map (.iface 84)) w2 ((hil.keep ((Below.refl _ _).alloc (Nat.le_refl _) _)).keep hb3) (by rw [List.length_map, HFK.out]; omega)).mono ?_
      rintro e w3 ⟨rfl, hil3, hb4, hpk⟩
      go_wp2_with fail
      have hLw : L ≤ wr.heap.size := by have := hb2.size; rw [HL.out]; exact this
      refine ⟨⟨k + 1, bs ++ [w2.heap.size], fs ++ [f], by omega, by go_num, by simp [HFK.out], by simpa using hil3, held_snoc hheld hil.lts (by rw [HFK.out]; exact hf) hb3 hpk, ?_⟩, by simp [intOf]; omega⟩
      exact ((hb2.alloc hLw _).trans (hb3.mono (by simp; omega))).trans hb4
    · have hkn : k = n := by omega
      subst hkn
      go_wp2
      go_ret
      exact ⟨L, bs, fs, rfl, HFK.out, by rw [← HL.out]; exact hil, hheld, by rw [← HL.out]; exact hb2⟩
end Go.Proofs.YtoebgbojpkflnaaGreatDoor
