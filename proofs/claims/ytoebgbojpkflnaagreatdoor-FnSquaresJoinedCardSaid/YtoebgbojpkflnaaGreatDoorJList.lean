/- Proof of FnSquaresJoined, a part: What the functions of Go's container/list that this seat reaches do: New, PushBack, Len, Front, Back, Next. Conditions: the list is one that the call itself has made. -/
import Derived.Test.YtoebgbojpkflnaaGreatDoorJKit
namespace Go.Proofs.YtoebgbojpkflnaaGreatDoor
open Go Go.RowKit
set_option maxHeartbeats 400000 in
theorem new_any (w : World) :
    Calls Tryz.prog 107 #[] w fun e w' => e = .returned (.pointer (some ⟨w.heap.size, 0, none⟩)) ∧ IsList w.heap.size w' w.heap.size [] [] ∧ Below w.heap.size w w' := by
  go_enter Tryz.func107, Tryz.ntmps107
  go_wp2
  go_ret
  refine ⟨rfl, ⟨rfl, Nat.le_refl _, by simp, ?_, by simp⟩, by go_grown⟩
  exact Blk.new w 135 [.pointer (some ⟨w.heap.size, 0, none⟩), .pointer (some ⟨w.heap.size, 0, none⟩), .pointer none, .nilIface, .int .i64 0]
set_option maxHeartbeats 400000 in
theorem len_any (B L : Nat) (bs : List Nat) (xs : List Value) (w : World) (h : IsList B w L bs xs) :
    Calls Tryz.prog 110 #[.pointer (some ⟨L, 0, none⟩)] w fun e w' => e = .returned (.int .i64 xs.length) ∧ w = w' := by
  have hc := h.root.get 4 rfl
  clear h
  go_enter Tryz.func110, Tryz.ntmps110
  go_wp2
  go_ret
  exact ⟨rfl, rfl⟩
set_option maxHeartbeats 400000 in
theorem front_any (B L b : Nat) (bs : List Nat) (x : Value) (xs : List Value) (w : World) (h : IsList B w L (b :: bs) (x :: xs)) :
    Calls Tryz.prog 112 #[.pointer (some ⟨L, 0, none⟩)] w fun e w' => e = .returned (.pointer (some ⟨b, 0, none⟩)) ∧ w = w' := by
  have hc := h.root.get 4 rfl
  have hd := h.root.get 0 rfl
  have hz : (((x :: xs).length : Int) == 0) = false := by simp; omega
  clear h
  generalize (x :: xs).length = n at *
  go_enter Tryz.func112, Tryz.ntmps112
  go_wp2
  go_ret
  exact ⟨rfl, rfl⟩
set_option maxHeartbeats 400000 in
theorem back_any (B L b : Nat) (bs : List Nat) (x : Value) (xs : List Value) (w : World) (h : IsList B w L (b :: bs) (x :: xs)) :
    Calls Tryz.prog 134 #[.pointer (some ⟨L, 0, none⟩)] w fun e w' => e = .returned (.pointer (some ⟨(b :: bs).getLastD L, 0, none⟩)) ∧ w = w' := by
  have hc := h.root.get 4 rfl
  have hd := h.root.get 1 rfl
  have hz : (((x :: xs).length : Int) == 0) = false := by simp; omega
  clear h
  generalize (x :: xs).length = n at *
  generalize (b :: bs).getLastD L = q at *
  go_enter Tryz.func134, Tryz.ntmps134
  go_wp2
  go_ret
  exact ⟨rfl, rfl⟩
theorem info105 : (Tryz.prog.info? 105).map (fun i => (i.zero, i.size, i.bytes)) = some (some (.agg #[.pointer none, .pointer none, .pointer none, .nilIface]), 4, 40) := by kernel_rfl
set_option maxHeartbeats 400000 in
theorem next_some (L b c : Nat) (pv : Addr) (x : Value) (w : World) (cl cb : List Value) (tb : TypeId) (h : Blk w b 105 [.pointer (some ⟨c, 0, none⟩), .pointer (some pv), .pointer (some ⟨L, 0, none⟩), x]) (hL : Blk w L 135 cl) (hb : Blk w c tb cb) (hne : (⟨c, 0, none⟩ : Addr) ≠ ⟨L, 0, none⟩) :
    Calls Tryz.prog 113 #[.pointer (some ⟨b, 0, none⟩)] w fun e w' => e = .returned (.pointer (some ⟨c, 0, none⟩)) ∧ w = w' := by
  have h0 := h.get 0 rfl
  have h2 := h.get 2 rfl
  obtain ⟨i0, hi, hz0, hz1, hz2⟩ := info_parts info105
  have hq := run_neq_ptr_other Tryz.prog w (a := ⟨c, 0, none⟩) (b := ⟨L, 0, none⟩) Tryz.underlying98 hi (by rw [hz1]; decide) hne hb hL
  clear h hL hb hz0 hz1 hz2 hi hne
  go_enter Tryz.func113, Tryz.ntmps113
  go_wp2
  go_ret
  exact ⟨rfl, rfl⟩
set_option maxHeartbeats 400000 in
theorem next_none (L b : Nat) (pv : Addr) (x : Value) (w : World) (h : Blk w b 105 [.pointer (some ⟨L, 0, none⟩), .pointer (some pv), .pointer (some ⟨L, 0, none⟩), x]) :
    Calls Tryz.prog 113 #[.pointer (some ⟨b, 0, none⟩)] w fun e w' => e = .returned (.pointer none) ∧ w = w' := by
  have h0 := h.get 0 rfl
  have h2 := h.get 2 rfl
  obtain ⟨i0, hi, hz0, hz1, hz2⟩ := info_parts info105
  have hq := run_neq_ptr_same Tryz.prog w ⟨L, 0, none⟩ Tryz.underlying98 hi
  clear h hz0 hz1 hz2 hi
  go_enter Tryz.func113, Tryz.ntmps113
  go_wp2
  go_ret
  exact ⟨rfl, rfl⟩
/-- What is behind element i: element i + 1. -/
theorem next_at (B L : Nat) (bs : List Nat) (xs : List Value) (w : World) (h : IsList B w L bs xs) (i b c : Nat) (hb : bs[i]? = some b) (hc : bs[i + 1]? = some c) :
    Calls Tryz.prog 113 #[.pointer (some ⟨b, 0, none⟩)] w fun e w' => e = .returned (.pointer (some ⟨c, 0, none⟩)) ∧ w = w' := by
  have hlen := h.len
  have hi := (List.getElem?_eq_some_iff.1 hb).1
  have hj := (List.getElem?_eq_some_iff.1 hc).1
  obtain ⟨pv, e1⟩ := h.elt i b xs[i] hb (List.getElem?_eq_getElem (by omega))
  obtain ⟨pv', e2⟩ := h.elt (i + 1) c xs[i + 1] hc (List.getElem?_eq_getElem (by omega))
  rw [hc] at e1
  have hlt : L < c := (List.pairwise_cons.1 h.inc).1 c (List.mem_of_getElem? hc)
  exact next_some L b c pv _ w _ _ _ e1 h.root e2 (fun e => by have e' : c = L := congrArg Addr.block e; omega)
/-- Behind the last element there is none. -/
theorem next_last (B L : Nat) (bs : List Nat) (xs : List Value) (w : World) (h : IsList B w L bs xs) (i b : Nat) (hb : bs[i]? = some b) (hc : i + 1 = bs.length) :
    Calls Tryz.prog 113 #[.pointer (some ⟨b, 0, none⟩)] w fun e w' => e = .returned (.pointer none) ∧ w = w' := by
  have hlen := h.len
  obtain ⟨pv, e1⟩ := h.elt i b xs[i] hb (List.getElem?_eq_getElem (by omega))
  rw [List.getElem?_eq_none (by omega)] at e1
  exact next_none L b pv _ w e1
/-- All blocks but some are as they were. -/
structure PushKept (X : List Nat) (w w' : World) : Prop where
  size : w.heap.size ≤ w'.heap.size
  kept : ∀ k, k < w.heap.size → k ∉ X → w'.heap[k]? = w.heap[k]?
theorem PushKept.refl (X : List Nat) (w : World) : PushKept X w w := ⟨Nat.le_refl _, fun _ _ _ => rfl⟩
theorem PushKept.set {X : List Nat} {w w' : World} (h : PushKept X w w') {a : Addr} (ha : a.block ∈ X) {v : Value} : PushKept X w (w'.setCell a v) :=
  ⟨by simpa using h.size, fun k hk hx => (Below.heap_setCell w' a v k (fun e => hx (e ▸ ha))).trans (h.kept k hk hx)⟩
theorem PushKept.alloc {X : List Nat} {w w' : World} (h : PushKept X w w') (o : Obj) : PushKept X w (w'.alloc o) :=
  ⟨by have := h.size; simp; omega, fun k hk hx => (Below.heap_alloc w' o k (Nat.lt_of_lt_of_le hk h.size)).trans (h.kept k hk hx)⟩
theorem isList_first {B L : Nat} {w : World} {x : Value} (hr : Blk w L 135 [.pointer (some ⟨L, 0, none⟩), .pointer (some ⟨L, 0, none⟩), .pointer none, .nilIface, .int .i64 0]) (hlo : B ≤ L) :
    IsList B ((((w.setCell ⟨L, 0, none⟩ (.pointer (some ⟨w.heap.size, 0, none⟩))).setCell ⟨L, 1, none⟩ (.pointer (some ⟨w.heap.size, 0, none⟩))).setCell ⟨L, 4, none⟩ (.int .i64 1)).alloc (.cells #[.pointer (some ⟨L, 0, none⟩), .pointer (some ⟨L, 0, none⟩), .pointer (some ⟨L, 0, none⟩), x] 105)) L [w.heap.size] [x] := by
  have hlt := hr.lt
  refine ⟨rfl, hlo, by simp [hlt], (((hr.set 0 _).set 1 _).set 4 _).alloc _, ?_⟩
  intro i b y h1 h2
  match i with
  | 0 =>
    simp at h1 h2; subst h1; subst h2
    refine ⟨⟨L, 0, none⟩, ?_⟩
    have := Blk.new (((w.setCell ⟨L, 0, none⟩ (.pointer (some ⟨w.heap.size, 0, none⟩))).setCell ⟨L, 1, none⟩ (.pointer (some ⟨w.heap.size, 0, none⟩))).setCell ⟨L, 4, none⟩ (.int .i64 1)) 105 [.pointer (some ⟨L, 0, none⟩), .pointer (some ⟨L, 0, none⟩), .pointer (some ⟨L, 0, none⟩), x]
    simpa using this
  | j + 1 => simp at h1
set_option maxHeartbeats 400000 in
theorem push_first (B L : Nat) (t : TypeId) (x : Value) (w : World) (h : IsList B w L [] []) :
    Calls Tryz.prog 108 #[.pointer (some ⟨L, 0, none⟩), .iface t x] w fun e w' => e = .returned (.pointer (some ⟨w.heap.size, 0, none⟩)) ∧ IsList B w' L [w.heap.size] [.iface t x] ∧ Below B w w' ∧ PushKept [L] w w' := by
  have hr := h.root
  have hlo := h.lo
  have h0 : w.cell? ⟨L, 0, none⟩ = some (.pointer (some ⟨L, 0, none⟩)) := hr.get 0 rfl
  have h1 : w.cell? ⟨L, 1, none⟩ = some (.pointer (some ⟨L, 0, none⟩)) := hr.get 1 rfl
  have h4 : w.cell? ⟨L, 4, none⟩ = some (.int .i64 0) := hr.get 4 rfl
  have hf := hr.free
  have hlt := hr.lt
  clear h
  have HR : Hid (Blk w L 135 _) := hr
  clear hr
  go_enter Tryz.func108, Tryz.ntmps108
  go_wp2
  go_ret
  exact ⟨rfl, isList_first HR.out hlo, by go_grown, ((((PushKept.refl _ _).set (by simp)).set (by simp)).set (by simp)).alloc _⟩
theorem isList_more {B L l : Nat} {cs : List Nat} {w : World} {x y : Value} {ys : List Value} (h : IsList B w L (cs ++ [l]) (ys ++ [y])) :
    IsList B ((((w.setCell ⟨l, 0, none⟩ (.pointer (some ⟨w.heap.size, 0, none⟩))).setCell ⟨L, 1, none⟩ (.pointer (some ⟨w.heap.size, 0, none⟩))).setCell ⟨L, 4, none⟩ (.int .i64 ((ys ++ [y]).length + 1))).alloc (.cells #[.pointer (some ⟨L, 0, none⟩), .pointer (some ⟨l, 0, none⟩), .pointer (some ⟨L, 0, none⟩), x] 105)) L (cs ++ [l] ++ [w.heap.size]) (ys ++ [y] ++ [x]) := by
  have hlen := h.len
  simp at hlen
  have hr := h.root
  have hinc := h.inc
  have hltL := hr.lt
  have hLl : L < l := (List.pairwise_cons.1 hinc).1 l (by simp)
  obtain ⟨pv, hl⟩ := h.elt cs.length l y (by simp) (by simp [hlen])
  have hll := hl.lt
  have hmem : ∀ b ∈ L :: (cs ++ [l]), b < w.heap.size := by
    intro b hb
    rcases List.mem_cons.1 hb with rfl | hb
    · exact hltL
    · obtain ⟨i, hi, rfl⟩ := List.mem_iff_getElem.1 hb
      obtain ⟨pv', hp⟩ := h.elt i _ ((ys ++ [y])[i]'(by simp at hi ⊢; omega)) (List.getElem?_eq_getElem hi) (List.getElem?_eq_getElem _)
      exact hp.lt
  refine ⟨by simp [hlen], h.lo, ?_, ?_, ?_⟩
  · rw [show L :: (cs ++ [l] ++ [w.heap.size]) = (L :: (cs ++ [l])) ++ [w.heap.size] by simp]
    exact List.pairwise_append.2 ⟨hinc, by simp, fun a ha b hb => by simp at hb; subst hb; exact hmem a ha⟩
  · have := ((((hr.other (a := ⟨l, 0, none⟩) (by show L ≠ l; omega) (.pointer (some ⟨w.heap.size, 0, none⟩))).set 1 (.pointer (some ⟨w.heap.size, 0, none⟩))).set 4 (.int .i64 ((ys ++ [y]).length + 1)))).alloc (.cells #[.pointer (some ⟨L, 0, none⟩), .pointer (some ⟨l, 0, none⟩), .pointer (some ⟨L, 0, none⟩), x] 105)
    have e1 : (cs ++ [l] ++ [w.heap.size]).headD L = (cs ++ [l]).headD L := by cases cs <;> rfl
    have e2 : (cs ++ [l] ++ [w.heap.size]).getLastD L = w.heap.size := by simp [List.getLastD_eq_getLast?]
    have e3 : (((ys ++ [y] ++ [x]).length : Nat) : Int) = ((ys ++ [y]).length : Nat) + 1 := by simp; omega
    rw [e1, e2, e3]
    exact this
  · intro i b z h1 h2
    by_cases hi : i < cs.length
    · have e1 : (cs ++ [l])[i]? = some b := by rw [← h1, List.append_assoc, List.getElem?_append_left hi, List.getElem?_append_left hi]
      have e2 : (ys ++ [y])[i]? = some z := by rw [← h2, List.append_assoc, List.getElem?_append_left (by omega), List.getElem?_append_left (by omega)]
      obtain ⟨pv', hp⟩ := h.elt i b z e1 e2
      have hbl : b ≠ l := by
        have hp2 := (List.pairwise_append.1 (List.pairwise_cons.1 hinc).2).2.2
        have hb : b ∈ cs := by
          rw [List.getElem?_append_left hi] at e1
          exact List.mem_of_getElem? e1
        have := hp2 b hb l (by simp)
        omega
      have hbL : b ≠ L := by
        have := (List.pairwise_cons.1 hinc).1 b (List.mem_of_getElem? e1)
        omega
      refine ⟨pv', ?_⟩
      have e3 : (cs ++ [l] ++ [w.heap.size])[i + 1]? = (cs ++ [l])[i + 1]? := by rw [List.getElem?_append_left (by simp; omega)]
      rw [e3]
      exact (((hp.other hbl _).other hbL _).other hbL _).alloc _
    · by_cases hi2 : i = cs.length
      · subst hi2
        have e1 : b = l := by simpa using h1.symm
        have e2 : z = y := by
          have : (ys ++ [y] ++ [x])[ys.length]? = some z := by rw [← hlen]; exact h2
          simpa using this.symm
        subst e1; subst e2
        refine ⟨pv, ?_⟩
        have e3 : (cs ++ [b] ++ [w.heap.size])[cs.length + 1]? = some w.heap.size := by
          rw [List.getElem?_append_right (by simp)]; simp
        rw [e3]
        have := (((hl.set 0 (.pointer (some ⟨w.heap.size, 0, none⟩))).other (a := ⟨L, 1, none⟩) (by show b ≠ L; omega) (.pointer (some ⟨w.heap.size, 0, none⟩))).other (a := ⟨L, 4, none⟩) (by show b ≠ L; omega) (.int .i64 ((ys ++ [z]).length + 1))).alloc (.cells #[.pointer (some ⟨L, 0, none⟩), .pointer (some ⟨b, 0, none⟩), .pointer (some ⟨L, 0, none⟩), x] 105)
        simpa using this
      · have hi3 : i = cs.length + 1 := by
          have := (List.getElem?_eq_some_iff.1 h1).1
          simp at this; omega
        subst hi3
        have e1 : b = w.heap.size := by
          rw [List.getElem?_append_right (by simp)] at h1
          simpa using h1.symm
        have e2 : z = x := by
          rw [List.getElem?_append_right (by simp; omega)] at h2
          simpa [hlen] using h2.symm
        subst e1; subst e2
        refine ⟨⟨l, 0, none⟩, ?_⟩
        rw [List.getElem?_eq_none (by simp)]
        have := Blk.new (((w.setCell ⟨l, 0, none⟩ (.pointer (some ⟨w.heap.size, 0, none⟩))).setCell ⟨L, 1, none⟩ (.pointer (some ⟨w.heap.size, 0, none⟩))).setCell ⟨L, 4, none⟩ (.int .i64 ((ys ++ [y]).length + 1))) 105 [.pointer (some ⟨L, 0, none⟩), .pointer (some ⟨l, 0, none⟩), .pointer (some ⟨L, 0, none⟩), z]
        simpa using this
set_option maxHeartbeats 400000 in
theorem push_more (B L l : Nat) (cs : List Nat) (t : TypeId) (x y : Value) (ys : List Value) (w : World) (h : IsList B w L (cs ++ [l]) (ys ++ [y])) (hn : ys.length < 100000) :
    Calls Tryz.prog 108 #[.pointer (some ⟨L, 0, none⟩), .iface t x] w fun e w' => e = .returned (.pointer (some ⟨w.heap.size, 0, none⟩)) ∧ IsList B w' L (cs ++ [l] ++ [w.heap.size]) (ys ++ [y] ++ [.iface t x]) ∧ Below B w w' ∧ PushKept (L :: (cs ++ [l])) w w' := by
  have hr := h.root
  have hlo := h.lo
  have hlen := h.len
  simp at hlen
  obtain ⟨pv, hl⟩ := h.elt cs.length l y (by simp) (by simp [hlen])
  have hLl : L < l := (List.pairwise_cons.1 h.inc).1 l (by simp)
  obtain ⟨q, h0⟩ : ∃ q, w.cell? ⟨L, 0, none⟩ = some (.pointer (some q)) := ⟨_, hr.get 0 rfl⟩
  have h1 : w.cell? ⟨L, 1, none⟩ = some (.pointer (some ⟨l, 0, none⟩)) := by have := hr.get 1 rfl; simpa using this
  have h4 : w.cell? ⟨L, 4, none⟩ = some (.int .i64 (ys.length + 1 : Nat)) := by have := hr.get 4 rfl; simpa using this
  have hf := hr.free
  have hlt := hr.lt
  have k0 : w.cell? ⟨l, 0, none⟩ = some (.pointer (some ⟨L, 0, none⟩)) := by
    have := hl.get 0 rfl
    rw [List.getElem?_eq_none (by simp)] at this
    simpa using this
  have k1 := hl.get 1 rfl
  have kf := hl.free
  have klt := hl.lt
  have HR : Hid (IsList B w L (cs ++ [l]) (ys ++ [y])) := h
  clear h hr hl hlen
  have hb1 : (ys.length + 1 : Nat) ≤ (100000 : Int) := by omega
  go_enter Tryz.func108, Tryz.ntmps108
  go_wp2
  go_ret
  have := isList_more (x := .iface t x) HR.out
  exact ⟨rfl, by simpa using this, by go_grown, ((((PushKept.refl _ _).set (by simp)).set (by simp)).set (by simp)).alloc _⟩
theorem push_any (B L : Nat) (bs : List Nat) (t : TypeId) (x : Value) (ys : List Value) (w : World) (h : IsList B w L bs ys) (hn : ys.length < 100000) :
    Calls Tryz.prog 108 #[.pointer (some ⟨L, 0, none⟩), .iface t x] w fun e w' => e = .returned (.pointer (some ⟨w.heap.size, 0, none⟩)) ∧ IsList B w' L (bs ++ [w.heap.size]) (ys ++ [.iface t x]) ∧ Below B w w' ∧ PushKept (L :: bs) w w' := by
  have hlen := h.len
  rcases List.eq_nil_or_concat bs with rfl | ⟨cs, l, hcl⟩
  · have : ys = [] := List.length_eq_zero_iff.1 (by simpa using hlen.symm)
    subst this
    exact push_first B L t x w h
  · rw [List.concat_eq_append] at hcl; subst hcl
    rcases List.eq_nil_or_concat ys with rfl | ⟨zs, y, hcl⟩
    · simp at hlen
    · rw [List.concat_eq_append] at hcl; subst hcl
      exact push_more B L l cs t x y zs w h (by simp at hn; omega)
/-- What a walk over a list reads of it. -/
theorem IsList.at3 {B : Nat} {w : World} {L : Nat} {bs : List Nat} {xs : List Value} (h : IsList B w L bs xs) (i : Nat) {b : Nat} {x : Value} (hb : bs[i]? = some b) (hx : xs[i]? = some x) : w.cell? ⟨b, 3, none⟩ = some x ∧ b < w.heap.size :=
  let ⟨_, hp⟩ := h.elt i b x hb hx; ⟨hp.get 3 rfl, hp.lt⟩
/-- What holds, and goes on to hold while the blocks from lo on and below hi stay as they are. -/
def On (lo hi : Nat) (S : World → Prop) (w : World) : Prop := hi ≤ w.heap.size ∧ ∀ w' : World, (∀ k, lo ≤ k → k < hi → w'.heap[k]? = w.heap[k]?) → S w'
theorem On.out {lo hi : Nat} {S : World → Prop} {w : World} (h : On lo hi S w) : S w := h.2 w fun _ _ _ => rfl
theorem On.keep {lo hi : Nat} {S : World → Prop} {w w' : World} (h : On lo hi S w) (hs : w.heap.size ≤ w'.heap.size) (hk : ∀ k, lo ≤ k → k < hi → w'.heap[k]? = w.heap[k]?) : On lo hi S w' :=
  ⟨Nat.le_trans h.1 hs, fun w2 h2 => h.2 w2 fun k h3 h4 => (h2 k h3 h4).trans (hk k h3 h4)⟩
theorem On.below {lo hi : Nat} {S : World → Prop} {w w' : World} (h : On lo hi S w) (hb : Below w.heap.size w w') : On lo hi S w' :=
  h.keep hb.size fun k _ h4 => hb.block k (Nat.lt_of_lt_of_le h4 h.1)
theorem On.mk' {lo : Nat} {S : World → Prop} {w : World} (h : ∀ w', (∀ k, lo ≤ k → k < w.heap.size → w'.heap[k]? = w.heap[k]?) → S w') : On lo w.heap.size S w := ⟨Nat.le_refl _, h⟩
end Go.Proofs.YtoebgbojpkflnaaGreatDoor
