/- Proof of FnSquaresJoined, a part: Small facts on blocks of memory that the walks of this seat use; no conditions beyond those each states. -/
import Derived.Test.YtoebgbojpkflnaaGreatDoorProg
import Derived.WalkKit
import Derived.WalkSpells
import Derived.WalkLawsBesides
import Derived.Laws.EntriesVeiled
import Derived.WideLaws
import Derived.Handy
import Derived.Deep.QuietTactic
import Derived.BigQuiet
import Derived.LaidEqlPtr
namespace Go
section
variable (P : Program) (w : World) (a : Addr) (m : Mode)
@[go_sem] theorem run_store_float (k : FloatKind) (b : Nat) : (store a (.float k b) m).run P w = stored P w a (.float k b) m := run_store P w a _ m rfl
theorem run_neq_ptr_same {tp te : TypeId} {j : TypeInfo} (a : Addr) (hp : P.underlying tp = some (.pointer te)) (hte : P.info? te = some j) :
    (binOp .neq tp (.pointer (some a)) (.pointer (some a))).run P w = .ok (.bool false) w := by
  have h : ∀ d : Nat, (Op.equalIn (d + 1) tp (.pointer (some a)) (.pointer (some a))).run P w = .ok true w := fun d => by
    simp [Op.equalIn, run_underlying hp, sizeOf, typeInfo, hte, run_sameAddr_same]
  simp only [binOp]
  simp [Op.equal, Op.maxDepth, h 9999]
theorem run_neq_ptr_other {tp te : TypeId} {j : TypeInfo} {a b : Addr} {ca cb : Array Value} {ta tb : TypeId} (hp : P.underlying tp = some (.pointer te)) (hte : P.info? te = some j) (hsz : j.size ≠ 0)
    (hne : a ≠ b) (ha : w.heap[a.block]? = some (.cells ca ta (0, 0))) (hb : w.heap[b.block]? = some (.cells cb tb (0, 0))) :
    (binOp .neq tp (.pointer (some a)) (.pointer (some b))).run P w = .ok (.bool true) w := by
  have h : ∀ d : Nat, (Op.equalIn (d + 1) tp (.pointer (some a)) (.pointer (some b))).run P w = .ok false w := fun d => by
    simp [Op.equalIn, run_underlying hp, sizeOf, typeInfo, hte, hsz, run_sameAddr_other w hne ha hb]
  simp only [binOp]
  simp [Op.equal, Op.maxDepth, h 9999]
end
end Go
namespace Go.Proofs.YtoebgbojpkflnaaGreatDoor
open Go Go.RowKit
@[go_sem] theorem as84 (v : Value) (w : World) : (Instr.typeAssert (.iface 84 v) 20 84 false).run Tryz.prog w = .ok v w := by kernel_rfl
/-- A block of cells, none of them frozen. -/
def Blk (w : World) (b : Nat) (t : TypeId) (cs : List Value) : Prop := w.heap[b]? = some (.cells cs.toArray t (0, 0))
theorem Blk.lt {w : World} {b : Nat} {t : TypeId} {cs : List Value} (h : Blk w b t cs) : b < w.heap.size := lt_of_block h
theorem Blk.cell {w : World} {b : Nat} {t : TypeId} {cs : List Value} (h : Blk w b t cs) (i : Nat) : w.cell? ⟨b, i, none⟩ = cs[i]? := by
  unfold Blk at h; simp [World.cell?, h]
theorem Blk.get {w : World} {b : Nat} {t : TypeId} {cs : List Value} (h : Blk w b t cs) (i : Nat) {v : Value} (hv : cs[i]? = some v) : w.cell? ⟨b, i, none⟩ = some v := (h.cell i).trans hv
theorem Blk.free {w : World} {b : Nat} {t : TypeId} {cs : List Value} (h : Blk w b t cs) (i : Nat) : w.frozen? ⟨b, i, none⟩ = false := by
  unfold Blk at h; simp [World.frozen?, h]
theorem Blk.below {w w' : World} {b : Nat} {t : TypeId} {cs : List Value} (h : Blk w b t cs) {B : Nat} (hb : Below B w w') (hB : b < B) : Blk w' b t cs :=
  (hb.block b hB).trans h
theorem Blk.alloc {w : World} {b : Nat} {t : TypeId} {cs : List Value} (h : Blk w b t cs) (o : Obj) : Blk (w.alloc o) b t cs :=
  (Below.heap_alloc w o b h.lt).trans h
theorem Blk.new (w : World) (t : TypeId) (cs : List Value) : Blk (w.alloc (.cells cs.toArray t)) w.heap.size t cs := heap_alloc_new w _
theorem Blk.set {w : World} {b : Nat} {t : TypeId} {cs : List Value} (h : Blk w b t cs) (i : Nat) (v : Value) : Blk (w.setCell ⟨b, i, none⟩ v) b t (cs.set i v) := by
  have hlt := h.lt
  unfold Blk at h ⊢
  have h' : w.heap[b] = .cells cs.toArray t (0, 0) := by simpa [Array.getElem?_eq_getElem hlt] using h
  show (w.heap.modify b _)[b]? = _
  rw [Array.getElem?_eq_getElem (by simpa using hlt), Array.getElem_modify_self, h']
  simp
theorem Blk.other {w : World} {b : Nat} {t : TypeId} {cs : List Value} (h : Blk w b t cs) {a : Addr} (hne : b ≠ a.block) (v : Value) : Blk (w.setCell a v) b t cs :=
  (Below.heap_setCell w a v b hne).trans h
/-- What the call owns is still owned where all that there was has been kept. -/
theorem ownsRow_below {w w' : World} {base : Nat} {e : TypeId} {size : Nat} {v : Value} {n : Nat} {xs : List Value} (h : w.ownsRow base e size v n xs) (hb : Below w.heap.size w w') : w'.ownsRow base e size v n xs := by
  obtain ⟨h1, h2⟩ := h
  refine ⟨h1, ?_⟩
  rcases h2 with h2 | ⟨g, cap, cur, hv, hg, hh, r⟩
  · exact .inl h2
  · exact .inr ⟨g, cap, cur, hv, hg, (hb.block g (lt_of_block hh)).trans hh, r⟩
/-- All blocks but one are as they were. -/
structure PushKept' (g : Nat) (w w' : World) : Prop where
  size : w.heap.size ≤ w'.heap.size
  kept : ∀ k, k < w.heap.size → k ≠ g → w'.heap[k]? = w.heap[k]?
theorem PushKept'.blk {g : Nat} {w w' : World} (h : PushKept' g w w') {b : Nat} {t : TypeId} {cs : List Value} (hb : Blk w b t cs) (hne : b ≠ g) : Blk w' b t cs := (h.kept b hb.lt hne).trans hb
/-- A list of Go's container/list: its own block, its elements' blocks in order, what they hold. All blocks are from B on. -/
structure IsList (B : Nat) (w : World) (L : Nat) (bs : List Nat) (xs : List Value) : Prop where
  len : bs.length = xs.length
  lo : B ≤ L
  inc : (L :: bs).Pairwise (· < ·)
  root : Blk w L 135 [.pointer (some ⟨bs.headD L, 0, none⟩), .pointer (some ⟨bs.getLastD L, 0, none⟩), .pointer none, .nilIface, .int .i64 xs.length]
  elt : ∀ i b x, bs[i]? = some b → xs[i]? = some x → ∃ pv, Blk w b 105 [.pointer (some ⟨(bs[i + 1]?).getD L, 0, none⟩), .pointer (some pv), .pointer (some ⟨L, 0, none⟩), x]
theorem IsList.keep {B : Nat} {w w' : World} {L : Nat} {bs : List Nat} {xs : List Value} (h : IsList B w L bs xs) (hb : Below w.heap.size w w') : IsList B w' L bs xs :=
  ⟨h.len, h.lo, h.inc, h.root.below hb h.root.lt, fun i b x h1 h2 => let ⟨pv, hp⟩ := h.elt i b x h1 h2; ⟨pv, hp.below hb hp.lt⟩⟩
/-- The world of a goal under a name, with what is known of it. -/
theorem abs_wp {P : Program} {c : Code} {Q : Exit → Act → World → Prop} {a : Act} {W : World} (F : World → Prop) (hF : F W) (h : ∀ w', F w' → c.wp P Q a w') : c.wp P Q a W := h W hF
theorem abs_calls {P : Program} {f : FuncId} {args : Array Value} {R : Ending → World → Prop} {W : World} (F : World → Prop) (hF : F W) (h : ∀ w', F w' → Calls P f args w' R) : Calls P f args W R := h W hF
theorem Blk.drewN {w : World} {b : Nat} {t : TypeId} {cs : List Value} (h : Blk w b t cs) (n : Nat) : Blk (w.drewN n) b t cs := h
theorem below_drewN' {B : Nat} {w w' : World} (h : Below B w w') (n : Nat) : Below B w (w'.drewN n) := ⟨h.os, h.tape, h.output, h.size, h.block⟩
theorem lt_k {b n : Nat} (h : b < n) : ∀ k, b < n + k := fun k => by omega
theorem Blk.setRow {w : World} {b : Nat} {t : TypeId} {cs : List Value} (h : Blk w b t cs) (cs' : List Value) : Blk (w.setRow b cs'.toArray) b t cs' := setRow_heap w b _ _ t (0, 0) h
theorem below_setRow {B : Nat} {w : World} {g : Nat} (hB : B ≤ g) (cs : Array Value) : Below B w (w.setRow g cs) :=
  ⟨rfl, rfl, rfl, by simp [World.setRow], fun k hk => setRow_other w g k cs (by omega)⟩
/-- A whole struct stored into its own block. -/
theorem store_row {P : Program} {w : World} {ops : Array Oper} {rest : List Oper} {o : Oper} {a : Act} {Q : Exit → Act → World → Prop} (hgd : o.guard = none) (ty : TypeId) (x y : Operand) (ho : o.op = .store ty x y)
    (g : Nat) (t : TypeId) (old cells : List Value) (hx : a.eval x = .pointer (some ⟨g, 0, none⟩)) (hy : a.eval y = .agg cells.toArray) (hg : Blk w g t old)
    (hi : (P.info? ty).map (fun i => i.size) = some cells.length) (hold : old.length = cells.length) (h1 : cells.all (fun u => u.oneCell') = true) (B : Nat) (hB : B ≤ g)
    (h : ∀ w', Blk w' g t cells → Below B w w' → PushKept' g w w' → wpList P ops Q rest (a.put o.dst undef) w') : wpList P ops Q (o :: rest) a w :=
  wpList_plain hgd fun _ hK => wp_store_row ty x y ho g cells.toArray hx hy t old.toArray hg (by simpa using hi) (by simpa using hold) (by simpa using h1)
    (hK _ _ (h _ (hg.setRow cells) (below_setRow hB _) ⟨by simp [World.setRow], fun k _ hk => setRow_other w g k _ hk⟩))
/-- The return of a struct that lies in a block. -/
theorem ret_row {P : Program} {fn : Func} {p : Tmp} {ty : TypeId} (h : fn.results = #[.cell p ty]) (tmps : Array Value) (w : World) (g : Nat) (t : TypeId) (cs : List Value) (d : TypeDesc)
    (hp : tmps.getD p undef = .pointer (some ⟨g, 0, none⟩)) (hg : Blk w g t cs)
    (hu : P.underlying ty = some d) (hd : (match d with | .struct _ | .array _ _ => true | _ => false) = true) (hi : (P.info? ty).map (fun i => i.size) = some cs.length) :
    (results fn tmps).run P w = .ok (.agg cs.toArray) w :=
  results_cell_row h tmps w g t cs.toArray (0, 0) d hp hg hu hd (by simpa using hi)
end Go.Proofs.YtoebgbojpkflnaaGreatDoor
