/- The three answers of the spec in one statement of the law: a region that draws its order. -/
import Derived.Test.YtoebgbojpkflnaaGreatDoorTabDoor
import Derived.Test.YtoebgbojpkflnaaGreatDoorSpecC
import Derived.Test.YtoebgbojpkflnaaGreatDoorRegInv
namespace Go.Proofs.YtoebgbojpkflnaaGreatDoor
open Go Go.RowKit
/-- A value of the spec that is no matrix. -/
def ag (k a d : Int) : Value := .agg #[.int .i64 k, .int .i64 a, .int .i64 d, .string ⟨#[]⟩, .slice none 0 0]
/-- What AVERAGEA, MAXA and MINA are by the spec. -/
def PA (cs : List Cel) (k a d : Int) : Prop := ((nums cs = [] ∨ (nums cs).sum * 16 % (nums cs).length ≠ 0) ∧ k = 6 ∧ a = 0 ∧ d = 0) ∨ (nums cs ≠ [] ∧ k = 1 ∧ ∃ q a' d' : Nat, (nums cs).sum * 16 = q * (nums cs).length ∧ Fr q a' d' ∧ a = a' ∧ d = d')
def PB (cs : List Cel) (k a d : Int) : Prop := (nums cs = [] ∧ k = 6 ∧ a = 0 ∧ d = 0) ∨ (k = 1 ∧ d = 1 ∧ ∃ m : Nat, IsMax (nums cs) m ∧ a = m)
def PC (cs : List Cel) (k a d : Int) : Prop := (nums cs = [] ∧ k = 6 ∧ a = 0 ∧ d = 0) ∨ (k = 1 ∧ d = 1 ∧ ∃ m : Nat, IsMin (nums cs) m ∧ a = m)
def Gets (P : Int → Int → Int → Prop) (w : World) (e : Ending) (w' : World) : Prop := ∃ k a d, e = .returned (ag k a d) ∧ P k a d ∧ Below w.heap.size w w'
theorem sumsA_avg (cs : List Cel) (hok : ∀ x ∈ cs, x.Ok) (hn : cs.length ≤ 60) (r : Value) (w : World) (htab : Tab 0 w 31 27 5 r (cs.map fun x => [x.cells])) :
    Calls Tryz.prog 21 #[.string ⟨#[65, 86, 69, 82, 65, 71, 69, 65]⟩, .agg #[.int .i64 5, .int .i64 0, .int .i64 0, .string ⟨#[]⟩, r]] w (Gets (PA cs) w) := by
  by_cases h : nums cs = []
  · exact (sumsA_none _ cs hok hn r w htab.cases htab h).mono fun e w' ⟨he, hb⟩ => ⟨6, 0, 0, he, .inl ⟨.inl h, rfl, rfl, rfl⟩, hb⟩
  · by_cases hq : (nums cs).sum * 16 % (nums cs).length = 0
    · obtain ⟨q, hq⟩ := Nat.dvd_of_mod_eq_zero hq
      replace hq := hq.trans (Nat.mul_comm _ _)
      exact (sumsA_yes cs hok hn r w htab.cases htab h q hq).mono fun e w' ⟨⟨a, d, hf, he⟩, hb⟩ => ⟨1, a, d, he, .inr ⟨h, rfl, q, a, d, hq, hf, rfl, rfl⟩, hb⟩
    · exact (sumsA_no cs hok hn r w htab.cases htab h hq).mono fun e w' ⟨he, hb⟩ => ⟨6, 0, 0, he, .inl ⟨.inr hq, rfl, rfl, rfl⟩, hb⟩
theorem sumsA_mx (cs : List Cel) (hok : ∀ x ∈ cs, x.Ok) (hn : cs.length ≤ 60) (r : Value) (w : World) (htab : Tab 0 w 31 27 5 r (cs.map fun x => [x.cells])) :
    Calls Tryz.prog 21 #[.string ⟨#[77, 65, 88, 65]⟩, .agg #[.int .i64 5, .int .i64 0, .int .i64 0, .string ⟨#[]⟩, r]] w (Gets (PB cs) w) := by
  by_cases h : nums cs = []
  · exact (sumsA_none _ cs hok hn r w htab.cases htab h).mono fun e w' ⟨he, hb⟩ => ⟨6, 0, 0, he, .inl ⟨h, rfl, rfl, rfl⟩, hb⟩
  · exact (sumsA_max cs hok hn r w htab.cases htab h).mono fun e w' ⟨⟨m, hm, he⟩, hb⟩ => ⟨1, m, 1, he, .inr ⟨rfl, rfl, m, hm, rfl⟩, hb⟩
theorem sumsA_mn (cs : List Cel) (hok : ∀ x ∈ cs, x.Ok) (hn : cs.length ≤ 60) (r : Value) (w : World) (htab : Tab 0 w 31 27 5 r (cs.map fun x => [x.cells])) :
    Calls Tryz.prog 21 #[.string ⟨#[77, 73, 78, 65]⟩, .agg #[.int .i64 5, .int .i64 0, .int .i64 0, .string ⟨#[]⟩, r]] w (Gets (PC cs) w) := by
  by_cases h : nums cs = []
  · exact (sumsA_none _ cs hok hn r w htab.cases htab h).mono fun e w' ⟨he, hb⟩ => ⟨6, 0, 0, he, .inl ⟨h, rfl, rfl, rfl⟩, hb⟩
  · exact (sumsA_min cs hok hn r w htab.cases htab h).mono fun e w' ⟨⟨m, hm, he⟩, hb⟩ => ⟨1, m, 1, he, .inr ⟨rfl, rfl, m, hm, rfl⟩, hb⟩
/-- The frame of the law in that region. -/
def fr4 (s : Value) (n b3 : Nat) (T : Value) (x4 x5 x6 x14 x15 x16 x17 x18 x19 : Value) : Act := { tmps := #[s, undef, .bool false, .pointer (some ⟨b3, 0, none⟩), x4, x5, x6, undef, undef, s, .int .i64 n, .bool false, s, T, x14, x15, x16, x17, x18, x19, undef, undef, undef, undef, undef, undef, undef, undef, undef, undef, undef, undef, undef, undef, undef, undef, undef, undef, undef, undef, undef, undef, undef, undef, undef, undef, undef, undef, undef, undef, undef, undef, undef, undef, undef, undef, undef, undef, undef, undef, undef], defers := [] }
abbrev On1 (l : Array Bool) (j : Nat) : Prop := l.getD j false = true
theorem gl {l : Array Bool} {i j : Nat} (h : On1 (l.setIfInBounds i true) j) (hne : j ≠ i) : On1 l j := by
  unfold On1 at *
  rw [Array.getD_eq_getD_getElem?, Array.getElem?_setIfInBounds_ne (by omega)] at h
  rw [Array.getD_eq_getD_getElem?]; exact h
theorem off1 {l : Array Bool} {i : Nat} (h : l.getD i true = false) : ¬ On1 l i := by
  unfold On1
  rw [Array.getD_eq_getD_getElem?] at h ⊢
  cases hc : l[i]? with
  | none => rw [hc] at h; cases h
  | some b => rw [hc] at h; simp at h; rw [h]; simp
/-- A variable of the law that has been made: its block, and what has been stored. -/
def Bk (w0 w : World) (st : Prop) (x y : Value) : Prop := ∃ g old, x = .pointer (some ⟨g, 0, none⟩) ∧ w0.heap.size ≤ g ∧ g < w.heap.size ∧ old.length = 5 ∧ Blk w g 27 old ∧ (st → y = .agg old.toArray)
theorem Bk.keep {w0 w w' : World} {st st' : Prop} {x y : Value} (h : Bk w0 w st x y) (hb : Below w.heap.size w w') (hst : st' → st) : Bk w0 w' st' x y :=
  let ⟨g, old, h1, h2, h3, h4, h5, h6⟩ := h
  ⟨g, old, h1, h2, Nat.lt_of_lt_of_le h3 hb.size, h4, h5.below hb h3, fun hs => h6 (hst hs)⟩
theorem Bk.far {w0 w w' : World} {st st' : Prop} {x y : Value} {b : Nat} (h : Bk w0 w st x y) (hk : PushKept' b w w') (hne : x ≠ .pointer (some ⟨b, 0, none⟩)) (hst : st' → st) : Bk w0 w' st' x y :=
  let ⟨g, old, h1, h2, h3, h4, h5, h6⟩ := h
  ⟨g, old, h1, h2, Nat.lt_of_lt_of_le h3 hk.size, h4, hk.blk h5 (fun e => hne (by rw [h1, e])), fun hs => h6 (hst hs)⟩
theorem Bk.ne {w0 w : World} {st : Prop} {x y : Value} {b : Nat} (h : Bk w0 w st x y) (hb : w.heap.size ≤ b) : x ≠ .pointer (some ⟨b, 0, none⟩) := by
  obtain ⟨g, old, h1, h2, h3, _⟩ := h
  rw [h1]
  intro e
  injection e with e
  injection e with e
  injection e with e
  omega
/-- What holds within the region: what has been done, and the world. -/
structure Mid (cs : List Cel) (w0 : World) (T : Value) (x4 x5 x6 x14 x15 x16 x17 x18 x19 : Value) (l : Array Bool) (w : World) : Prop where
  bel : Below w0.heap.size w0 w
  r14 : On1 l 0 → x14 = T
  r16 : On1 l 2 → x16 = T
  r18 : On1 l 4 → x18 = T
  r15 : On1 l 1 → ∃ k a d, x15 = ag k a d ∧ PA cs k a d
  r17 : On1 l 3 → ∃ k a d, x17 = ag k a d ∧ PB cs k a d
  r19 : On1 l 5 → ∃ k a d, x19 = ag k a d ∧ PC cs k a d
  b4 : On1 l 6 → Bk w0 w (On1 l 9) x4 x15
  b5 : On1 l 7 → Bk w0 w (On1 l 10) x5 x17
  b6 : On1 l 8 → Bk w0 w (On1 l 11) x6 x19
  d45 : On1 l 6 → On1 l 7 → x4 ≠ x5
  d46 : On1 l 6 → On1 l 8 → x4 ≠ x6
  d56 : On1 l 7 → On1 l 8 → x5 ≠ x6
  o9 : On1 l 9 → On1 l 1 ∧ On1 l 6
  o10 : On1 l 10 → On1 l 3 ∧ On1 l 7
  o11 : On1 l 11 → On1 l 5 ∧ On1 l 8
/-- What the region leaves. -/
def Fin4 (cs : List Cel) (w0 : World) (s : Value) (n b3 : Nat) (T : Value) (a : Act) (w : World) : Prop :=
  ∃ g4 g5 g6 k1 a1 d1 k2 a2 d2 k3 a3 d3, a = fr4 s n b3 T (.pointer (some ⟨g4, 0, none⟩)) (.pointer (some ⟨g5, 0, none⟩)) (.pointer (some ⟨g6, 0, none⟩)) T (ag k1 a1 d1) T (ag k2 a2 d2) T (ag k3 a3 d3) ∧ PA cs k1 a1 d1 ∧ PB cs k2 a2 d2 ∧ PC cs k3 a3 d3 ∧
    Blk w g4 27 [.int .i64 k1, .int .i64 a1, .int .i64 d1, .string ⟨#[]⟩, .slice none 0 0] ∧ Blk w g5 27 [.int .i64 k2, .int .i64 a2, .int .i64 d2, .string ⟨#[]⟩, .slice none 0 0] ∧ Blk w g6 27 [.int .i64 k3, .int .i64 a3, .int .i64 d3, .string ⟨#[]⟩, .slice none 0 0] ∧ Below w0.heap.size w0 w
theorem on_all {l : Array Bool} (hl : l.size = 12) {i : Nat} (hi : i < 12) (h : l.getD i true = true) : On1 l i := by
  unfold On1
  rw [Array.getD_eq_getD_getElem?] at h ⊢
  rw [Array.getElem?_eq_getElem (by omega)] at h ⊢
  exact h
theorem Bk.fin {w0 w : World} {x y : Value} {k a d : Int} (h : Bk w0 w True x y) (hy : y = ag k a d) : ∃ g, x = .pointer (some ⟨g, 0, none⟩) ∧ Blk w g 27 [.int .i64 k, .int .i64 a, .int .i64 d, .string ⟨#[]⟩, .slice none 0 0] := by
  obtain ⟨g, old, h1, h2, h3, h4, h5, h6⟩ := h
  refine ⟨g, h1, ?_⟩
  have := h6 trivial
  rw [hy] at this
  unfold ag at this
  injection this with this
  have e : old = [.int .i64 k, .int .i64 a, .int .i64 d, .string ⟨#[]⟩, .slice none 0 0] := by
    have := congrArg Array.toList this
    simpa using this.symm
  rw [← e]; exact h5
theorem dep_of {md : Region.Mode} {l : Array Bool} {o : Oper} (h : o.after.all (fun e => !Region.binds md e || l.getD e.on false) = true) (k : Nat) {e} (he : o.after[k]? = some e) (hb : Region.binds md e = true) : l.getD e.on false = true := by
  rw [Array.all_eq_true'] at h
  have := h e (Array.mem_of_getElem? he)
  rw [hb] at this
  simpa using this
theorem up {l : Array Bool} {i j : Nat} (h : On1 l j) : On1 (l.setIfInBounds i true) j := by
  unfold On1 at *
  rw [Array.getD_eq_getD_getElem?] at h ⊢
  by_cases hij : j = i
  · subst hij
    rw [Array.getElem?_setIfInBounds_self]
    split
    · rfl
    · rename_i hb; rw [Array.getElem?_eq_none (by omega)] at h; exact h
  · rw [Array.getElem?_setIfInBounds_ne (by omega)]; exact h

theorem same_frac (q a d : Nat) (hf : Fr q a d) (hq : q ≤ 96000000) (b : Nat) (hb : b = fx (q : Int) (-4)) (w : World) :
    Calls Tryz.prog 22 #[.agg #[.int .i64 1, .float .f64 b, .string ⟨#[]⟩, .slice none 0 0], .agg #[.int .i64 1, .int .i64 a, .int .i64 d, .string ⟨#[]⟩, .slice none 0 0]] w fun e w' => e = .returned (.bool true) ∧ Below w.heap.size w w' := by
  have ho : FloatKind.f64.format.order b b = some .eq := (by rw [hb]; exact order_self (by omega) (by omega) (by omega))
  obtain ⟨h1, h2, h3⟩ := hf
  have ha : a ≤ 96000000 := (by rcases h1 with rfl | rfl | rfl | rfl | rfl <;> omega)
  have hd : 0 < d := (by omega)
  have hd16 : d ≤ 16 := (by omega)
  refine same_quad 1 b ⟨#[]⟩ 1 a d ⟨#[]⟩ w (by rw [ho]; rfl) fun w1 => ?_
  rw [hb]
  refine of_num a d (fx (a : Int) 0) (fx (d : Int) 0) (fx (q : Int) (-4)) (conv_int a) (conv_int d) (fun w' => run_float_arith w' .quo 34 .f64 _ _ _ (div_reads (a := (a : Int)) (b := (d : Int)) (c := (q : Int)) (reads_fx _ _ (by omega) (by omega) (by omega)) (reads_fx _ _ (by omega) (by omega) (by omega)) (by omega) (by omega) ?_)) w1
  have h : ((a * 16 : Nat) : Int) = ((q * d : Nat) : Int) := (by rw [h2])
  push_cast at h
  omega
theorem same_int1 (m : Nat) (hm : m ≤ 100000) (b : Nat) (hb : b = fx (m : Int) 0) (w : World) :
    Calls Tryz.prog 22 #[.agg #[.int .i64 1, .float .f64 b, .string ⟨#[]⟩, .slice none 0 0], .agg #[.int .i64 1, .int .i64 m, .int .i64 1, .string ⟨#[]⟩, .slice none 0 0]] w fun e w' => e = .returned (.bool true) ∧ Below w.heap.size w w' := by
  subst hb
  exact same_true (.int m) w ⟨by omega, by omega⟩
set_option maxRecDepth 20000 in
set_option maxHeartbeats 2000000 in
theorem sumsCells_zero (A : Option Addr) (c : Nat) (w : World) : Calls Tryz.prog 20 #[.slice A 0 c] w fun e w' => ∃ (v : Value) (xs : List Cel), e = .returned (.agg #[.int .i64 5, .int .i64 0, .int .i64 0, .string ⟨#[]⟩, v]) ∧ Tab w.heap.size w' 31 27 5 v (xs.map fun x => [x.cells]) ∧ (∀ x ∈ xs, x.Ok) ∧ xs.length ≤ 60 ∧ Below w.heap.size w w' := by
  go_enter Tryz.func20, Tryz.ntmps20
  go_wp2_with fail
  refine wp_loop_rounds 1 ?_
  rw [rounds_succ]
  go_wp2_with fail
  refine (table_any (.slice none 0 0) _ (.inl rfl)).mono ?_
  rintro e w4 ⟨rfl, hb4⟩
  have HG4 : Hid (Blk w4 w.heap.size 27 [.int .i64 0, .int .i64 0, .int .i64 0, .string ⟨#[]⟩, .slice none 0 0]) := (Blk.new w 27 [.int .i64 0, .int .i64 0, .int .i64 0, .string ⟨#[]⟩, .slice none 0 0]).below hb4 (by simp)
  have HB5 : Hid (Below w.heap.size w w4) := Below.trans (by go_grown) (hb4.mono (by simp))
  clear hb4
  go_wp2_with (refine store_row rfl 27 (.tmp 2) (.tmp 48) rfl w.heap.size 27 [.int .i64 0, .int .i64 0, .int .i64 0, .string ⟨#[]⟩, .slice none 0 0] [.int .i64 5, .int .i64 0, .int .i64 0, .string ⟨#[]⟩, .slice none 0 0] rfl rfl HG4.out sz27 rfl rfl w.heap.size (Nat.le_refl _) ?_; intro w6 hr6 hb6 hp6)
  exact bodyPost_ret (ret_row rfl _ _ w.heap.size 27 [.int .i64 5, .int .i64 0, .int .i64 0, .string ⟨#[]⟩, .slice none 0 0] _ rfl hr6 Tryz.underlying27 rfl sz27) rfl ⟨.slice none 0 0, [], rfl, Tab.nil, by simp, by simp, HB5.out.trans hb6⟩
def cs35 : List Cel := [.int 3, .int 5]
theorem max35 : IsMax (nums cs35) 5 := ⟨by decide, by decide⟩
theorem cs35_ok : ∀ x ∈ cs35, x.Ok := by
  intro x hx; simp [cs35] at hx; rcases hx with rfl | rfl <;> show _ ≤ _ <;> omega

theorem val_of {P : Res → Prop} {b : Nat} {w : World} {e : Ending} {w' : World} (h : GivesVal P w e w') (hp : ∀ r, P r → r = .num b) : e = .returned (.agg #[.int .i64 1, .float .f64 b, .string ⟨#[]⟩, .slice none 0 0]) ∧ Below w.heap.size w w' := by
  obtain ⟨r, he, hr, hb⟩ := h
  obtain rfl := hp r hr
  exact ⟨he, hb⟩
theorem tsOk (cs : List Cel) (hok : ∀ x ∈ cs, x.Ok) (hn : cs.length ≤ 60) (hnn : nums cs ≠ []) : TsOk [cs.map Cel.atom] :=
  ⟨by intro t ht a ha; simp at ht; subst ht; obtain ⟨x, hx, rfl⟩ := List.mem_map.1 ha; exact cel_good x (hok x hx), by intro t ht h; simp at ht; subst ht; exact hnn (by rw [List.map_eq_nil_iff.1 h]; rfl), by intro t ht; simp at ht; subst ht; rw [List.length_map]; omega, by simp, by simp⟩
theorem avg_val (cs : List Cel) (hok : ∀ x ∈ cs, x.Ok) (hn : cs.length ≤ 60) (hnn : nums cs ≠ []) (q : Nat) (hq : (nums cs).sum * 16 = q * (nums cs).length) (b : Nat) (hb : b = fx (q : Int) (-4)) (v : Value) (w : World) (hv : TabVals w 29 37 v [cs.map Cel.atom]) :
    Calls Tryz.prog 26 #[v] w fun e w' => e = .returned (.agg #[.int .i64 1, .float .f64 b, .string ⟨#[]⟩, .slice none 0 0]) ∧ Below w.heap.size w w' :=
  (avg_impl _ (tsOk cs hok hn hnn) _ v w hv (fun _ => True) trivial ⟨fun _ _ _ _ => trivial⟩ (avg_gives cs hok hn hnn q hq)).mono fun e w' h => val_of h fun r hr => by rw [hr, hb]
theorem maxa_val (cs : List Cel) (hok : ∀ x ∈ cs, x.Ok) (hn : cs.length ≤ 60) (m : Nat) (hm : IsMax (nums cs) m) (b : Nat) (hb : b = fx (m : Int) 0) (v : Value) (w : World) (hv : TabVals w 29 37 v [cs.map Cel.atom]) :
    Calls Tryz.prog 23 #[v] w fun e w' => e = .returned (.agg #[.int .i64 1, .float .f64 b, .string ⟨#[]⟩, .slice none 0 0]) ∧ Below w.heap.size w w' :=
  (maxa_impl _ (tsOk cs hok hn fun h => by have := hm.1; rw [h] at this; cases this) _ v w hv (fun _ => True) trivial ⟨fun _ _ _ _ => trivial⟩ (maxa_gives cs hok hn m hm)).mono fun e w' h => val_of h fun r hr => by rw [hr, hb]
theorem mina_val (cs : List Cel) (hok : ∀ x ∈ cs, x.Ok) (hn : cs.length ≤ 60) (m : Nat) (hm : IsMin (nums cs) m) (b : Nat) (hb : b = fx (m : Int) 0) (v : Value) (w : World) (hv : TabVals w 29 37 v [cs.map Cel.atom]) :
    Calls Tryz.prog 27 #[v] w fun e w' => e = .returned (.agg #[.int .i64 1, .float .f64 b, .string ⟨#[]⟩, .slice none 0 0]) ∧ Below w.heap.size w w' :=
  (mina_impl _ (tsOk cs hok hn fun h => by have := hm.1; rw [h] at this; cases this) _ v w hv (fun _ => True) trivial ⟨fun _ _ _ _ => trivial⟩ (mina_gives cs hok hn m hm)).mono fun e w' h => val_of h fun r hr => by rw [hr, hb]

theorem on_alln {l : Array Bool} {n : Nat} (hl : l.size = n) {i : Nat} (hi : i < n) (h : l.getD i true = true) : On1 l i := by
  unfold On1
  rw [Array.getD_eq_getD_getElem?] at h ⊢
  rw [Array.getElem?_eq_getElem (by omega)] at h ⊢
  exact h
def Con (w8 : World) (f : Nat) (args : Array Value) (v : Value) : Prop := ∀ W, Below w8.heap.size w8 W → Calls Tryz.prog f args W fun e w' => e = .returned v ∧ Below W.heap.size W w'
theorem conA (cs : List Cel) (hok : ∀ x ∈ cs, x.Ok) (hn : cs.length ≤ 60) (v8 : Value) (w8 : World) (hv : TabVals w8 29 37 v8 [cs.map Cel.atom]) {k a d : Int} (h : PA cs k a d) :
    ∃ (b : Bool) (v : Value), Con w8 25 #[ag k a d] (.bool b) ∧ (b = false → Con w8 26 #[v8] v) ∧ (b = false → Con w8 22 #[v, ag k a d] (.bool true)) := by
  rcases h with ⟨_, rfl, rfl, rfl⟩ | ⟨hne, rfl, q, a', d', hq, hf, rfl, rfl⟩
  · exact ⟨true, undef, fun W _ => doubtful_yes 6 0 0 (by decide) (by decide) W, fun h => Bool.noConfusion h, fun h => Bool.noConfusion h⟩
  · have hq9 : q ≤ 96000000 := by
      have h1 := nums_sum_le hok hn
      have h2 := Nat.le_mul_of_pos_right q (List.length_pos_iff.2 hne)
      omega
    exact ⟨false, _, fun W _ => doubtful_no 1 _ _ (by decide) (by decide) W, fun _ W hW => avg_val cs hok hn hne q hq _ rfl v8 W (hv.keep hW), fun _ W _ => same_frac q a' d' hf hq9 _ rfl W⟩
theorem conB (cs : List Cel) (hok : ∀ x ∈ cs, x.Ok) (hn : cs.length ≤ 60) (v8 : Value) (w8 : World) (hv : TabVals w8 29 37 v8 [cs.map Cel.atom]) {k a d : Int} (h : PB cs k a d) :
    ∃ (b : Bool) (v : Value), Con w8 25 #[ag k a d] (.bool b) ∧ (b = false → Con w8 23 #[v8] v) ∧ (b = false → Con w8 22 #[v, ag k a d] (.bool true)) := by
  rcases h with ⟨_, rfl, rfl, rfl⟩ | ⟨rfl, rfl, m, hm, rfl⟩
  · exact ⟨true, undef, fun W _ => doubtful_yes 6 0 0 (by decide) (by decide) W, fun h => Bool.noConfusion h, fun h => Bool.noConfusion h⟩
  · exact ⟨false, _, fun W _ => doubtful_no 1 _ _ (by decide) (by decide) W, fun _ W hW => maxa_val cs hok hn m hm _ rfl v8 W (hv.keep hW), fun _ W _ => same_int1 m (nums_le hok m hm.1) _ rfl W⟩
theorem conC (cs : List Cel) (hok : ∀ x ∈ cs, x.Ok) (hn : cs.length ≤ 60) (v8 : Value) (w8 : World) (hv : TabVals w8 29 37 v8 [cs.map Cel.atom]) {k a d : Int} (h : PC cs k a d) :
    ∃ (b : Bool) (v : Value), Con w8 25 #[ag k a d] (.bool b) ∧ (b = false → Con w8 27 #[v8] v) ∧ (b = false → Con w8 22 #[v, ag k a d] (.bool true)) := by
  rcases h with ⟨_, rfl, rfl, rfl⟩ | ⟨rfl, rfl, m, hm, rfl⟩
  · exact ⟨true, undef, fun W _ => doubtful_yes 6 0 0 (by decide) (by decide) W, fun h => Bool.noConfusion h, fun h => Bool.noConfusion h⟩
  · exact ⟨false, _, fun W _ => doubtful_no 1 _ _ (by decide) (by decide) W, fun _ W hW => mina_val cs hok hn m hm _ rfl v8 W (hv.keep hW), fun _ W _ => same_int1 m (nums_le hok m hm.1) _ rfl W⟩
/-- The frame of the law in its last statement. -/
def fr7 (y0 y1 y3 y4 y5 y6 y7 y8 y9 y10 y11 y12 y13 y14 y15 y16 y17 y18 y19 y20 y21 y22 y23 y24 y25 y26 y27 y28 y29 x2 x30 x31 x32 x33 x34 x35 x36 x37 x38 x39 x40 x41 x42 x43 x44 x45 x46 x47 x48 x49 x50 x51 x52 x53 x54 x55 x56 x57 x58 x59 x60 : Value) : Act := { tmps := #[y0, y1, x2, y3, y4, y5, y6, y7, y8, y9, y10, y11, y12, y13, y14, y15, y16, y17, y18, y19, y20, y21, y22, y23, y24, y25, y26, y27, y28, y29, x30, x31, x32, x33, x34, x35, x36, x37, x38, x39, x40, x41, x42, x43, x44, x45, x46, x47, x48, x49, x50, x51, x52, x53, x54, x55, x56, x57, x58, x59, x60], defers := [] }
structure Run7 (w8 : World) (agA agB agC vA vB vC v8 : Value) (dA dB dC : Bool) (x2 x30 x31 x32 x33 x34 x35 x36 x37 x38 x39 x40 x41 x42 x43 x44 x45 x46 x47 x48 x49 x50 x51 x52 x53 x54 x55 x56 x57 x58 x59 x60 : Value) (l : Array Bool) (w : World) : Prop where
  bel : Below w8.heap.size w8 w
  r0 : On1 l 0 → x30 = agA
  r1 : On1 l 1 → x31 = .bool dA
  r2 : On1 l 2 → x32 = .bool dA
  r3 : On1 l 3 → dA = false → x33 = v8
  r4 : On1 l 4 → dA = false → x34 = vA
  r5 : On1 l 5 → dA = false → x35 = agA
  r6 : On1 l 6 → dA = false → x36 = .bool true
  r7 : On1 l 7 → x37 = .bool true
  r8 : On1 l 8 → x38 = .bool true
  r9 : On1 l 9 → x39 = agB
  r10 : On1 l 10 → x40 = .bool dB
  r11 : On1 l 11 → x41 = .bool dB
  r12 : On1 l 12 → dB = false → x42 = v8
  r13 : On1 l 13 → dB = false → x43 = vB
  r14 : On1 l 14 → dB = false → x44 = agB
  r15 : On1 l 15 → dB = false → x45 = .bool true
  r16 : On1 l 16 → x46 = .bool true
  r17 : On1 l 17 → x47 = .bool true
  r18 : On1 l 18 → x48 = .bool true
  r19 : On1 l 19 → x49 = agC
  r20 : On1 l 20 → x50 = .bool dC
  r21 : On1 l 21 → x51 = .bool dC
  r22 : On1 l 22 → dC = false → x52 = v8
  r23 : On1 l 23 → dC = false → x53 = vC
  r24 : On1 l 24 → dC = false → x54 = agC
  r25 : On1 l 25 → dC = false → x55 = .bool true
  r26 : On1 l 26 → x56 = .bool true
  r27 : On1 l 27 → x57 = .bool true
  r28 : On1 l 28 → x58 = .bool true
  r29 : On1 l 29 → x59 = .bool true
  r30 : On1 l 30 → x60 = .bool true
  r31 : On1 l 31 → x2 = .bool true

set_option maxRecDepth 20000 in
set_option maxHeartbeats 8000000 in
theorem law4_any (n c : Nat) (A : Option Addr) (w : World) (hn : n ≤ 2147483647)
    (hsc : Calls Tryz.prog 20 #[.slice A n c] w fun e w' => ∃ (v : Value) (xs : List Cel), e = .returned (.agg #[.int .i64 5, .int .i64 0, .int .i64 0, .string ⟨#[]⟩, v]) ∧ Tab w.heap.size w' 31 27 5 v (xs.map fun x => [x.cells]) ∧ (∀ x ∈ xs, x.Ok) ∧ xs.length ≤ 60 ∧ Below w.heap.size w w') :
    Calls Tryz.prog 4 #[.slice A n c] w fun e w' => e = .returned (.bool true) ∧ Below w.heap.size w w' := by
  have HC := Lib.hid hsc
  have hd : decide (2147483647 < (n : Int)) = false := (by simp; omega)
  clear hsc
  go_enter Tryz.func4, Tryz.ntmps4
  go_wp2_with fail
  refine HC.out.mono ?_
  rintro e w1 ⟨v, cs, rfl, htab, hok, hlen, hb⟩
  have HT0 := Lib.hid htab
  have HOK := Lib.hid hok
  have HL := Lib.hid hlen
  have HB1 := Lib.hid hb
  have hone : ([.int .i64 5, .int .i64 0, .int .i64 0, .string ⟨#[]⟩, v] : List Value).all (fun u => u.oneCell') = true := (by rcases htab.cases with h | ⟨g', n', c', h⟩ <;> rw [h] <;> rfl)
  have HO := Lib.hid hone
  clear htab hok hlen hb hone HC
  go_wp2_with (refine store_row rfl 27 (.tmp 3) (.tmp 13) rfl w1.heap.size 27 [.int .i64 0, .int .i64 0, .int .i64 0, .string ⟨#[]⟩, .slice none 0 0] [.int .i64 5, .int .i64 0, .int .i64 0, .string ⟨#[]⟩, v] rfl rfl (Blk.new w1 27 [.int .i64 0, .int .i64 0, .int .i64 0, .string ⟨#[]⟩, .slice none 0 0]) sz27 rfl HO.out w1.heap.size (Nat.le_refl _) ?_; intro w0 hb3 hb0' _; have hb0 : Below w1.heap.size w1 w0 := ((Below.refl _ _).alloc (Nat.le_refl _) _).trans hb0'; have HB3 := Lib.hid hb3; have HB0 := Lib.hid hb0; clear hb3 hb0 hb0')
  refine Code.wp_mono (Q := fun e a w' => e = .normal ∧ Fin4 cs w0 (.slice A n c) n w1.heap.size (.agg #[.int .i64 5, .int .i64 0, .int .i64 0, .string ⟨#[]⟩, v]) a w') ?_ ?_
  · rintro _ a w2 ⟨rfl, g4, g5, g6, k1, a1, d1, k2, a2, d2, k3, a3, d3, rfl, p1, p2, p3, z4, z5, z6, hb2⟩
    have HP := Lib.hid (And.intro p1 (And.intro p2 p3))
    have H4 := Lib.hid z4
    have H5 := Lib.hid z5
    have H6 := Lib.hid z6
    have l3 := HB3.out.lt
    have HB2 : Hid (Below w0.heap.size w0 w2) := Lib.hid hb2
    have l4 := z4.lt
    have l5 := z5.lt
    have l6 := z6.lt
    clear p1 p2 p3 z4 z5 z6 hb2
    unfold fr4 ag
    go_wp2_with fail
    refine (sumsColumn_any [3, 5] (by intro x hx; simp at hx; rcases hx with rfl | rfl <;> decide) _ w2.heap.size 2 (fun i s hs => (Blk.new w2 3 [.int .i64 3, .int .i64 5]).get i (by match i with | 0 => simpa using hs | 1 => simpa using hs | k + 2 => simp at hs)) (by simp) (by simp)).mono ?_
    rintro e w3 ⟨v12, rfl, ht12, hb3'⟩
    have HB23 : Hid (Below w2.heap.size w2 w3) := Below.trans (by go_grown) (hb3'.mono (by simp))
    have HT12 : Hid (Tab 0 w3 31 27 5 v12 (cs35.map fun x => [x.cells])) := Lib.hid (ht12.base (Nat.zero_le _))
    have ho12 : ([.int .i64 5, .int .i64 0, .int .i64 0, .string ⟨#[]⟩, v12] : List Value).all (fun u => u.oneCell') = true := (by rcases ht12.cases with h | ⟨g', n', c', h⟩ <;> rw [h] <;> rfl)
    have HO12 := Lib.hid ho12
    clear ht12 hb3' ho12
    go_wp2_with fail
    have hst : STabs (w3.alloc (.cells #[.int .i64 5, .int .i64 0, .int .i64 0, .string ⟨#[]⟩, v12] 27)) (.slice (some ⟨w3.heap.size, 0, none⟩) 1 1) [cs35] := ⟨[v12], arab_ofBlk (xs := [sRow v12]) (Blk.new w3 27 (sRow v12)) (by intro y hy; simp at hy; subst hy; rfl) (Nat.zero_le _) (by simp [maxLen]), rfl, fun i r t hr ht => by
      match i, hr, ht with
      | 0, hr, ht => simp at hr ht; subst hr ht; exact HT12.out.keep ((Below.refl _ _).alloc (Nat.le_refl _) _)
      | k + 1, hr, ht => simp at hr⟩
    have HST := Lib.hid hst
    clear hst
    refine (all_tabs [cs35] (by intro t ht; simp at ht; subst ht; exact cs35_ok) (by intro t ht; simp at ht; subst ht; decide) (by decide) _ w3.heap.size 1 HST.out).mono ?_
    rintro e w4 ⟨v13, rfl, htv, hb4⟩
    have HTV := Lib.hid htv
    have HB24 : Hid (Below w2.heap.size w2 w4) := HB23.out.trans (Below.trans ((Below.refl _ _).alloc HB23.out.size _) (hb4.mono (by have := HB23.out.size; simp; omega)))
    clear htv hb4
    go_wp2_with fail
    refine (maxa_impl [cs35.map Cel.atom] ⟨by intro t ht a ha; simp at ht; subst ht; obtain ⟨x, hx, rfl⟩ := List.mem_map.1 ha; exact cel_good x (cs35_ok x hx), by intro t ht; simp at ht; subst ht; simp [cs35], by intro t ht; simp at ht; subst ht; decide, by decide, by simp⟩ _ v13 _ HTV.out (fun _ => True) trivial ⟨fun _ _ _ _ => trivial⟩ (maxa_gives cs35 cs35_ok (by decide) 5 max35)).mono ?_
    rintro e w5 ⟨r, rfl, rfl, hb5⟩
    have HB25 : Hid (Below w2.heap.size w2 w5) := HB24.out.trans (hb5.mono HB24.out.size)
    clear hb5
    have hv5 : (Res.num (fx ((5 : Nat) : Int) 0)).atom.val = .agg #[.int .i64 1, .float .f64 (fx ((5 : Nat) : Int) 0), .string ⟨#[]⟩, .slice none 0 0] := rfl
    rw [hv5]
    obtain ⟨b5, hb5⟩ : ∃ b5, b5 = fx ((5 : Nat) : Int) 0 := ⟨_, rfl⟩
    have HBB := Lib.hid hb5
    rw [← hb5]
    clear hb5 hv5
    go_wp2_with fail
    refine (int_spec 5 (by decide) (by decide) _).mono ?_
    rintro e w6 ⟨rfl, hb6⟩
    have HB26 : Hid (Below w2.heap.size w2 w6) := HB25.out.trans (hb6.mono HB25.out.size)
    clear hb6
    go_wp2_with fail
    refine (same_int1 5 (by decide) b5 HBB.out _).mono ?_
    rintro e w7 ⟨rfl, hb7⟩
    have HB27 : Hid (Below w2.heap.size w2 w7) := HB26.out.trans (hb7.mono HB26.out.size)
    have HBT := Lib.hid (HB3.out.below (HB2.out.trans (HB27.out.mono HB2.out.size)) l3)
    have e0 := HBT.out.get 0 rfl
    have e1 := HBT.out.get 1 rfl
    have e2 := HBT.out.get 2 rfl
    have e3 := HBT.out.get 3 rfl
    have e4 := HBT.out.get 4 rfl
    clear hb7
    go_wp2_with fail
    have hst : STabs (w7.alloc (.cells #[.int .i64 5, .int .i64 0, .int .i64 0, .string ⟨#[]⟩, v] 27)) (.slice (some ⟨w7.heap.size, 0, none⟩) 1 1) [cs] := ⟨[v], arab_ofBlk (xs := [sRow v]) (Blk.new w7 27 (sRow v)) (by intro y hy; simp at hy; subst hy; rfl) (Nat.zero_le _) (by simp [maxLen]), rfl, fun i r t hr ht => by
      match i, hr, ht with
      | 0, hr, ht => simp at hr ht; subst hr ht; exact ((((HT0.out.base (Nat.zero_le _)).keep HB0.out).keep HB2.out).keep HB27.out).keep ((Below.refl _ _).alloc (Nat.le_refl _) _)
      | k + 1, hr, ht => simp at hr⟩
    have HST2 := Lib.hid hst
    clear hst
    refine (all_tabs [cs] (by intro t ht; simp at ht; subst ht; exact HOK.out) (by intro t ht; simp at ht; subst ht; exact Nat.le_trans HL.out (by decide)) (by simp) _ w7.heap.size 1 HST2.out).mono ?_
    rintro e w8 ⟨v8, rfl, htv, hb8⟩
    have HTV8 := Lib.hid htv
    have HB28 : Hid (Below w2.heap.size w2 w8) := HB27.out.trans (Below.trans ((Below.refl _ _).alloc HB27.out.size _) (hb8.mono (by have := HB27.out.size; simp; omega)))
    clear htv hb8 e0 e1 e2 e3 e4
    go_wp2_with fail
    have hp := HP.out
    have H4' := H4.out.below HB28.out l4
    have H5' := H5.out.below HB28.out l5
    have H6' := H6.out.below HB28.out l6
    have l4' := H4'.lt
    have l5' := H5'.lt
    have l6' := H6'.lt
    obtain ⟨p1, p2, p3⟩ := hp
    obtain ⟨dA, vA, CA, IA, SA⟩ := conA cs HOK.out HL.out v8 w8 HTV8.out p1
    obtain ⟨dB, vB, CB, IB, SB⟩ := conB cs HOK.out HL.out v8 w8 HTV8.out p2
    obtain ⟨dC, vC, CC, IC, SC⟩ := conC cs HOK.out HL.out v8 w8 HTV8.out p3
    clear HP H4 H5 H6 l4 l5 l6 p1 p2 p3
    have H4 := H4'
    have H5 := H5'
    have H6 := H6'
    have l4 := l4'
    have l5 := l5'
    have l6 := l6'
    clear H4' H5' H6' l4' l5' l6'
    refine Code.wp_mono (Q := fun e a w' => e = .normal ∧ a.tmps.getD 2 undef = .bool true ∧ a.defers = [] ∧ Below w8.heap.size w8 w') ?_ ?_
    · rintro _ a w9 ⟨rfl, ha2, had, hb9⟩
      have HB9 := Lib.hid hb9
      have HA2 := Lib.hid ha2
      have HAD := Lib.hid had
      clear hb9 ha2 had CA IA SA CB IB SB CC IC SC
      go_wp2_with fail
      exact bodyPost_ret (v := .bool true) (by have h2 := HA2.out; rw [Array.getD_eq_getD_getElem?] at h2; simp [results, Tryz.results4, go_sem, h2]) HAD.out ⟨rfl, (HB1.out.trans (HB0.out.mono HB1.out.size)).trans (((HB2.out.trans (HB28.out.mono HB2.out.size)).trans (HB9.out.mono (Nat.le_trans HB2.out.size HB28.out.size))).mono (Nat.le_trans HB1.out.size HB0.out.size))⟩
    · refine wp_region_any (by kernel_rfl) ?_
      refine wpAny_inv (n := 32) (fun l a w' => ∃ x2 x30 x31 x32 x33 x34 x35 x36 x37 x38 x39 x40 x41 x42 x43 x44 x45 x46 x47 x48 x49 x50 x51 x52 x53 x54 x55 x56 x57 x58 x59 x60, a = fr7 (.slice A n c) undef (.pointer (some ⟨w1.heap.size, 0, none⟩)) (.pointer (some ⟨g4, 0, none⟩)) (.pointer (some ⟨g5, 0, none⟩)) (.pointer (some ⟨g6, 0, none⟩)) (.bool true) v8 (.slice A n c) (.int .i64 n) (.bool false) (.slice A n c) (.agg #[.int .i64 5, .int .i64 0, .int .i64 0, .string ⟨#[]⟩, v]) (.agg #[.int .i64 5, .int .i64 0, .int .i64 0, .string ⟨#[]⟩, v]) (ag k1 a1 d1) (.agg #[.int .i64 5, .int .i64 0, .int .i64 0, .string ⟨#[]⟩, v]) (ag k2 a2 d2) (.agg #[.int .i64 5, .int .i64 0, .int .i64 0, .string ⟨#[]⟩, v]) (ag k3 a3 d3) (.slice (some ⟨w2.heap.size, 0, none⟩) 2 2) (.agg #[.int .i64 5, .int .i64 0, .int .i64 0, .string ⟨#[]⟩, v12]) (.slice (some ⟨w3.heap.size, 0, none⟩) 1 1) v13 (.agg #[.int .i64 1, .float .f64 b5, .string ⟨#[]⟩, .slice none 0 0]) (.agg #[.int .i64 1, .int .i64 5, .int .i64 1, .string ⟨#[]⟩, .slice none 0 0]) (.bool true) (.agg #[.int .i64 5, .int .i64 0, .int .i64 0, .string ⟨#[]⟩, v]) (.slice (some ⟨w7.heap.size, 0, none⟩) 1 1) v8 x2 x30 x31 x32 x33 x34 x35 x36 x37 x38 x39 x40 x41 x42 x43 x44 x45 x46 x47 x48 x49 x50 x51 x52 x53 x54 x55 x56 x57 x58 x59 x60 ∧ Run7 w8 (ag k1 a1 d1) (ag k2 a2 d2) (ag k3 a3 d3) vA vB vC v8 dA dB dC x2 x30 x31 x32 x33 x34 x35 x36 x37 x38 x39 x40 x41 x42 x43 x44 x45 x46 x47 x48 x49 x50 x51 x52 x53 x54 x55 x56 x57 x58 x59 x60 l w') ?_ ?_ _ _ _ _ (by rfl) ?_ (by decide)
      · rintro l a w i hl ⟨x2, x30, x31, x32, x33, x34, x35, x36, x37, x38, x39, x40, x41, x42, x43, x44, x45, x46, x47, x48, x49, x50, x51, x52, x53, x54, x55, x56, x57, x58, x59, x60, rfl, J⟩ hi
        have hrs := ready_spec hi
        have hi32 : i < 32 := hrs.1
        have hix : i = 0 ∨ i = 1 ∨ i = 2 ∨ i = 3 ∨ i = 4 ∨ i = 5 ∨ i = 6 ∨ i = 7 ∨ i = 8 ∨ i = 9 ∨ i = 10 ∨ i = 11 ∨ i = 12 ∨ i = 13 ∨ i = 14 ∨ i = 15 ∨ i = 16 ∨ i = 17 ∨ i = 18 ∨ i = 19 ∨ i = 20 ∨ i = 21 ∨ i = 22 ∨ i = 23 ∨ i = 24 ∨ i = 25 ∨ i = 26 ∨ i = 27 ∨ i = 28 ∨ i = 29 ∨ i = 30 ∨ i = 31 := by omega
        clear hi hi32
        rcases hix with rfl | rfl | rfl | rfl | rfl | rfl | rfl | rfl | rfl | rfl | rfl | rfl | rfl | rfl | rfl | rfl | rfl | rfl | rfl | rfl | rfl | rfl | rfl | rfl | rfl | rfl | rfl | rfl | rfl | rfl | rfl | rfl
        · skip
          have hb4 := H4.below J.bel l4
          have c0 := hb4.get 0 rfl
          have c1 := hb4.get 1 rfl
          have c2 := hb4.get 2 rfl
          have c3 := hb4.get 3 rfl
          have c4 := hb4.get 4 rfl
          refine wpOp_step rfl (fun K hK => ?_)
          unfold fr7 ag
          go_simp
          refine hK _ _ ?_
          exact ⟨_, _, _, _, _, _, _, _, _, _, _, _, _, _, _, _, _, _, _, _, _, _, _, _, _, _, _, _, _, _, _, _, rfl, ⟨J.bel, fun _ => rfl, fun h => J.r1 (gl h (by decide)), fun h => J.r2 (gl h (by decide)), fun h => J.r3 (gl h (by decide)), fun h => J.r4 (gl h (by decide)), fun h => J.r5 (gl h (by decide)), fun h => J.r6 (gl h (by decide)), fun h => J.r7 (gl h (by decide)), fun h => J.r8 (gl h (by decide)), fun h => J.r9 (gl h (by decide)), fun h => J.r10 (gl h (by decide)), fun h => J.r11 (gl h (by decide)), fun h => J.r12 (gl h (by decide)), fun h => J.r13 (gl h (by decide)), fun h => J.r14 (gl h (by decide)), fun h => J.r15 (gl h (by decide)), fun h => J.r16 (gl h (by decide)), fun h => J.r17 (gl h (by decide)), fun h => J.r18 (gl h (by decide)), fun h => J.r19 (gl h (by decide)), fun h => J.r20 (gl h (by decide)), fun h => J.r21 (gl h (by decide)), fun h => J.r22 (gl h (by decide)), fun h => J.r23 (gl h (by decide)), fun h => J.r24 (gl h (by decide)), fun h => J.r25 (gl h (by decide)), fun h => J.r26 (gl h (by decide)), fun h => J.r27 (gl h (by decide)), fun h => J.r28 (gl h (by decide)), fun h => J.r29 (gl h (by decide)), fun h => J.r30 (gl h (by decide)), fun h => J.r31 (gl h (by decide))⟩⟩
        · skip
          have e0 := J.r0 (dep_of (hrs.2.2 _ rfl) 0 rfl rfl)
          subst e0
          refine wpOp_step rfl (fun K hK => ?_)
          unfold fr7 ag
          go_simp
          refine (CA w J.bel).mono ?_
          rintro e w' ⟨rfl, hb⟩
          dsimp only
          refine hK _ _ ?_
          exact ⟨_, _, _, _, _, _, _, _, _, _, _, _, _, _, _, _, _, _, _, _, _, _, _, _, _, _, _, _, _, _, _, _, rfl, ⟨J.bel.trans (hb.mono J.bel.size), fun h => J.r0 (gl h (by decide)), fun _ => rfl, fun h => J.r2 (gl h (by decide)), fun h => J.r3 (gl h (by decide)), fun h => J.r4 (gl h (by decide)), fun h => J.r5 (gl h (by decide)), fun h => J.r6 (gl h (by decide)), fun h => J.r7 (gl h (by decide)), fun h => J.r8 (gl h (by decide)), fun h => J.r9 (gl h (by decide)), fun h => J.r10 (gl h (by decide)), fun h => J.r11 (gl h (by decide)), fun h => J.r12 (gl h (by decide)), fun h => J.r13 (gl h (by decide)), fun h => J.r14 (gl h (by decide)), fun h => J.r15 (gl h (by decide)), fun h => J.r16 (gl h (by decide)), fun h => J.r17 (gl h (by decide)), fun h => J.r18 (gl h (by decide)), fun h => J.r19 (gl h (by decide)), fun h => J.r20 (gl h (by decide)), fun h => J.r21 (gl h (by decide)), fun h => J.r22 (gl h (by decide)), fun h => J.r23 (gl h (by decide)), fun h => J.r24 (gl h (by decide)), fun h => J.r25 (gl h (by decide)), fun h => J.r26 (gl h (by decide)), fun h => J.r27 (gl h (by decide)), fun h => J.r28 (gl h (by decide)), fun h => J.r29 (gl h (by decide)), fun h => J.r30 (gl h (by decide)), fun h => J.r31 (gl h (by decide))⟩⟩
        · skip
          have e1 := J.r1 (dep_of (hrs.2.2 _ rfl) 0 rfl rfl)
          subst e1
          refine wpOp_step rfl (fun K hK => ?_)
          unfold fr7 ag
          go_simp
          refine hK _ _ ?_
          exact ⟨_, _, _, _, _, _, _, _, _, _, _, _, _, _, _, _, _, _, _, _, _, _, _, _, _, _, _, _, _, _, _, _, rfl, ⟨J.bel, fun h => J.r0 (gl h (by decide)), fun h => J.r1 (gl h (by decide)), fun _ => rfl, fun h => J.r3 (gl h (by decide)), fun h => J.r4 (gl h (by decide)), fun h => J.r5 (gl h (by decide)), fun h => J.r6 (gl h (by decide)), fun h => J.r7 (gl h (by decide)), fun h => J.r8 (gl h (by decide)), fun h => J.r9 (gl h (by decide)), fun h => J.r10 (gl h (by decide)), fun h => J.r11 (gl h (by decide)), fun h => J.r12 (gl h (by decide)), fun h => J.r13 (gl h (by decide)), fun h => J.r14 (gl h (by decide)), fun h => J.r15 (gl h (by decide)), fun h => J.r16 (gl h (by decide)), fun h => J.r17 (gl h (by decide)), fun h => J.r18 (gl h (by decide)), fun h => J.r19 (gl h (by decide)), fun h => J.r20 (gl h (by decide)), fun h => J.r21 (gl h (by decide)), fun h => J.r22 (gl h (by decide)), fun h => J.r23 (gl h (by decide)), fun h => J.r24 (gl h (by decide)), fun h => J.r25 (gl h (by decide)), fun h => J.r26 (gl h (by decide)), fun h => J.r27 (gl h (by decide)), fun h => J.r28 (gl h (by decide)), fun h => J.r29 (gl h (by decide)), fun h => J.r30 (gl h (by decide)), fun h => J.r31 (gl h (by decide))⟩⟩
        · skip
          cases dA
          · skip
            have e2 := J.r2 (dep_of (hrs.2.2 _ rfl) 0 rfl rfl)
            subst e2
            refine wpOp_step rfl (fun K hK => ?_)
            unfold fr7 ag
            go_simp
            refine hK _ _ ?_
            exact ⟨_, _, _, _, _, _, _, _, _, _, _, _, _, _, _, _, _, _, _, _, _, _, _, _, _, _, _, _, _, _, _, _, rfl, ⟨J.bel, fun h => J.r0 (gl h (by decide)), fun h => J.r1 (gl h (by decide)), fun h => J.r2 (gl h (by decide)), fun _ _ => rfl, fun h => J.r4 (gl h (by decide)), fun h => J.r5 (gl h (by decide)), fun h => J.r6 (gl h (by decide)), fun h => J.r7 (gl h (by decide)), fun h => J.r8 (gl h (by decide)), fun h => J.r9 (gl h (by decide)), fun h => J.r10 (gl h (by decide)), fun h => J.r11 (gl h (by decide)), fun h => J.r12 (gl h (by decide)), fun h => J.r13 (gl h (by decide)), fun h => J.r14 (gl h (by decide)), fun h => J.r15 (gl h (by decide)), fun h => J.r16 (gl h (by decide)), fun h => J.r17 (gl h (by decide)), fun h => J.r18 (gl h (by decide)), fun h => J.r19 (gl h (by decide)), fun h => J.r20 (gl h (by decide)), fun h => J.r21 (gl h (by decide)), fun h => J.r22 (gl h (by decide)), fun h => J.r23 (gl h (by decide)), fun h => J.r24 (gl h (by decide)), fun h => J.r25 (gl h (by decide)), fun h => J.r26 (gl h (by decide)), fun h => J.r27 (gl h (by decide)), fun h => J.r28 (gl h (by decide)), fun h => J.r29 (gl h (by decide)), fun h => J.r30 (gl h (by decide)), fun h => J.r31 (gl h (by decide))⟩⟩
          · skip
            have e2 := J.r2 (dep_of (hrs.2.2 _ rfl) 0 rfl rfl)
            subst e2
            refine wpOp_step rfl (fun K hK => ?_)
            unfold fr7 ag
            go_simp
            refine hK _ _ ?_
            exact ⟨_, _, _, _, _, _, _, _, _, _, _, _, _, _, _, _, _, _, _, _, _, _, _, _, _, _, _, _, _, _, _, _, rfl, ⟨J.bel, fun h => J.r0 (gl h (by decide)), fun h => J.r1 (gl h (by decide)), fun h => J.r2 (gl h (by decide)), fun _ h => Bool.noConfusion h, fun h => J.r4 (gl h (by decide)), fun h => J.r5 (gl h (by decide)), fun h => J.r6 (gl h (by decide)), fun h => J.r7 (gl h (by decide)), fun h => J.r8 (gl h (by decide)), fun h => J.r9 (gl h (by decide)), fun h => J.r10 (gl h (by decide)), fun h => J.r11 (gl h (by decide)), fun h => J.r12 (gl h (by decide)), fun h => J.r13 (gl h (by decide)), fun h => J.r14 (gl h (by decide)), fun h => J.r15 (gl h (by decide)), fun h => J.r16 (gl h (by decide)), fun h => J.r17 (gl h (by decide)), fun h => J.r18 (gl h (by decide)), fun h => J.r19 (gl h (by decide)), fun h => J.r20 (gl h (by decide)), fun h => J.r21 (gl h (by decide)), fun h => J.r22 (gl h (by decide)), fun h => J.r23 (gl h (by decide)), fun h => J.r24 (gl h (by decide)), fun h => J.r25 (gl h (by decide)), fun h => J.r26 (gl h (by decide)), fun h => J.r27 (gl h (by decide)), fun h => J.r28 (gl h (by decide)), fun h => J.r29 (gl h (by decide)), fun h => J.r30 (gl h (by decide)), fun h => J.r31 (gl h (by decide))⟩⟩
        · skip
          cases dA
          · skip
            have e2 := J.r2 (dep_of (hrs.2.2 _ rfl) 1 rfl rfl)
            subst e2
            have e3 := J.r3 (dep_of (hrs.2.2 _ rfl) 0 rfl rfl) rfl
            subst e3
            refine wpOp_step rfl (fun K hK => ?_)
            unfold fr7 ag
            go_simp
            refine (IA rfl w J.bel).mono ?_
            rintro e w' ⟨rfl, hb⟩
            dsimp only
            refine hK _ _ ?_
            exact ⟨_, _, _, _, _, _, _, _, _, _, _, _, _, _, _, _, _, _, _, _, _, _, _, _, _, _, _, _, _, _, _, _, rfl, ⟨J.bel.trans (hb.mono J.bel.size), fun h => J.r0 (gl h (by decide)), fun h => J.r1 (gl h (by decide)), fun h => J.r2 (gl h (by decide)), fun h => J.r3 (gl h (by decide)), fun _ _ => rfl, fun h => J.r5 (gl h (by decide)), fun h => J.r6 (gl h (by decide)), fun h => J.r7 (gl h (by decide)), fun h => J.r8 (gl h (by decide)), fun h => J.r9 (gl h (by decide)), fun h => J.r10 (gl h (by decide)), fun h => J.r11 (gl h (by decide)), fun h => J.r12 (gl h (by decide)), fun h => J.r13 (gl h (by decide)), fun h => J.r14 (gl h (by decide)), fun h => J.r15 (gl h (by decide)), fun h => J.r16 (gl h (by decide)), fun h => J.r17 (gl h (by decide)), fun h => J.r18 (gl h (by decide)), fun h => J.r19 (gl h (by decide)), fun h => J.r20 (gl h (by decide)), fun h => J.r21 (gl h (by decide)), fun h => J.r22 (gl h (by decide)), fun h => J.r23 (gl h (by decide)), fun h => J.r24 (gl h (by decide)), fun h => J.r25 (gl h (by decide)), fun h => J.r26 (gl h (by decide)), fun h => J.r27 (gl h (by decide)), fun h => J.r28 (gl h (by decide)), fun h => J.r29 (gl h (by decide)), fun h => J.r30 (gl h (by decide)), fun h => J.r31 (gl h (by decide))⟩⟩
          · skip
            have e2 := J.r2 (dep_of (hrs.2.2 _ rfl) 1 rfl rfl)
            subst e2
            refine wpOp_step rfl (fun K hK => ?_)
            unfold fr7 ag
            go_simp
            refine hK _ _ ?_
            exact ⟨_, _, _, _, _, _, _, _, _, _, _, _, _, _, _, _, _, _, _, _, _, _, _, _, _, _, _, _, _, _, _, _, rfl, ⟨J.bel, fun h => J.r0 (gl h (by decide)), fun h => J.r1 (gl h (by decide)), fun h => J.r2 (gl h (by decide)), fun h => J.r3 (gl h (by decide)), fun _ h => Bool.noConfusion h, fun h => J.r5 (gl h (by decide)), fun h => J.r6 (gl h (by decide)), fun h => J.r7 (gl h (by decide)), fun h => J.r8 (gl h (by decide)), fun h => J.r9 (gl h (by decide)), fun h => J.r10 (gl h (by decide)), fun h => J.r11 (gl h (by decide)), fun h => J.r12 (gl h (by decide)), fun h => J.r13 (gl h (by decide)), fun h => J.r14 (gl h (by decide)), fun h => J.r15 (gl h (by decide)), fun h => J.r16 (gl h (by decide)), fun h => J.r17 (gl h (by decide)), fun h => J.r18 (gl h (by decide)), fun h => J.r19 (gl h (by decide)), fun h => J.r20 (gl h (by decide)), fun h => J.r21 (gl h (by decide)), fun h => J.r22 (gl h (by decide)), fun h => J.r23 (gl h (by decide)), fun h => J.r24 (gl h (by decide)), fun h => J.r25 (gl h (by decide)), fun h => J.r26 (gl h (by decide)), fun h => J.r27 (gl h (by decide)), fun h => J.r28 (gl h (by decide)), fun h => J.r29 (gl h (by decide)), fun h => J.r30 (gl h (by decide)), fun h => J.r31 (gl h (by decide))⟩⟩
        · skip
          cases dA
          · skip
            have e2 := J.r2 (dep_of (hrs.2.2 _ rfl) 0 rfl rfl)
            subst e2
            have hb4 := H4.below J.bel l4
            have c0 := hb4.get 0 rfl
            have c1 := hb4.get 1 rfl
            have c2 := hb4.get 2 rfl
            have c3 := hb4.get 3 rfl
            have c4 := hb4.get 4 rfl
            refine wpOp_step rfl (fun K hK => ?_)
            unfold fr7 ag
            go_simp
            refine hK _ _ ?_
            exact ⟨_, _, _, _, _, _, _, _, _, _, _, _, _, _, _, _, _, _, _, _, _, _, _, _, _, _, _, _, _, _, _, _, rfl, ⟨J.bel, fun h => J.r0 (gl h (by decide)), fun h => J.r1 (gl h (by decide)), fun h => J.r2 (gl h (by decide)), fun h => J.r3 (gl h (by decide)), fun h => J.r4 (gl h (by decide)), fun _ _ => rfl, fun h => J.r6 (gl h (by decide)), fun h => J.r7 (gl h (by decide)), fun h => J.r8 (gl h (by decide)), fun h => J.r9 (gl h (by decide)), fun h => J.r10 (gl h (by decide)), fun h => J.r11 (gl h (by decide)), fun h => J.r12 (gl h (by decide)), fun h => J.r13 (gl h (by decide)), fun h => J.r14 (gl h (by decide)), fun h => J.r15 (gl h (by decide)), fun h => J.r16 (gl h (by decide)), fun h => J.r17 (gl h (by decide)), fun h => J.r18 (gl h (by decide)), fun h => J.r19 (gl h (by decide)), fun h => J.r20 (gl h (by decide)), fun h => J.r21 (gl h (by decide)), fun h => J.r22 (gl h (by decide)), fun h => J.r23 (gl h (by decide)), fun h => J.r24 (gl h (by decide)), fun h => J.r25 (gl h (by decide)), fun h => J.r26 (gl h (by decide)), fun h => J.r27 (gl h (by decide)), fun h => J.r28 (gl h (by decide)), fun h => J.r29 (gl h (by decide)), fun h => J.r30 (gl h (by decide)), fun h => J.r31 (gl h (by decide))⟩⟩
          · skip
            have e2 := J.r2 (dep_of (hrs.2.2 _ rfl) 0 rfl rfl)
            subst e2
            refine wpOp_step rfl (fun K hK => ?_)
            unfold fr7 ag
            go_simp
            refine hK _ _ ?_
            exact ⟨_, _, _, _, _, _, _, _, _, _, _, _, _, _, _, _, _, _, _, _, _, _, _, _, _, _, _, _, _, _, _, _, rfl, ⟨J.bel, fun h => J.r0 (gl h (by decide)), fun h => J.r1 (gl h (by decide)), fun h => J.r2 (gl h (by decide)), fun h => J.r3 (gl h (by decide)), fun h => J.r4 (gl h (by decide)), fun _ h => Bool.noConfusion h, fun h => J.r6 (gl h (by decide)), fun h => J.r7 (gl h (by decide)), fun h => J.r8 (gl h (by decide)), fun h => J.r9 (gl h (by decide)), fun h => J.r10 (gl h (by decide)), fun h => J.r11 (gl h (by decide)), fun h => J.r12 (gl h (by decide)), fun h => J.r13 (gl h (by decide)), fun h => J.r14 (gl h (by decide)), fun h => J.r15 (gl h (by decide)), fun h => J.r16 (gl h (by decide)), fun h => J.r17 (gl h (by decide)), fun h => J.r18 (gl h (by decide)), fun h => J.r19 (gl h (by decide)), fun h => J.r20 (gl h (by decide)), fun h => J.r21 (gl h (by decide)), fun h => J.r22 (gl h (by decide)), fun h => J.r23 (gl h (by decide)), fun h => J.r24 (gl h (by decide)), fun h => J.r25 (gl h (by decide)), fun h => J.r26 (gl h (by decide)), fun h => J.r27 (gl h (by decide)), fun h => J.r28 (gl h (by decide)), fun h => J.r29 (gl h (by decide)), fun h => J.r30 (gl h (by decide)), fun h => J.r31 (gl h (by decide))⟩⟩
        · skip
          cases dA
          · skip
            have e2 := J.r2 (dep_of (hrs.2.2 _ rfl) 3 rfl rfl)
            subst e2
            have e4 := J.r4 (dep_of (hrs.2.2 _ rfl) 0 rfl rfl) rfl
            subst e4
            have e5 := J.r5 (dep_of (hrs.2.2 _ rfl) 1 rfl rfl) rfl
            subst e5
            refine wpOp_step rfl (fun K hK => ?_)
            unfold fr7 ag
            go_simp
            refine (SA rfl w J.bel).mono ?_
            rintro e w' ⟨rfl, hb⟩
            dsimp only
            refine hK _ _ ?_
            exact ⟨_, _, _, _, _, _, _, _, _, _, _, _, _, _, _, _, _, _, _, _, _, _, _, _, _, _, _, _, _, _, _, _, rfl, ⟨J.bel.trans (hb.mono J.bel.size), fun h => J.r0 (gl h (by decide)), fun h => J.r1 (gl h (by decide)), fun h => J.r2 (gl h (by decide)), fun h => J.r3 (gl h (by decide)), fun h => J.r4 (gl h (by decide)), fun h => J.r5 (gl h (by decide)), fun _ _ => rfl, fun h => J.r7 (gl h (by decide)), fun h => J.r8 (gl h (by decide)), fun h => J.r9 (gl h (by decide)), fun h => J.r10 (gl h (by decide)), fun h => J.r11 (gl h (by decide)), fun h => J.r12 (gl h (by decide)), fun h => J.r13 (gl h (by decide)), fun h => J.r14 (gl h (by decide)), fun h => J.r15 (gl h (by decide)), fun h => J.r16 (gl h (by decide)), fun h => J.r17 (gl h (by decide)), fun h => J.r18 (gl h (by decide)), fun h => J.r19 (gl h (by decide)), fun h => J.r20 (gl h (by decide)), fun h => J.r21 (gl h (by decide)), fun h => J.r22 (gl h (by decide)), fun h => J.r23 (gl h (by decide)), fun h => J.r24 (gl h (by decide)), fun h => J.r25 (gl h (by decide)), fun h => J.r26 (gl h (by decide)), fun h => J.r27 (gl h (by decide)), fun h => J.r28 (gl h (by decide)), fun h => J.r29 (gl h (by decide)), fun h => J.r30 (gl h (by decide)), fun h => J.r31 (gl h (by decide))⟩⟩
          · skip
            have e2 := J.r2 (dep_of (hrs.2.2 _ rfl) 3 rfl rfl)
            subst e2
            refine wpOp_step rfl (fun K hK => ?_)
            unfold fr7 ag
            go_simp
            refine hK _ _ ?_
            exact ⟨_, _, _, _, _, _, _, _, _, _, _, _, _, _, _, _, _, _, _, _, _, _, _, _, _, _, _, _, _, _, _, _, rfl, ⟨J.bel, fun h => J.r0 (gl h (by decide)), fun h => J.r1 (gl h (by decide)), fun h => J.r2 (gl h (by decide)), fun h => J.r3 (gl h (by decide)), fun h => J.r4 (gl h (by decide)), fun h => J.r5 (gl h (by decide)), fun _ h => Bool.noConfusion h, fun h => J.r7 (gl h (by decide)), fun h => J.r8 (gl h (by decide)), fun h => J.r9 (gl h (by decide)), fun h => J.r10 (gl h (by decide)), fun h => J.r11 (gl h (by decide)), fun h => J.r12 (gl h (by decide)), fun h => J.r13 (gl h (by decide)), fun h => J.r14 (gl h (by decide)), fun h => J.r15 (gl h (by decide)), fun h => J.r16 (gl h (by decide)), fun h => J.r17 (gl h (by decide)), fun h => J.r18 (gl h (by decide)), fun h => J.r19 (gl h (by decide)), fun h => J.r20 (gl h (by decide)), fun h => J.r21 (gl h (by decide)), fun h => J.r22 (gl h (by decide)), fun h => J.r23 (gl h (by decide)), fun h => J.r24 (gl h (by decide)), fun h => J.r25 (gl h (by decide)), fun h => J.r26 (gl h (by decide)), fun h => J.r27 (gl h (by decide)), fun h => J.r28 (gl h (by decide)), fun h => J.r29 (gl h (by decide)), fun h => J.r30 (gl h (by decide)), fun h => J.r31 (gl h (by decide))⟩⟩
        · skip
          cases dA
          · skip
            have e2 := J.r2 (dep_of (hrs.2.2 _ rfl) 0 rfl rfl)
            subst e2
            have e6 := J.r6 (dep_of (hrs.2.2 _ rfl) 1 rfl rfl) rfl
            subst e6
            refine wpOp_step rfl (fun K hK => ?_)
            unfold fr7 ag
            go_simp
            refine hK _ _ ?_
            exact ⟨_, _, _, _, _, _, _, _, _, _, _, _, _, _, _, _, _, _, _, _, _, _, _, _, _, _, _, _, _, _, _, _, rfl, ⟨J.bel, fun h => J.r0 (gl h (by decide)), fun h => J.r1 (gl h (by decide)), fun h => J.r2 (gl h (by decide)), fun h => J.r3 (gl h (by decide)), fun h => J.r4 (gl h (by decide)), fun h => J.r5 (gl h (by decide)), fun h => J.r6 (gl h (by decide)), fun _ => rfl, fun h => J.r8 (gl h (by decide)), fun h => J.r9 (gl h (by decide)), fun h => J.r10 (gl h (by decide)), fun h => J.r11 (gl h (by decide)), fun h => J.r12 (gl h (by decide)), fun h => J.r13 (gl h (by decide)), fun h => J.r14 (gl h (by decide)), fun h => J.r15 (gl h (by decide)), fun h => J.r16 (gl h (by decide)), fun h => J.r17 (gl h (by decide)), fun h => J.r18 (gl h (by decide)), fun h => J.r19 (gl h (by decide)), fun h => J.r20 (gl h (by decide)), fun h => J.r21 (gl h (by decide)), fun h => J.r22 (gl h (by decide)), fun h => J.r23 (gl h (by decide)), fun h => J.r24 (gl h (by decide)), fun h => J.r25 (gl h (by decide)), fun h => J.r26 (gl h (by decide)), fun h => J.r27 (gl h (by decide)), fun h => J.r28 (gl h (by decide)), fun h => J.r29 (gl h (by decide)), fun h => J.r30 (gl h (by decide)), fun h => J.r31 (gl h (by decide))⟩⟩
          · skip
            have e2 := J.r2 (dep_of (hrs.2.2 _ rfl) 0 rfl rfl)
            subst e2
            refine wpOp_step rfl (fun K hK => ?_)
            unfold fr7 ag
            go_simp
            refine hK _ _ ?_
            exact ⟨_, _, _, _, _, _, _, _, _, _, _, _, _, _, _, _, _, _, _, _, _, _, _, _, _, _, _, _, _, _, _, _, rfl, ⟨J.bel, fun h => J.r0 (gl h (by decide)), fun h => J.r1 (gl h (by decide)), fun h => J.r2 (gl h (by decide)), fun h => J.r3 (gl h (by decide)), fun h => J.r4 (gl h (by decide)), fun h => J.r5 (gl h (by decide)), fun h => J.r6 (gl h (by decide)), fun _ => rfl, fun h => J.r8 (gl h (by decide)), fun h => J.r9 (gl h (by decide)), fun h => J.r10 (gl h (by decide)), fun h => J.r11 (gl h (by decide)), fun h => J.r12 (gl h (by decide)), fun h => J.r13 (gl h (by decide)), fun h => J.r14 (gl h (by decide)), fun h => J.r15 (gl h (by decide)), fun h => J.r16 (gl h (by decide)), fun h => J.r17 (gl h (by decide)), fun h => J.r18 (gl h (by decide)), fun h => J.r19 (gl h (by decide)), fun h => J.r20 (gl h (by decide)), fun h => J.r21 (gl h (by decide)), fun h => J.r22 (gl h (by decide)), fun h => J.r23 (gl h (by decide)), fun h => J.r24 (gl h (by decide)), fun h => J.r25 (gl h (by decide)), fun h => J.r26 (gl h (by decide)), fun h => J.r27 (gl h (by decide)), fun h => J.r28 (gl h (by decide)), fun h => J.r29 (gl h (by decide)), fun h => J.r30 (gl h (by decide)), fun h => J.r31 (gl h (by decide))⟩⟩
        · skip
          have e7 := J.r7 (dep_of (hrs.2.2 _ rfl) 0 rfl rfl)
          subst e7
          refine wpOp_step rfl (fun K hK => ?_)
          unfold fr7 ag
          go_simp
          refine hK _ _ ?_
          exact ⟨_, _, _, _, _, _, _, _, _, _, _, _, _, _, _, _, _, _, _, _, _, _, _, _, _, _, _, _, _, _, _, _, rfl, ⟨J.bel, fun h => J.r0 (gl h (by decide)), fun h => J.r1 (gl h (by decide)), fun h => J.r2 (gl h (by decide)), fun h => J.r3 (gl h (by decide)), fun h => J.r4 (gl h (by decide)), fun h => J.r5 (gl h (by decide)), fun h => J.r6 (gl h (by decide)), fun h => J.r7 (gl h (by decide)), fun _ => rfl, fun h => J.r9 (gl h (by decide)), fun h => J.r10 (gl h (by decide)), fun h => J.r11 (gl h (by decide)), fun h => J.r12 (gl h (by decide)), fun h => J.r13 (gl h (by decide)), fun h => J.r14 (gl h (by decide)), fun h => J.r15 (gl h (by decide)), fun h => J.r16 (gl h (by decide)), fun h => J.r17 (gl h (by decide)), fun h => J.r18 (gl h (by decide)), fun h => J.r19 (gl h (by decide)), fun h => J.r20 (gl h (by decide)), fun h => J.r21 (gl h (by decide)), fun h => J.r22 (gl h (by decide)), fun h => J.r23 (gl h (by decide)), fun h => J.r24 (gl h (by decide)), fun h => J.r25 (gl h (by decide)), fun h => J.r26 (gl h (by decide)), fun h => J.r27 (gl h (by decide)), fun h => J.r28 (gl h (by decide)), fun h => J.r29 (gl h (by decide)), fun h => J.r30 (gl h (by decide)), fun h => J.r31 (gl h (by decide))⟩⟩
        · skip
          have e8 := J.r8 (dep_of (hrs.2.2 _ rfl) 0 rfl rfl)
          subst e8
          have hb5 := H5.below J.bel l5
          have c0 := hb5.get 0 rfl
          have c1 := hb5.get 1 rfl
          have c2 := hb5.get 2 rfl
          have c3 := hb5.get 3 rfl
          have c4 := hb5.get 4 rfl
          refine wpOp_step rfl (fun K hK => ?_)
          unfold fr7 ag
          go_simp
          refine hK _ _ ?_
          exact ⟨_, _, _, _, _, _, _, _, _, _, _, _, _, _, _, _, _, _, _, _, _, _, _, _, _, _, _, _, _, _, _, _, rfl, ⟨J.bel, fun h => J.r0 (gl h (by decide)), fun h => J.r1 (gl h (by decide)), fun h => J.r2 (gl h (by decide)), fun h => J.r3 (gl h (by decide)), fun h => J.r4 (gl h (by decide)), fun h => J.r5 (gl h (by decide)), fun h => J.r6 (gl h (by decide)), fun h => J.r7 (gl h (by decide)), fun h => J.r8 (gl h (by decide)), fun _ => rfl, fun h => J.r10 (gl h (by decide)), fun h => J.r11 (gl h (by decide)), fun h => J.r12 (gl h (by decide)), fun h => J.r13 (gl h (by decide)), fun h => J.r14 (gl h (by decide)), fun h => J.r15 (gl h (by decide)), fun h => J.r16 (gl h (by decide)), fun h => J.r17 (gl h (by decide)), fun h => J.r18 (gl h (by decide)), fun h => J.r19 (gl h (by decide)), fun h => J.r20 (gl h (by decide)), fun h => J.r21 (gl h (by decide)), fun h => J.r22 (gl h (by decide)), fun h => J.r23 (gl h (by decide)), fun h => J.r24 (gl h (by decide)), fun h => J.r25 (gl h (by decide)), fun h => J.r26 (gl h (by decide)), fun h => J.r27 (gl h (by decide)), fun h => J.r28 (gl h (by decide)), fun h => J.r29 (gl h (by decide)), fun h => J.r30 (gl h (by decide)), fun h => J.r31 (gl h (by decide))⟩⟩
        · skip
          have e8 := J.r8 (dep_of (hrs.2.2 _ rfl) 1 rfl rfl)
          subst e8
          have e9 := J.r9 (dep_of (hrs.2.2 _ rfl) 0 rfl rfl)
          subst e9
          refine wpOp_step rfl (fun K hK => ?_)
          unfold fr7 ag
          go_simp
          refine (CB w J.bel).mono ?_
          rintro e w' ⟨rfl, hb⟩
          dsimp only
          refine hK _ _ ?_
          exact ⟨_, _, _, _, _, _, _, _, _, _, _, _, _, _, _, _, _, _, _, _, _, _, _, _, _, _, _, _, _, _, _, _, rfl, ⟨J.bel.trans (hb.mono J.bel.size), fun h => J.r0 (gl h (by decide)), fun h => J.r1 (gl h (by decide)), fun h => J.r2 (gl h (by decide)), fun h => J.r3 (gl h (by decide)), fun h => J.r4 (gl h (by decide)), fun h => J.r5 (gl h (by decide)), fun h => J.r6 (gl h (by decide)), fun h => J.r7 (gl h (by decide)), fun h => J.r8 (gl h (by decide)), fun h => J.r9 (gl h (by decide)), fun _ => rfl, fun h => J.r11 (gl h (by decide)), fun h => J.r12 (gl h (by decide)), fun h => J.r13 (gl h (by decide)), fun h => J.r14 (gl h (by decide)), fun h => J.r15 (gl h (by decide)), fun h => J.r16 (gl h (by decide)), fun h => J.r17 (gl h (by decide)), fun h => J.r18 (gl h (by decide)), fun h => J.r19 (gl h (by decide)), fun h => J.r20 (gl h (by decide)), fun h => J.r21 (gl h (by decide)), fun h => J.r22 (gl h (by decide)), fun h => J.r23 (gl h (by decide)), fun h => J.r24 (gl h (by decide)), fun h => J.r25 (gl h (by decide)), fun h => J.r26 (gl h (by decide)), fun h => J.r27 (gl h (by decide)), fun h => J.r28 (gl h (by decide)), fun h => J.r29 (gl h (by decide)), fun h => J.r30 (gl h (by decide)), fun h => J.r31 (gl h (by decide))⟩⟩
        · skip
          have e8 := J.r8 (dep_of (hrs.2.2 _ rfl) 2 rfl rfl)
          subst e8
          have e10 := J.r10 (dep_of (hrs.2.2 _ rfl) 0 rfl rfl)
          subst e10
          refine wpOp_step rfl (fun K hK => ?_)
          unfold fr7 ag
          go_simp
          refine hK _ _ ?_
          exact ⟨_, _, _, _, _, _, _, _, _, _, _, _, _, _, _, _, _, _, _, _, _, _, _, _, _, _, _, _, _, _, _, _, rfl, ⟨J.bel, fun h => J.r0 (gl h (by decide)), fun h => J.r1 (gl h (by decide)), fun h => J.r2 (gl h (by decide)), fun h => J.r3 (gl h (by decide)), fun h => J.r4 (gl h (by decide)), fun h => J.r5 (gl h (by decide)), fun h => J.r6 (gl h (by decide)), fun h => J.r7 (gl h (by decide)), fun h => J.r8 (gl h (by decide)), fun h => J.r9 (gl h (by decide)), fun h => J.r10 (gl h (by decide)), fun _ => rfl, fun h => J.r12 (gl h (by decide)), fun h => J.r13 (gl h (by decide)), fun h => J.r14 (gl h (by decide)), fun h => J.r15 (gl h (by decide)), fun h => J.r16 (gl h (by decide)), fun h => J.r17 (gl h (by decide)), fun h => J.r18 (gl h (by decide)), fun h => J.r19 (gl h (by decide)), fun h => J.r20 (gl h (by decide)), fun h => J.r21 (gl h (by decide)), fun h => J.r22 (gl h (by decide)), fun h => J.r23 (gl h (by decide)), fun h => J.r24 (gl h (by decide)), fun h => J.r25 (gl h (by decide)), fun h => J.r26 (gl h (by decide)), fun h => J.r27 (gl h (by decide)), fun h => J.r28 (gl h (by decide)), fun h => J.r29 (gl h (by decide)), fun h => J.r30 (gl h (by decide)), fun h => J.r31 (gl h (by decide))⟩⟩
        · skip
          cases dB
          · skip
            have e11 := J.r11 (dep_of (hrs.2.2 _ rfl) 0 rfl rfl)
            subst e11
            refine wpOp_step rfl (fun K hK => ?_)
            unfold fr7 ag
            go_simp
            refine hK _ _ ?_
            exact ⟨_, _, _, _, _, _, _, _, _, _, _, _, _, _, _, _, _, _, _, _, _, _, _, _, _, _, _, _, _, _, _, _, rfl, ⟨J.bel, fun h => J.r0 (gl h (by decide)), fun h => J.r1 (gl h (by decide)), fun h => J.r2 (gl h (by decide)), fun h => J.r3 (gl h (by decide)), fun h => J.r4 (gl h (by decide)), fun h => J.r5 (gl h (by decide)), fun h => J.r6 (gl h (by decide)), fun h => J.r7 (gl h (by decide)), fun h => J.r8 (gl h (by decide)), fun h => J.r9 (gl h (by decide)), fun h => J.r10 (gl h (by decide)), fun h => J.r11 (gl h (by decide)), fun _ _ => rfl, fun h => J.r13 (gl h (by decide)), fun h => J.r14 (gl h (by decide)), fun h => J.r15 (gl h (by decide)), fun h => J.r16 (gl h (by decide)), fun h => J.r17 (gl h (by decide)), fun h => J.r18 (gl h (by decide)), fun h => J.r19 (gl h (by decide)), fun h => J.r20 (gl h (by decide)), fun h => J.r21 (gl h (by decide)), fun h => J.r22 (gl h (by decide)), fun h => J.r23 (gl h (by decide)), fun h => J.r24 (gl h (by decide)), fun h => J.r25 (gl h (by decide)), fun h => J.r26 (gl h (by decide)), fun h => J.r27 (gl h (by decide)), fun h => J.r28 (gl h (by decide)), fun h => J.r29 (gl h (by decide)), fun h => J.r30 (gl h (by decide)), fun h => J.r31 (gl h (by decide))⟩⟩
          · skip
            have e11 := J.r11 (dep_of (hrs.2.2 _ rfl) 0 rfl rfl)
            subst e11
            refine wpOp_step rfl (fun K hK => ?_)
            unfold fr7 ag
            go_simp
            refine hK _ _ ?_
            exact ⟨_, _, _, _, _, _, _, _, _, _, _, _, _, _, _, _, _, _, _, _, _, _, _, _, _, _, _, _, _, _, _, _, rfl, ⟨J.bel, fun h => J.r0 (gl h (by decide)), fun h => J.r1 (gl h (by decide)), fun h => J.r2 (gl h (by decide)), fun h => J.r3 (gl h (by decide)), fun h => J.r4 (gl h (by decide)), fun h => J.r5 (gl h (by decide)), fun h => J.r6 (gl h (by decide)), fun h => J.r7 (gl h (by decide)), fun h => J.r8 (gl h (by decide)), fun h => J.r9 (gl h (by decide)), fun h => J.r10 (gl h (by decide)), fun h => J.r11 (gl h (by decide)), fun _ h => Bool.noConfusion h, fun h => J.r13 (gl h (by decide)), fun h => J.r14 (gl h (by decide)), fun h => J.r15 (gl h (by decide)), fun h => J.r16 (gl h (by decide)), fun h => J.r17 (gl h (by decide)), fun h => J.r18 (gl h (by decide)), fun h => J.r19 (gl h (by decide)), fun h => J.r20 (gl h (by decide)), fun h => J.r21 (gl h (by decide)), fun h => J.r22 (gl h (by decide)), fun h => J.r23 (gl h (by decide)), fun h => J.r24 (gl h (by decide)), fun h => J.r25 (gl h (by decide)), fun h => J.r26 (gl h (by decide)), fun h => J.r27 (gl h (by decide)), fun h => J.r28 (gl h (by decide)), fun h => J.r29 (gl h (by decide)), fun h => J.r30 (gl h (by decide)), fun h => J.r31 (gl h (by decide))⟩⟩
        · skip
          cases dB
          · skip
            have e11 := J.r11 (dep_of (hrs.2.2 _ rfl) 1 rfl rfl)
            subst e11
            have e12 := J.r12 (dep_of (hrs.2.2 _ rfl) 0 rfl rfl) rfl
            subst e12
            refine wpOp_step rfl (fun K hK => ?_)
            unfold fr7 ag
            go_simp
            refine (IB rfl w J.bel).mono ?_
            rintro e w' ⟨rfl, hb⟩
            dsimp only
            refine hK _ _ ?_
            exact ⟨_, _, _, _, _, _, _, _, _, _, _, _, _, _, _, _, _, _, _, _, _, _, _, _, _, _, _, _, _, _, _, _, rfl, ⟨J.bel.trans (hb.mono J.bel.size), fun h => J.r0 (gl h (by decide)), fun h => J.r1 (gl h (by decide)), fun h => J.r2 (gl h (by decide)), fun h => J.r3 (gl h (by decide)), fun h => J.r4 (gl h (by decide)), fun h => J.r5 (gl h (by decide)), fun h => J.r6 (gl h (by decide)), fun h => J.r7 (gl h (by decide)), fun h => J.r8 (gl h (by decide)), fun h => J.r9 (gl h (by decide)), fun h => J.r10 (gl h (by decide)), fun h => J.r11 (gl h (by decide)), fun h => J.r12 (gl h (by decide)), fun _ _ => rfl, fun h => J.r14 (gl h (by decide)), fun h => J.r15 (gl h (by decide)), fun h => J.r16 (gl h (by decide)), fun h => J.r17 (gl h (by decide)), fun h => J.r18 (gl h (by decide)), fun h => J.r19 (gl h (by decide)), fun h => J.r20 (gl h (by decide)), fun h => J.r21 (gl h (by decide)), fun h => J.r22 (gl h (by decide)), fun h => J.r23 (gl h (by decide)), fun h => J.r24 (gl h (by decide)), fun h => J.r25 (gl h (by decide)), fun h => J.r26 (gl h (by decide)), fun h => J.r27 (gl h (by decide)), fun h => J.r28 (gl h (by decide)), fun h => J.r29 (gl h (by decide)), fun h => J.r30 (gl h (by decide)), fun h => J.r31 (gl h (by decide))⟩⟩
          · skip
            have e11 := J.r11 (dep_of (hrs.2.2 _ rfl) 1 rfl rfl)
            subst e11
            refine wpOp_step rfl (fun K hK => ?_)
            unfold fr7 ag
            go_simp
            refine hK _ _ ?_
            exact ⟨_, _, _, _, _, _, _, _, _, _, _, _, _, _, _, _, _, _, _, _, _, _, _, _, _, _, _, _, _, _, _, _, rfl, ⟨J.bel, fun h => J.r0 (gl h (by decide)), fun h => J.r1 (gl h (by decide)), fun h => J.r2 (gl h (by decide)), fun h => J.r3 (gl h (by decide)), fun h => J.r4 (gl h (by decide)), fun h => J.r5 (gl h (by decide)), fun h => J.r6 (gl h (by decide)), fun h => J.r7 (gl h (by decide)), fun h => J.r8 (gl h (by decide)), fun h => J.r9 (gl h (by decide)), fun h => J.r10 (gl h (by decide)), fun h => J.r11 (gl h (by decide)), fun h => J.r12 (gl h (by decide)), fun _ h => Bool.noConfusion h, fun h => J.r14 (gl h (by decide)), fun h => J.r15 (gl h (by decide)), fun h => J.r16 (gl h (by decide)), fun h => J.r17 (gl h (by decide)), fun h => J.r18 (gl h (by decide)), fun h => J.r19 (gl h (by decide)), fun h => J.r20 (gl h (by decide)), fun h => J.r21 (gl h (by decide)), fun h => J.r22 (gl h (by decide)), fun h => J.r23 (gl h (by decide)), fun h => J.r24 (gl h (by decide)), fun h => J.r25 (gl h (by decide)), fun h => J.r26 (gl h (by decide)), fun h => J.r27 (gl h (by decide)), fun h => J.r28 (gl h (by decide)), fun h => J.r29 (gl h (by decide)), fun h => J.r30 (gl h (by decide)), fun h => J.r31 (gl h (by decide))⟩⟩
        · skip
          cases dB
          · skip
            have e11 := J.r11 (dep_of (hrs.2.2 _ rfl) 0 rfl rfl)
            subst e11
            have hb5 := H5.below J.bel l5
            have c0 := hb5.get 0 rfl
            have c1 := hb5.get 1 rfl
            have c2 := hb5.get 2 rfl
            have c3 := hb5.get 3 rfl
            have c4 := hb5.get 4 rfl
            refine wpOp_step rfl (fun K hK => ?_)
            unfold fr7 ag
            go_simp
            refine hK _ _ ?_
            exact ⟨_, _, _, _, _, _, _, _, _, _, _, _, _, _, _, _, _, _, _, _, _, _, _, _, _, _, _, _, _, _, _, _, rfl, ⟨J.bel, fun h => J.r0 (gl h (by decide)), fun h => J.r1 (gl h (by decide)), fun h => J.r2 (gl h (by decide)), fun h => J.r3 (gl h (by decide)), fun h => J.r4 (gl h (by decide)), fun h => J.r5 (gl h (by decide)), fun h => J.r6 (gl h (by decide)), fun h => J.r7 (gl h (by decide)), fun h => J.r8 (gl h (by decide)), fun h => J.r9 (gl h (by decide)), fun h => J.r10 (gl h (by decide)), fun h => J.r11 (gl h (by decide)), fun h => J.r12 (gl h (by decide)), fun h => J.r13 (gl h (by decide)), fun _ _ => rfl, fun h => J.r15 (gl h (by decide)), fun h => J.r16 (gl h (by decide)), fun h => J.r17 (gl h (by decide)), fun h => J.r18 (gl h (by decide)), fun h => J.r19 (gl h (by decide)), fun h => J.r20 (gl h (by decide)), fun h => J.r21 (gl h (by decide)), fun h => J.r22 (gl h (by decide)), fun h => J.r23 (gl h (by decide)), fun h => J.r24 (gl h (by decide)), fun h => J.r25 (gl h (by decide)), fun h => J.r26 (gl h (by decide)), fun h => J.r27 (gl h (by decide)), fun h => J.r28 (gl h (by decide)), fun h => J.r29 (gl h (by decide)), fun h => J.r30 (gl h (by decide)), fun h => J.r31 (gl h (by decide))⟩⟩
          · skip
            have e11 := J.r11 (dep_of (hrs.2.2 _ rfl) 0 rfl rfl)
            subst e11
            refine wpOp_step rfl (fun K hK => ?_)
            unfold fr7 ag
            go_simp
            refine hK _ _ ?_
            exact ⟨_, _, _, _, _, _, _, _, _, _, _, _, _, _, _, _, _, _, _, _, _, _, _, _, _, _, _, _, _, _, _, _, rfl, ⟨J.bel, fun h => J.r0 (gl h (by decide)), fun h => J.r1 (gl h (by decide)), fun h => J.r2 (gl h (by decide)), fun h => J.r3 (gl h (by decide)), fun h => J.r4 (gl h (by decide)), fun h => J.r5 (gl h (by decide)), fun h => J.r6 (gl h (by decide)), fun h => J.r7 (gl h (by decide)), fun h => J.r8 (gl h (by decide)), fun h => J.r9 (gl h (by decide)), fun h => J.r10 (gl h (by decide)), fun h => J.r11 (gl h (by decide)), fun h => J.r12 (gl h (by decide)), fun h => J.r13 (gl h (by decide)), fun _ h => Bool.noConfusion h, fun h => J.r15 (gl h (by decide)), fun h => J.r16 (gl h (by decide)), fun h => J.r17 (gl h (by decide)), fun h => J.r18 (gl h (by decide)), fun h => J.r19 (gl h (by decide)), fun h => J.r20 (gl h (by decide)), fun h => J.r21 (gl h (by decide)), fun h => J.r22 (gl h (by decide)), fun h => J.r23 (gl h (by decide)), fun h => J.r24 (gl h (by decide)), fun h => J.r25 (gl h (by decide)), fun h => J.r26 (gl h (by decide)), fun h => J.r27 (gl h (by decide)), fun h => J.r28 (gl h (by decide)), fun h => J.r29 (gl h (by decide)), fun h => J.r30 (gl h (by decide)), fun h => J.r31 (gl h (by decide))⟩⟩
        · skip
          cases dB
          · skip
            have e11 := J.r11 (dep_of (hrs.2.2 _ rfl) 3 rfl rfl)
            subst e11
            have e13 := J.r13 (dep_of (hrs.2.2 _ rfl) 0 rfl rfl) rfl
            subst e13
            have e14 := J.r14 (dep_of (hrs.2.2 _ rfl) 1 rfl rfl) rfl
            subst e14
            refine wpOp_step rfl (fun K hK => ?_)
            unfold fr7 ag
            go_simp
            refine (SB rfl w J.bel).mono ?_
            rintro e w' ⟨rfl, hb⟩
            dsimp only
            refine hK _ _ ?_
            exact ⟨_, _, _, _, _, _, _, _, _, _, _, _, _, _, _, _, _, _, _, _, _, _, _, _, _, _, _, _, _, _, _, _, rfl, ⟨J.bel.trans (hb.mono J.bel.size), fun h => J.r0 (gl h (by decide)), fun h => J.r1 (gl h (by decide)), fun h => J.r2 (gl h (by decide)), fun h => J.r3 (gl h (by decide)), fun h => J.r4 (gl h (by decide)), fun h => J.r5 (gl h (by decide)), fun h => J.r6 (gl h (by decide)), fun h => J.r7 (gl h (by decide)), fun h => J.r8 (gl h (by decide)), fun h => J.r9 (gl h (by decide)), fun h => J.r10 (gl h (by decide)), fun h => J.r11 (gl h (by decide)), fun h => J.r12 (gl h (by decide)), fun h => J.r13 (gl h (by decide)), fun h => J.r14 (gl h (by decide)), fun _ _ => rfl, fun h => J.r16 (gl h (by decide)), fun h => J.r17 (gl h (by decide)), fun h => J.r18 (gl h (by decide)), fun h => J.r19 (gl h (by decide)), fun h => J.r20 (gl h (by decide)), fun h => J.r21 (gl h (by decide)), fun h => J.r22 (gl h (by decide)), fun h => J.r23 (gl h (by decide)), fun h => J.r24 (gl h (by decide)), fun h => J.r25 (gl h (by decide)), fun h => J.r26 (gl h (by decide)), fun h => J.r27 (gl h (by decide)), fun h => J.r28 (gl h (by decide)), fun h => J.r29 (gl h (by decide)), fun h => J.r30 (gl h (by decide)), fun h => J.r31 (gl h (by decide))⟩⟩
          · skip
            have e11 := J.r11 (dep_of (hrs.2.2 _ rfl) 3 rfl rfl)
            subst e11
            refine wpOp_step rfl (fun K hK => ?_)
            unfold fr7 ag
            go_simp
            refine hK _ _ ?_
            exact ⟨_, _, _, _, _, _, _, _, _, _, _, _, _, _, _, _, _, _, _, _, _, _, _, _, _, _, _, _, _, _, _, _, rfl, ⟨J.bel, fun h => J.r0 (gl h (by decide)), fun h => J.r1 (gl h (by decide)), fun h => J.r2 (gl h (by decide)), fun h => J.r3 (gl h (by decide)), fun h => J.r4 (gl h (by decide)), fun h => J.r5 (gl h (by decide)), fun h => J.r6 (gl h (by decide)), fun h => J.r7 (gl h (by decide)), fun h => J.r8 (gl h (by decide)), fun h => J.r9 (gl h (by decide)), fun h => J.r10 (gl h (by decide)), fun h => J.r11 (gl h (by decide)), fun h => J.r12 (gl h (by decide)), fun h => J.r13 (gl h (by decide)), fun h => J.r14 (gl h (by decide)), fun _ h => Bool.noConfusion h, fun h => J.r16 (gl h (by decide)), fun h => J.r17 (gl h (by decide)), fun h => J.r18 (gl h (by decide)), fun h => J.r19 (gl h (by decide)), fun h => J.r20 (gl h (by decide)), fun h => J.r21 (gl h (by decide)), fun h => J.r22 (gl h (by decide)), fun h => J.r23 (gl h (by decide)), fun h => J.r24 (gl h (by decide)), fun h => J.r25 (gl h (by decide)), fun h => J.r26 (gl h (by decide)), fun h => J.r27 (gl h (by decide)), fun h => J.r28 (gl h (by decide)), fun h => J.r29 (gl h (by decide)), fun h => J.r30 (gl h (by decide)), fun h => J.r31 (gl h (by decide))⟩⟩
        · skip
          cases dB
          · skip
            have e8 := J.r8 (dep_of (hrs.2.2 _ rfl) 2 rfl rfl)
            subst e8
            have e11 := J.r11 (dep_of (hrs.2.2 _ rfl) 0 rfl rfl)
            subst e11
            have e15 := J.r15 (dep_of (hrs.2.2 _ rfl) 1 rfl rfl) rfl
            subst e15
            refine wpOp_step rfl (fun K hK => ?_)
            unfold fr7 ag
            go_simp
            refine hK _ _ ?_
            exact ⟨_, _, _, _, _, _, _, _, _, _, _, _, _, _, _, _, _, _, _, _, _, _, _, _, _, _, _, _, _, _, _, _, rfl, ⟨J.bel, fun h => J.r0 (gl h (by decide)), fun h => J.r1 (gl h (by decide)), fun h => J.r2 (gl h (by decide)), fun h => J.r3 (gl h (by decide)), fun h => J.r4 (gl h (by decide)), fun h => J.r5 (gl h (by decide)), fun h => J.r6 (gl h (by decide)), fun h => J.r7 (gl h (by decide)), fun h => J.r8 (gl h (by decide)), fun h => J.r9 (gl h (by decide)), fun h => J.r10 (gl h (by decide)), fun h => J.r11 (gl h (by decide)), fun h => J.r12 (gl h (by decide)), fun h => J.r13 (gl h (by decide)), fun h => J.r14 (gl h (by decide)), fun h => J.r15 (gl h (by decide)), fun _ => rfl, fun h => J.r17 (gl h (by decide)), fun h => J.r18 (gl h (by decide)), fun h => J.r19 (gl h (by decide)), fun h => J.r20 (gl h (by decide)), fun h => J.r21 (gl h (by decide)), fun h => J.r22 (gl h (by decide)), fun h => J.r23 (gl h (by decide)), fun h => J.r24 (gl h (by decide)), fun h => J.r25 (gl h (by decide)), fun h => J.r26 (gl h (by decide)), fun h => J.r27 (gl h (by decide)), fun h => J.r28 (gl h (by decide)), fun h => J.r29 (gl h (by decide)), fun h => J.r30 (gl h (by decide)), fun h => J.r31 (gl h (by decide))⟩⟩
          · skip
            have e8 := J.r8 (dep_of (hrs.2.2 _ rfl) 2 rfl rfl)
            subst e8
            have e11 := J.r11 (dep_of (hrs.2.2 _ rfl) 0 rfl rfl)
            subst e11
            refine wpOp_step rfl (fun K hK => ?_)
            unfold fr7 ag
            go_simp
            refine hK _ _ ?_
            exact ⟨_, _, _, _, _, _, _, _, _, _, _, _, _, _, _, _, _, _, _, _, _, _, _, _, _, _, _, _, _, _, _, _, rfl, ⟨J.bel, fun h => J.r0 (gl h (by decide)), fun h => J.r1 (gl h (by decide)), fun h => J.r2 (gl h (by decide)), fun h => J.r3 (gl h (by decide)), fun h => J.r4 (gl h (by decide)), fun h => J.r5 (gl h (by decide)), fun h => J.r6 (gl h (by decide)), fun h => J.r7 (gl h (by decide)), fun h => J.r8 (gl h (by decide)), fun h => J.r9 (gl h (by decide)), fun h => J.r10 (gl h (by decide)), fun h => J.r11 (gl h (by decide)), fun h => J.r12 (gl h (by decide)), fun h => J.r13 (gl h (by decide)), fun h => J.r14 (gl h (by decide)), fun h => J.r15 (gl h (by decide)), fun _ => rfl, fun h => J.r17 (gl h (by decide)), fun h => J.r18 (gl h (by decide)), fun h => J.r19 (gl h (by decide)), fun h => J.r20 (gl h (by decide)), fun h => J.r21 (gl h (by decide)), fun h => J.r22 (gl h (by decide)), fun h => J.r23 (gl h (by decide)), fun h => J.r24 (gl h (by decide)), fun h => J.r25 (gl h (by decide)), fun h => J.r26 (gl h (by decide)), fun h => J.r27 (gl h (by decide)), fun h => J.r28 (gl h (by decide)), fun h => J.r29 (gl h (by decide)), fun h => J.r30 (gl h (by decide)), fun h => J.r31 (gl h (by decide))⟩⟩
        · skip
          have e8 := J.r8 (dep_of (hrs.2.2 _ rfl) 0 rfl rfl)
          subst e8
          have e16 := J.r16 (dep_of (hrs.2.2 _ rfl) 1 rfl rfl)
          subst e16
          refine wpOp_step rfl (fun K hK => ?_)
          unfold fr7 ag
          go_simp
          refine hK _ _ ?_
          exact ⟨_, _, _, _, _, _, _, _, _, _, _, _, _, _, _, _, _, _, _, _, _, _, _, _, _, _, _, _, _, _, _, _, rfl, ⟨J.bel, fun h => J.r0 (gl h (by decide)), fun h => J.r1 (gl h (by decide)), fun h => J.r2 (gl h (by decide)), fun h => J.r3 (gl h (by decide)), fun h => J.r4 (gl h (by decide)), fun h => J.r5 (gl h (by decide)), fun h => J.r6 (gl h (by decide)), fun h => J.r7 (gl h (by decide)), fun h => J.r8 (gl h (by decide)), fun h => J.r9 (gl h (by decide)), fun h => J.r10 (gl h (by decide)), fun h => J.r11 (gl h (by decide)), fun h => J.r12 (gl h (by decide)), fun h => J.r13 (gl h (by decide)), fun h => J.r14 (gl h (by decide)), fun h => J.r15 (gl h (by decide)), fun h => J.r16 (gl h (by decide)), fun _ => rfl, fun h => J.r18 (gl h (by decide)), fun h => J.r19 (gl h (by decide)), fun h => J.r20 (gl h (by decide)), fun h => J.r21 (gl h (by decide)), fun h => J.r22 (gl h (by decide)), fun h => J.r23 (gl h (by decide)), fun h => J.r24 (gl h (by decide)), fun h => J.r25 (gl h (by decide)), fun h => J.r26 (gl h (by decide)), fun h => J.r27 (gl h (by decide)), fun h => J.r28 (gl h (by decide)), fun h => J.r29 (gl h (by decide)), fun h => J.r30 (gl h (by decide)), fun h => J.r31 (gl h (by decide))⟩⟩
        · skip
          have e17 := J.r17 (dep_of (hrs.2.2 _ rfl) 0 rfl rfl)
          subst e17
          refine wpOp_step rfl (fun K hK => ?_)
          unfold fr7 ag
          go_simp
          refine hK _ _ ?_
          exact ⟨_, _, _, _, _, _, _, _, _, _, _, _, _, _, _, _, _, _, _, _, _, _, _, _, _, _, _, _, _, _, _, _, rfl, ⟨J.bel, fun h => J.r0 (gl h (by decide)), fun h => J.r1 (gl h (by decide)), fun h => J.r2 (gl h (by decide)), fun h => J.r3 (gl h (by decide)), fun h => J.r4 (gl h (by decide)), fun h => J.r5 (gl h (by decide)), fun h => J.r6 (gl h (by decide)), fun h => J.r7 (gl h (by decide)), fun h => J.r8 (gl h (by decide)), fun h => J.r9 (gl h (by decide)), fun h => J.r10 (gl h (by decide)), fun h => J.r11 (gl h (by decide)), fun h => J.r12 (gl h (by decide)), fun h => J.r13 (gl h (by decide)), fun h => J.r14 (gl h (by decide)), fun h => J.r15 (gl h (by decide)), fun h => J.r16 (gl h (by decide)), fun h => J.r17 (gl h (by decide)), fun _ => rfl, fun h => J.r19 (gl h (by decide)), fun h => J.r20 (gl h (by decide)), fun h => J.r21 (gl h (by decide)), fun h => J.r22 (gl h (by decide)), fun h => J.r23 (gl h (by decide)), fun h => J.r24 (gl h (by decide)), fun h => J.r25 (gl h (by decide)), fun h => J.r26 (gl h (by decide)), fun h => J.r27 (gl h (by decide)), fun h => J.r28 (gl h (by decide)), fun h => J.r29 (gl h (by decide)), fun h => J.r30 (gl h (by decide)), fun h => J.r31 (gl h (by decide))⟩⟩
        · skip
          have e18 := J.r18 (dep_of (hrs.2.2 _ rfl) 0 rfl rfl)
          subst e18
          have hb6 := H6.below J.bel l6
          have c0 := hb6.get 0 rfl
          have c1 := hb6.get 1 rfl
          have c2 := hb6.get 2 rfl
          have c3 := hb6.get 3 rfl
          have c4 := hb6.get 4 rfl
          refine wpOp_step rfl (fun K hK => ?_)
          unfold fr7 ag
          go_simp
          refine hK _ _ ?_
          exact ⟨_, _, _, _, _, _, _, _, _, _, _, _, _, _, _, _, _, _, _, _, _, _, _, _, _, _, _, _, _, _, _, _, rfl, ⟨J.bel, fun h => J.r0 (gl h (by decide)), fun h => J.r1 (gl h (by decide)), fun h => J.r2 (gl h (by decide)), fun h => J.r3 (gl h (by decide)), fun h => J.r4 (gl h (by decide)), fun h => J.r5 (gl h (by decide)), fun h => J.r6 (gl h (by decide)), fun h => J.r7 (gl h (by decide)), fun h => J.r8 (gl h (by decide)), fun h => J.r9 (gl h (by decide)), fun h => J.r10 (gl h (by decide)), fun h => J.r11 (gl h (by decide)), fun h => J.r12 (gl h (by decide)), fun h => J.r13 (gl h (by decide)), fun h => J.r14 (gl h (by decide)), fun h => J.r15 (gl h (by decide)), fun h => J.r16 (gl h (by decide)), fun h => J.r17 (gl h (by decide)), fun h => J.r18 (gl h (by decide)), fun _ => rfl, fun h => J.r20 (gl h (by decide)), fun h => J.r21 (gl h (by decide)), fun h => J.r22 (gl h (by decide)), fun h => J.r23 (gl h (by decide)), fun h => J.r24 (gl h (by decide)), fun h => J.r25 (gl h (by decide)), fun h => J.r26 (gl h (by decide)), fun h => J.r27 (gl h (by decide)), fun h => J.r28 (gl h (by decide)), fun h => J.r29 (gl h (by decide)), fun h => J.r30 (gl h (by decide)), fun h => J.r31 (gl h (by decide))⟩⟩
        · skip
          have e18 := J.r18 (dep_of (hrs.2.2 _ rfl) 1 rfl rfl)
          subst e18
          have e19 := J.r19 (dep_of (hrs.2.2 _ rfl) 0 rfl rfl)
          subst e19
          refine wpOp_step rfl (fun K hK => ?_)
          unfold fr7 ag
          go_simp
          refine (CC w J.bel).mono ?_
          rintro e w' ⟨rfl, hb⟩
          dsimp only
          refine hK _ _ ?_
          exact ⟨_, _, _, _, _, _, _, _, _, _, _, _, _, _, _, _, _, _, _, _, _, _, _, _, _, _, _, _, _, _, _, _, rfl, ⟨J.bel.trans (hb.mono J.bel.size), fun h => J.r0 (gl h (by decide)), fun h => J.r1 (gl h (by decide)), fun h => J.r2 (gl h (by decide)), fun h => J.r3 (gl h (by decide)), fun h => J.r4 (gl h (by decide)), fun h => J.r5 (gl h (by decide)), fun h => J.r6 (gl h (by decide)), fun h => J.r7 (gl h (by decide)), fun h => J.r8 (gl h (by decide)), fun h => J.r9 (gl h (by decide)), fun h => J.r10 (gl h (by decide)), fun h => J.r11 (gl h (by decide)), fun h => J.r12 (gl h (by decide)), fun h => J.r13 (gl h (by decide)), fun h => J.r14 (gl h (by decide)), fun h => J.r15 (gl h (by decide)), fun h => J.r16 (gl h (by decide)), fun h => J.r17 (gl h (by decide)), fun h => J.r18 (gl h (by decide)), fun h => J.r19 (gl h (by decide)), fun _ => rfl, fun h => J.r21 (gl h (by decide)), fun h => J.r22 (gl h (by decide)), fun h => J.r23 (gl h (by decide)), fun h => J.r24 (gl h (by decide)), fun h => J.r25 (gl h (by decide)), fun h => J.r26 (gl h (by decide)), fun h => J.r27 (gl h (by decide)), fun h => J.r28 (gl h (by decide)), fun h => J.r29 (gl h (by decide)), fun h => J.r30 (gl h (by decide)), fun h => J.r31 (gl h (by decide))⟩⟩
        · skip
          have e18 := J.r18 (dep_of (hrs.2.2 _ rfl) 2 rfl rfl)
          subst e18
          have e20 := J.r20 (dep_of (hrs.2.2 _ rfl) 0 rfl rfl)
          subst e20
          refine wpOp_step rfl (fun K hK => ?_)
          unfold fr7 ag
          go_simp
          refine hK _ _ ?_
          exact ⟨_, _, _, _, _, _, _, _, _, _, _, _, _, _, _, _, _, _, _, _, _, _, _, _, _, _, _, _, _, _, _, _, rfl, ⟨J.bel, fun h => J.r0 (gl h (by decide)), fun h => J.r1 (gl h (by decide)), fun h => J.r2 (gl h (by decide)), fun h => J.r3 (gl h (by decide)), fun h => J.r4 (gl h (by decide)), fun h => J.r5 (gl h (by decide)), fun h => J.r6 (gl h (by decide)), fun h => J.r7 (gl h (by decide)), fun h => J.r8 (gl h (by decide)), fun h => J.r9 (gl h (by decide)), fun h => J.r10 (gl h (by decide)), fun h => J.r11 (gl h (by decide)), fun h => J.r12 (gl h (by decide)), fun h => J.r13 (gl h (by decide)), fun h => J.r14 (gl h (by decide)), fun h => J.r15 (gl h (by decide)), fun h => J.r16 (gl h (by decide)), fun h => J.r17 (gl h (by decide)), fun h => J.r18 (gl h (by decide)), fun h => J.r19 (gl h (by decide)), fun h => J.r20 (gl h (by decide)), fun _ => rfl, fun h => J.r22 (gl h (by decide)), fun h => J.r23 (gl h (by decide)), fun h => J.r24 (gl h (by decide)), fun h => J.r25 (gl h (by decide)), fun h => J.r26 (gl h (by decide)), fun h => J.r27 (gl h (by decide)), fun h => J.r28 (gl h (by decide)), fun h => J.r29 (gl h (by decide)), fun h => J.r30 (gl h (by decide)), fun h => J.r31 (gl h (by decide))⟩⟩
        · skip
          cases dC
          · skip
            have e21 := J.r21 (dep_of (hrs.2.2 _ rfl) 0 rfl rfl)
            subst e21
            refine wpOp_step rfl (fun K hK => ?_)
            unfold fr7 ag
            go_simp
            refine hK _ _ ?_
            exact ⟨_, _, _, _, _, _, _, _, _, _, _, _, _, _, _, _, _, _, _, _, _, _, _, _, _, _, _, _, _, _, _, _, rfl, ⟨J.bel, fun h => J.r0 (gl h (by decide)), fun h => J.r1 (gl h (by decide)), fun h => J.r2 (gl h (by decide)), fun h => J.r3 (gl h (by decide)), fun h => J.r4 (gl h (by decide)), fun h => J.r5 (gl h (by decide)), fun h => J.r6 (gl h (by decide)), fun h => J.r7 (gl h (by decide)), fun h => J.r8 (gl h (by decide)), fun h => J.r9 (gl h (by decide)), fun h => J.r10 (gl h (by decide)), fun h => J.r11 (gl h (by decide)), fun h => J.r12 (gl h (by decide)), fun h => J.r13 (gl h (by decide)), fun h => J.r14 (gl h (by decide)), fun h => J.r15 (gl h (by decide)), fun h => J.r16 (gl h (by decide)), fun h => J.r17 (gl h (by decide)), fun h => J.r18 (gl h (by decide)), fun h => J.r19 (gl h (by decide)), fun h => J.r20 (gl h (by decide)), fun h => J.r21 (gl h (by decide)), fun _ _ => rfl, fun h => J.r23 (gl h (by decide)), fun h => J.r24 (gl h (by decide)), fun h => J.r25 (gl h (by decide)), fun h => J.r26 (gl h (by decide)), fun h => J.r27 (gl h (by decide)), fun h => J.r28 (gl h (by decide)), fun h => J.r29 (gl h (by decide)), fun h => J.r30 (gl h (by decide)), fun h => J.r31 (gl h (by decide))⟩⟩
          · skip
            have e21 := J.r21 (dep_of (hrs.2.2 _ rfl) 0 rfl rfl)
            subst e21
            refine wpOp_step rfl (fun K hK => ?_)
            unfold fr7 ag
            go_simp
            refine hK _ _ ?_
            exact ⟨_, _, _, _, _, _, _, _, _, _, _, _, _, _, _, _, _, _, _, _, _, _, _, _, _, _, _, _, _, _, _, _, rfl, ⟨J.bel, fun h => J.r0 (gl h (by decide)), fun h => J.r1 (gl h (by decide)), fun h => J.r2 (gl h (by decide)), fun h => J.r3 (gl h (by decide)), fun h => J.r4 (gl h (by decide)), fun h => J.r5 (gl h (by decide)), fun h => J.r6 (gl h (by decide)), fun h => J.r7 (gl h (by decide)), fun h => J.r8 (gl h (by decide)), fun h => J.r9 (gl h (by decide)), fun h => J.r10 (gl h (by decide)), fun h => J.r11 (gl h (by decide)), fun h => J.r12 (gl h (by decide)), fun h => J.r13 (gl h (by decide)), fun h => J.r14 (gl h (by decide)), fun h => J.r15 (gl h (by decide)), fun h => J.r16 (gl h (by decide)), fun h => J.r17 (gl h (by decide)), fun h => J.r18 (gl h (by decide)), fun h => J.r19 (gl h (by decide)), fun h => J.r20 (gl h (by decide)), fun h => J.r21 (gl h (by decide)), fun _ h => Bool.noConfusion h, fun h => J.r23 (gl h (by decide)), fun h => J.r24 (gl h (by decide)), fun h => J.r25 (gl h (by decide)), fun h => J.r26 (gl h (by decide)), fun h => J.r27 (gl h (by decide)), fun h => J.r28 (gl h (by decide)), fun h => J.r29 (gl h (by decide)), fun h => J.r30 (gl h (by decide)), fun h => J.r31 (gl h (by decide))⟩⟩
        · skip
          cases dC
          · skip
            have e21 := J.r21 (dep_of (hrs.2.2 _ rfl) 1 rfl rfl)
            subst e21
            have e22 := J.r22 (dep_of (hrs.2.2 _ rfl) 0 rfl rfl) rfl
            subst e22
            refine wpOp_step rfl (fun K hK => ?_)
            unfold fr7 ag
            go_simp
            refine (IC rfl w J.bel).mono ?_
            rintro e w' ⟨rfl, hb⟩
            dsimp only
            refine hK _ _ ?_
            exact ⟨_, _, _, _, _, _, _, _, _, _, _, _, _, _, _, _, _, _, _, _, _, _, _, _, _, _, _, _, _, _, _, _, rfl, ⟨J.bel.trans (hb.mono J.bel.size), fun h => J.r0 (gl h (by decide)), fun h => J.r1 (gl h (by decide)), fun h => J.r2 (gl h (by decide)), fun h => J.r3 (gl h (by decide)), fun h => J.r4 (gl h (by decide)), fun h => J.r5 (gl h (by decide)), fun h => J.r6 (gl h (by decide)), fun h => J.r7 (gl h (by decide)), fun h => J.r8 (gl h (by decide)), fun h => J.r9 (gl h (by decide)), fun h => J.r10 (gl h (by decide)), fun h => J.r11 (gl h (by decide)), fun h => J.r12 (gl h (by decide)), fun h => J.r13 (gl h (by decide)), fun h => J.r14 (gl h (by decide)), fun h => J.r15 (gl h (by decide)), fun h => J.r16 (gl h (by decide)), fun h => J.r17 (gl h (by decide)), fun h => J.r18 (gl h (by decide)), fun h => J.r19 (gl h (by decide)), fun h => J.r20 (gl h (by decide)), fun h => J.r21 (gl h (by decide)), fun h => J.r22 (gl h (by decide)), fun _ _ => rfl, fun h => J.r24 (gl h (by decide)), fun h => J.r25 (gl h (by decide)), fun h => J.r26 (gl h (by decide)), fun h => J.r27 (gl h (by decide)), fun h => J.r28 (gl h (by decide)), fun h => J.r29 (gl h (by decide)), fun h => J.r30 (gl h (by decide)), fun h => J.r31 (gl h (by decide))⟩⟩
          · skip
            have e21 := J.r21 (dep_of (hrs.2.2 _ rfl) 1 rfl rfl)
            subst e21
            refine wpOp_step rfl (fun K hK => ?_)
            unfold fr7 ag
            go_simp
            refine hK _ _ ?_
            exact ⟨_, _, _, _, _, _, _, _, _, _, _, _, _, _, _, _, _, _, _, _, _, _, _, _, _, _, _, _, _, _, _, _, rfl, ⟨J.bel, fun h => J.r0 (gl h (by decide)), fun h => J.r1 (gl h (by decide)), fun h => J.r2 (gl h (by decide)), fun h => J.r3 (gl h (by decide)), fun h => J.r4 (gl h (by decide)), fun h => J.r5 (gl h (by decide)), fun h => J.r6 (gl h (by decide)), fun h => J.r7 (gl h (by decide)), fun h => J.r8 (gl h (by decide)), fun h => J.r9 (gl h (by decide)), fun h => J.r10 (gl h (by decide)), fun h => J.r11 (gl h (by decide)), fun h => J.r12 (gl h (by decide)), fun h => J.r13 (gl h (by decide)), fun h => J.r14 (gl h (by decide)), fun h => J.r15 (gl h (by decide)), fun h => J.r16 (gl h (by decide)), fun h => J.r17 (gl h (by decide)), fun h => J.r18 (gl h (by decide)), fun h => J.r19 (gl h (by decide)), fun h => J.r20 (gl h (by decide)), fun h => J.r21 (gl h (by decide)), fun h => J.r22 (gl h (by decide)), fun _ h => Bool.noConfusion h, fun h => J.r24 (gl h (by decide)), fun h => J.r25 (gl h (by decide)), fun h => J.r26 (gl h (by decide)), fun h => J.r27 (gl h (by decide)), fun h => J.r28 (gl h (by decide)), fun h => J.r29 (gl h (by decide)), fun h => J.r30 (gl h (by decide)), fun h => J.r31 (gl h (by decide))⟩⟩
        · skip
          cases dC
          · skip
            have e21 := J.r21 (dep_of (hrs.2.2 _ rfl) 0 rfl rfl)
            subst e21
            have hb6 := H6.below J.bel l6
            have c0 := hb6.get 0 rfl
            have c1 := hb6.get 1 rfl
            have c2 := hb6.get 2 rfl
            have c3 := hb6.get 3 rfl
            have c4 := hb6.get 4 rfl
            refine wpOp_step rfl (fun K hK => ?_)
            unfold fr7 ag
            go_simp
            refine hK _ _ ?_
            exact ⟨_, _, _, _, _, _, _, _, _, _, _, _, _, _, _, _, _, _, _, _, _, _, _, _, _, _, _, _, _, _, _, _, rfl, ⟨J.bel, fun h => J.r0 (gl h (by decide)), fun h => J.r1 (gl h (by decide)), fun h => J.r2 (gl h (by decide)), fun h => J.r3 (gl h (by decide)), fun h => J.r4 (gl h (by decide)), fun h => J.r5 (gl h (by decide)), fun h => J.r6 (gl h (by decide)), fun h => J.r7 (gl h (by decide)), fun h => J.r8 (gl h (by decide)), fun h => J.r9 (gl h (by decide)), fun h => J.r10 (gl h (by decide)), fun h => J.r11 (gl h (by decide)), fun h => J.r12 (gl h (by decide)), fun h => J.r13 (gl h (by decide)), fun h => J.r14 (gl h (by decide)), fun h => J.r15 (gl h (by decide)), fun h => J.r16 (gl h (by decide)), fun h => J.r17 (gl h (by decide)), fun h => J.r18 (gl h (by decide)), fun h => J.r19 (gl h (by decide)), fun h => J.r20 (gl h (by decide)), fun h => J.r21 (gl h (by decide)), fun h => J.r22 (gl h (by decide)), fun h => J.r23 (gl h (by decide)), fun _ _ => rfl, fun h => J.r25 (gl h (by decide)), fun h => J.r26 (gl h (by decide)), fun h => J.r27 (gl h (by decide)), fun h => J.r28 (gl h (by decide)), fun h => J.r29 (gl h (by decide)), fun h => J.r30 (gl h (by decide)), fun h => J.r31 (gl h (by decide))⟩⟩
          · skip
            have e21 := J.r21 (dep_of (hrs.2.2 _ rfl) 0 rfl rfl)
            subst e21
            refine wpOp_step rfl (fun K hK => ?_)
            unfold fr7 ag
            go_simp
            refine hK _ _ ?_
            exact ⟨_, _, _, _, _, _, _, _, _, _, _, _, _, _, _, _, _, _, _, _, _, _, _, _, _, _, _, _, _, _, _, _, rfl, ⟨J.bel, fun h => J.r0 (gl h (by decide)), fun h => J.r1 (gl h (by decide)), fun h => J.r2 (gl h (by decide)), fun h => J.r3 (gl h (by decide)), fun h => J.r4 (gl h (by decide)), fun h => J.r5 (gl h (by decide)), fun h => J.r6 (gl h (by decide)), fun h => J.r7 (gl h (by decide)), fun h => J.r8 (gl h (by decide)), fun h => J.r9 (gl h (by decide)), fun h => J.r10 (gl h (by decide)), fun h => J.r11 (gl h (by decide)), fun h => J.r12 (gl h (by decide)), fun h => J.r13 (gl h (by decide)), fun h => J.r14 (gl h (by decide)), fun h => J.r15 (gl h (by decide)), fun h => J.r16 (gl h (by decide)), fun h => J.r17 (gl h (by decide)), fun h => J.r18 (gl h (by decide)), fun h => J.r19 (gl h (by decide)), fun h => J.r20 (gl h (by decide)), fun h => J.r21 (gl h (by decide)), fun h => J.r22 (gl h (by decide)), fun h => J.r23 (gl h (by decide)), fun _ h => Bool.noConfusion h, fun h => J.r25 (gl h (by decide)), fun h => J.r26 (gl h (by decide)), fun h => J.r27 (gl h (by decide)), fun h => J.r28 (gl h (by decide)), fun h => J.r29 (gl h (by decide)), fun h => J.r30 (gl h (by decide)), fun h => J.r31 (gl h (by decide))⟩⟩
        · skip
          cases dC
          · skip
            have e21 := J.r21 (dep_of (hrs.2.2 _ rfl) 3 rfl rfl)
            subst e21
            have e23 := J.r23 (dep_of (hrs.2.2 _ rfl) 0 rfl rfl) rfl
            subst e23
            have e24 := J.r24 (dep_of (hrs.2.2 _ rfl) 1 rfl rfl) rfl
            subst e24
            refine wpOp_step rfl (fun K hK => ?_)
            unfold fr7 ag
            go_simp
            refine (SC rfl w J.bel).mono ?_
            rintro e w' ⟨rfl, hb⟩
            dsimp only
            refine hK _ _ ?_
            exact ⟨_, _, _, _, _, _, _, _, _, _, _, _, _, _, _, _, _, _, _, _, _, _, _, _, _, _, _, _, _, _, _, _, rfl, ⟨J.bel.trans (hb.mono J.bel.size), fun h => J.r0 (gl h (by decide)), fun h => J.r1 (gl h (by decide)), fun h => J.r2 (gl h (by decide)), fun h => J.r3 (gl h (by decide)), fun h => J.r4 (gl h (by decide)), fun h => J.r5 (gl h (by decide)), fun h => J.r6 (gl h (by decide)), fun h => J.r7 (gl h (by decide)), fun h => J.r8 (gl h (by decide)), fun h => J.r9 (gl h (by decide)), fun h => J.r10 (gl h (by decide)), fun h => J.r11 (gl h (by decide)), fun h => J.r12 (gl h (by decide)), fun h => J.r13 (gl h (by decide)), fun h => J.r14 (gl h (by decide)), fun h => J.r15 (gl h (by decide)), fun h => J.r16 (gl h (by decide)), fun h => J.r17 (gl h (by decide)), fun h => J.r18 (gl h (by decide)), fun h => J.r19 (gl h (by decide)), fun h => J.r20 (gl h (by decide)), fun h => J.r21 (gl h (by decide)), fun h => J.r22 (gl h (by decide)), fun h => J.r23 (gl h (by decide)), fun h => J.r24 (gl h (by decide)), fun _ _ => rfl, fun h => J.r26 (gl h (by decide)), fun h => J.r27 (gl h (by decide)), fun h => J.r28 (gl h (by decide)), fun h => J.r29 (gl h (by decide)), fun h => J.r30 (gl h (by decide)), fun h => J.r31 (gl h (by decide))⟩⟩
          · skip
            have e21 := J.r21 (dep_of (hrs.2.2 _ rfl) 3 rfl rfl)
            subst e21
            refine wpOp_step rfl (fun K hK => ?_)
            unfold fr7 ag
            go_simp
            refine hK _ _ ?_
            exact ⟨_, _, _, _, _, _, _, _, _, _, _, _, _, _, _, _, _, _, _, _, _, _, _, _, _, _, _, _, _, _, _, _, rfl, ⟨J.bel, fun h => J.r0 (gl h (by decide)), fun h => J.r1 (gl h (by decide)), fun h => J.r2 (gl h (by decide)), fun h => J.r3 (gl h (by decide)), fun h => J.r4 (gl h (by decide)), fun h => J.r5 (gl h (by decide)), fun h => J.r6 (gl h (by decide)), fun h => J.r7 (gl h (by decide)), fun h => J.r8 (gl h (by decide)), fun h => J.r9 (gl h (by decide)), fun h => J.r10 (gl h (by decide)), fun h => J.r11 (gl h (by decide)), fun h => J.r12 (gl h (by decide)), fun h => J.r13 (gl h (by decide)), fun h => J.r14 (gl h (by decide)), fun h => J.r15 (gl h (by decide)), fun h => J.r16 (gl h (by decide)), fun h => J.r17 (gl h (by decide)), fun h => J.r18 (gl h (by decide)), fun h => J.r19 (gl h (by decide)), fun h => J.r20 (gl h (by decide)), fun h => J.r21 (gl h (by decide)), fun h => J.r22 (gl h (by decide)), fun h => J.r23 (gl h (by decide)), fun h => J.r24 (gl h (by decide)), fun _ h => Bool.noConfusion h, fun h => J.r26 (gl h (by decide)), fun h => J.r27 (gl h (by decide)), fun h => J.r28 (gl h (by decide)), fun h => J.r29 (gl h (by decide)), fun h => J.r30 (gl h (by decide)), fun h => J.r31 (gl h (by decide))⟩⟩
        · skip
          cases dC
          · skip
            have e18 := J.r18 (dep_of (hrs.2.2 _ rfl) 2 rfl rfl)
            subst e18
            have e21 := J.r21 (dep_of (hrs.2.2 _ rfl) 0 rfl rfl)
            subst e21
            have e25 := J.r25 (dep_of (hrs.2.2 _ rfl) 1 rfl rfl) rfl
            subst e25
            refine wpOp_step rfl (fun K hK => ?_)
            unfold fr7 ag
            go_simp
            refine hK _ _ ?_
            exact ⟨_, _, _, _, _, _, _, _, _, _, _, _, _, _, _, _, _, _, _, _, _, _, _, _, _, _, _, _, _, _, _, _, rfl, ⟨J.bel, fun h => J.r0 (gl h (by decide)), fun h => J.r1 (gl h (by decide)), fun h => J.r2 (gl h (by decide)), fun h => J.r3 (gl h (by decide)), fun h => J.r4 (gl h (by decide)), fun h => J.r5 (gl h (by decide)), fun h => J.r6 (gl h (by decide)), fun h => J.r7 (gl h (by decide)), fun h => J.r8 (gl h (by decide)), fun h => J.r9 (gl h (by decide)), fun h => J.r10 (gl h (by decide)), fun h => J.r11 (gl h (by decide)), fun h => J.r12 (gl h (by decide)), fun h => J.r13 (gl h (by decide)), fun h => J.r14 (gl h (by decide)), fun h => J.r15 (gl h (by decide)), fun h => J.r16 (gl h (by decide)), fun h => J.r17 (gl h (by decide)), fun h => J.r18 (gl h (by decide)), fun h => J.r19 (gl h (by decide)), fun h => J.r20 (gl h (by decide)), fun h => J.r21 (gl h (by decide)), fun h => J.r22 (gl h (by decide)), fun h => J.r23 (gl h (by decide)), fun h => J.r24 (gl h (by decide)), fun h => J.r25 (gl h (by decide)), fun _ => rfl, fun h => J.r27 (gl h (by decide)), fun h => J.r28 (gl h (by decide)), fun h => J.r29 (gl h (by decide)), fun h => J.r30 (gl h (by decide)), fun h => J.r31 (gl h (by decide))⟩⟩
          · skip
            have e18 := J.r18 (dep_of (hrs.2.2 _ rfl) 2 rfl rfl)
            subst e18
            have e21 := J.r21 (dep_of (hrs.2.2 _ rfl) 0 rfl rfl)
            subst e21
            refine wpOp_step rfl (fun K hK => ?_)
            unfold fr7 ag
            go_simp
            refine hK _ _ ?_
            exact ⟨_, _, _, _, _, _, _, _, _, _, _, _, _, _, _, _, _, _, _, _, _, _, _, _, _, _, _, _, _, _, _, _, rfl, ⟨J.bel, fun h => J.r0 (gl h (by decide)), fun h => J.r1 (gl h (by decide)), fun h => J.r2 (gl h (by decide)), fun h => J.r3 (gl h (by decide)), fun h => J.r4 (gl h (by decide)), fun h => J.r5 (gl h (by decide)), fun h => J.r6 (gl h (by decide)), fun h => J.r7 (gl h (by decide)), fun h => J.r8 (gl h (by decide)), fun h => J.r9 (gl h (by decide)), fun h => J.r10 (gl h (by decide)), fun h => J.r11 (gl h (by decide)), fun h => J.r12 (gl h (by decide)), fun h => J.r13 (gl h (by decide)), fun h => J.r14 (gl h (by decide)), fun h => J.r15 (gl h (by decide)), fun h => J.r16 (gl h (by decide)), fun h => J.r17 (gl h (by decide)), fun h => J.r18 (gl h (by decide)), fun h => J.r19 (gl h (by decide)), fun h => J.r20 (gl h (by decide)), fun h => J.r21 (gl h (by decide)), fun h => J.r22 (gl h (by decide)), fun h => J.r23 (gl h (by decide)), fun h => J.r24 (gl h (by decide)), fun h => J.r25 (gl h (by decide)), fun _ => rfl, fun h => J.r27 (gl h (by decide)), fun h => J.r28 (gl h (by decide)), fun h => J.r29 (gl h (by decide)), fun h => J.r30 (gl h (by decide)), fun h => J.r31 (gl h (by decide))⟩⟩
        · skip
          have e18 := J.r18 (dep_of (hrs.2.2 _ rfl) 0 rfl rfl)
          subst e18
          have e26 := J.r26 (dep_of (hrs.2.2 _ rfl) 1 rfl rfl)
          subst e26
          refine wpOp_step rfl (fun K hK => ?_)
          unfold fr7 ag
          go_simp
          refine hK _ _ ?_
          exact ⟨_, _, _, _, _, _, _, _, _, _, _, _, _, _, _, _, _, _, _, _, _, _, _, _, _, _, _, _, _, _, _, _, rfl, ⟨J.bel, fun h => J.r0 (gl h (by decide)), fun h => J.r1 (gl h (by decide)), fun h => J.r2 (gl h (by decide)), fun h => J.r3 (gl h (by decide)), fun h => J.r4 (gl h (by decide)), fun h => J.r5 (gl h (by decide)), fun h => J.r6 (gl h (by decide)), fun h => J.r7 (gl h (by decide)), fun h => J.r8 (gl h (by decide)), fun h => J.r9 (gl h (by decide)), fun h => J.r10 (gl h (by decide)), fun h => J.r11 (gl h (by decide)), fun h => J.r12 (gl h (by decide)), fun h => J.r13 (gl h (by decide)), fun h => J.r14 (gl h (by decide)), fun h => J.r15 (gl h (by decide)), fun h => J.r16 (gl h (by decide)), fun h => J.r17 (gl h (by decide)), fun h => J.r18 (gl h (by decide)), fun h => J.r19 (gl h (by decide)), fun h => J.r20 (gl h (by decide)), fun h => J.r21 (gl h (by decide)), fun h => J.r22 (gl h (by decide)), fun h => J.r23 (gl h (by decide)), fun h => J.r24 (gl h (by decide)), fun h => J.r25 (gl h (by decide)), fun h => J.r26 (gl h (by decide)), fun _ => rfl, fun h => J.r28 (gl h (by decide)), fun h => J.r29 (gl h (by decide)), fun h => J.r30 (gl h (by decide)), fun h => J.r31 (gl h (by decide))⟩⟩
        · skip
          have e27 := J.r27 (dep_of (hrs.2.2 _ rfl) 0 rfl rfl)
          subst e27
          refine wpOp_step rfl (fun K hK => ?_)
          unfold fr7 ag
          go_simp
          refine hK _ _ ?_
          exact ⟨_, _, _, _, _, _, _, _, _, _, _, _, _, _, _, _, _, _, _, _, _, _, _, _, _, _, _, _, _, _, _, _, rfl, ⟨J.bel, fun h => J.r0 (gl h (by decide)), fun h => J.r1 (gl h (by decide)), fun h => J.r2 (gl h (by decide)), fun h => J.r3 (gl h (by decide)), fun h => J.r4 (gl h (by decide)), fun h => J.r5 (gl h (by decide)), fun h => J.r6 (gl h (by decide)), fun h => J.r7 (gl h (by decide)), fun h => J.r8 (gl h (by decide)), fun h => J.r9 (gl h (by decide)), fun h => J.r10 (gl h (by decide)), fun h => J.r11 (gl h (by decide)), fun h => J.r12 (gl h (by decide)), fun h => J.r13 (gl h (by decide)), fun h => J.r14 (gl h (by decide)), fun h => J.r15 (gl h (by decide)), fun h => J.r16 (gl h (by decide)), fun h => J.r17 (gl h (by decide)), fun h => J.r18 (gl h (by decide)), fun h => J.r19 (gl h (by decide)), fun h => J.r20 (gl h (by decide)), fun h => J.r21 (gl h (by decide)), fun h => J.r22 (gl h (by decide)), fun h => J.r23 (gl h (by decide)), fun h => J.r24 (gl h (by decide)), fun h => J.r25 (gl h (by decide)), fun h => J.r26 (gl h (by decide)), fun h => J.r27 (gl h (by decide)), fun _ => rfl, fun h => J.r29 (gl h (by decide)), fun h => J.r30 (gl h (by decide)), fun h => J.r31 (gl h (by decide))⟩⟩
        · skip
          have e28 := J.r28 (dep_of (hrs.2.2 _ rfl) 0 rfl rfl)
          subst e28
          refine wpOp_step rfl (fun K hK => ?_)
          unfold fr7 ag
          go_simp
          refine hK _ _ ?_
          exact ⟨_, _, _, _, _, _, _, _, _, _, _, _, _, _, _, _, _, _, _, _, _, _, _, _, _, _, _, _, _, _, _, _, rfl, ⟨J.bel, fun h => J.r0 (gl h (by decide)), fun h => J.r1 (gl h (by decide)), fun h => J.r2 (gl h (by decide)), fun h => J.r3 (gl h (by decide)), fun h => J.r4 (gl h (by decide)), fun h => J.r5 (gl h (by decide)), fun h => J.r6 (gl h (by decide)), fun h => J.r7 (gl h (by decide)), fun h => J.r8 (gl h (by decide)), fun h => J.r9 (gl h (by decide)), fun h => J.r10 (gl h (by decide)), fun h => J.r11 (gl h (by decide)), fun h => J.r12 (gl h (by decide)), fun h => J.r13 (gl h (by decide)), fun h => J.r14 (gl h (by decide)), fun h => J.r15 (gl h (by decide)), fun h => J.r16 (gl h (by decide)), fun h => J.r17 (gl h (by decide)), fun h => J.r18 (gl h (by decide)), fun h => J.r19 (gl h (by decide)), fun h => J.r20 (gl h (by decide)), fun h => J.r21 (gl h (by decide)), fun h => J.r22 (gl h (by decide)), fun h => J.r23 (gl h (by decide)), fun h => J.r24 (gl h (by decide)), fun h => J.r25 (gl h (by decide)), fun h => J.r26 (gl h (by decide)), fun h => J.r27 (gl h (by decide)), fun h => J.r28 (gl h (by decide)), fun _ => rfl, fun h => J.r30 (gl h (by decide)), fun h => J.r31 (gl h (by decide))⟩⟩
        · skip
          have e28 := J.r28 (dep_of (hrs.2.2 _ rfl) 0 rfl rfl)
          subst e28
          have e29 := J.r29 (dep_of (hrs.2.2 _ rfl) 1 rfl rfl)
          subst e29
          refine wpOp_step rfl (fun K hK => ?_)
          unfold fr7 ag
          go_simp
          refine hK _ _ ?_
          exact ⟨_, _, _, _, _, _, _, _, _, _, _, _, _, _, _, _, _, _, _, _, _, _, _, _, _, _, _, _, _, _, _, _, rfl, ⟨J.bel, fun h => J.r0 (gl h (by decide)), fun h => J.r1 (gl h (by decide)), fun h => J.r2 (gl h (by decide)), fun h => J.r3 (gl h (by decide)), fun h => J.r4 (gl h (by decide)), fun h => J.r5 (gl h (by decide)), fun h => J.r6 (gl h (by decide)), fun h => J.r7 (gl h (by decide)), fun h => J.r8 (gl h (by decide)), fun h => J.r9 (gl h (by decide)), fun h => J.r10 (gl h (by decide)), fun h => J.r11 (gl h (by decide)), fun h => J.r12 (gl h (by decide)), fun h => J.r13 (gl h (by decide)), fun h => J.r14 (gl h (by decide)), fun h => J.r15 (gl h (by decide)), fun h => J.r16 (gl h (by decide)), fun h => J.r17 (gl h (by decide)), fun h => J.r18 (gl h (by decide)), fun h => J.r19 (gl h (by decide)), fun h => J.r20 (gl h (by decide)), fun h => J.r21 (gl h (by decide)), fun h => J.r22 (gl h (by decide)), fun h => J.r23 (gl h (by decide)), fun h => J.r24 (gl h (by decide)), fun h => J.r25 (gl h (by decide)), fun h => J.r26 (gl h (by decide)), fun h => J.r27 (gl h (by decide)), fun h => J.r28 (gl h (by decide)), fun h => J.r29 (gl h (by decide)), fun _ => rfl, fun h => J.r31 (gl h (by decide))⟩⟩
        · skip
          have e30 := J.r30 (dep_of (hrs.2.2 _ rfl) 0 rfl rfl)
          subst e30
          refine wpOp_step rfl (fun K hK => ?_)
          unfold fr7 ag
          go_simp
          refine hK _ _ ?_
          exact ⟨_, _, _, _, _, _, _, _, _, _, _, _, _, _, _, _, _, _, _, _, _, _, _, _, _, _, _, _, _, _, _, _, rfl, ⟨J.bel, fun h => J.r0 (gl h (by decide)), fun h => J.r1 (gl h (by decide)), fun h => J.r2 (gl h (by decide)), fun h => J.r3 (gl h (by decide)), fun h => J.r4 (gl h (by decide)), fun h => J.r5 (gl h (by decide)), fun h => J.r6 (gl h (by decide)), fun h => J.r7 (gl h (by decide)), fun h => J.r8 (gl h (by decide)), fun h => J.r9 (gl h (by decide)), fun h => J.r10 (gl h (by decide)), fun h => J.r11 (gl h (by decide)), fun h => J.r12 (gl h (by decide)), fun h => J.r13 (gl h (by decide)), fun h => J.r14 (gl h (by decide)), fun h => J.r15 (gl h (by decide)), fun h => J.r16 (gl h (by decide)), fun h => J.r17 (gl h (by decide)), fun h => J.r18 (gl h (by decide)), fun h => J.r19 (gl h (by decide)), fun h => J.r20 (gl h (by decide)), fun h => J.r21 (gl h (by decide)), fun h => J.r22 (gl h (by decide)), fun h => J.r23 (gl h (by decide)), fun h => J.r24 (gl h (by decide)), fun h => J.r25 (gl h (by decide)), fun h => J.r26 (gl h (by decide)), fun h => J.r27 (gl h (by decide)), fun h => J.r28 (gl h (by decide)), fun h => J.r29 (gl h (by decide)), fun h => J.r30 (gl h (by decide)), fun _ => rfl⟩⟩
      · rintro l a w hl ⟨x2, x30, x31, x32, x33, x34, x35, x36, x37, x38, x39, x40, x41, x42, x43, x44, x45, x46, x47, x48, x49, x50, x51, x52, x53, x54, x55, x56, x57, x58, x59, x60, rfl, J⟩ hr
        have h0 : On1 l 0 := on_alln hl (by omega) (not_ready hr (i := 0) rfl (by decide) (by simp [Region.binds]))
        have q0 : l[0]?.getD false = true := by have := h0; unfold On1 at this; rwa [Array.getD_eq_getD_getElem?] at this
        have h1 : On1 l 1 := on_alln hl (by omega) (not_ready hr (i := 1) rfl (by decide) (by simp [Region.binds, q0]))
        have q1 : l[1]?.getD false = true := by have := h1; unfold On1 at this; rwa [Array.getD_eq_getD_getElem?] at this
        have h2 : On1 l 2 := on_alln hl (by omega) (not_ready hr (i := 2) rfl (by decide) (by simp [Region.binds, q1]))
        have q2 : l[2]?.getD false = true := by have := h2; unfold On1 at this; rwa [Array.getD_eq_getD_getElem?] at this
        have h3 : On1 l 3 := on_alln hl (by omega) (not_ready hr (i := 3) rfl (by decide) (by simp [Region.binds, q2]))
        have q3 : l[3]?.getD false = true := by have := h3; unfold On1 at this; rwa [Array.getD_eq_getD_getElem?] at this
        have h4 : On1 l 4 := on_alln hl (by omega) (not_ready hr (i := 4) rfl (by decide) (by simp [Region.binds, q2, q3]))
        have q4 : l[4]?.getD false = true := by have := h4; unfold On1 at this; rwa [Array.getD_eq_getD_getElem?] at this
        have h5 : On1 l 5 := on_alln hl (by omega) (not_ready hr (i := 5) rfl (by decide) (by simp [Region.binds, q2]))
        have q5 : l[5]?.getD false = true := by have := h5; unfold On1 at this; rwa [Array.getD_eq_getD_getElem?] at this
        have h6 : On1 l 6 := on_alln hl (by omega) (not_ready hr (i := 6) rfl (by decide) (by simp [Region.binds, q2, q4, q5]))
        have q6 : l[6]?.getD false = true := by have := h6; unfold On1 at this; rwa [Array.getD_eq_getD_getElem?] at this
        have h7 : On1 l 7 := on_alln hl (by omega) (not_ready hr (i := 7) rfl (by decide) (by simp [Region.binds, q2, q6]))
        have q7 : l[7]?.getD false = true := by have := h7; unfold On1 at this; rwa [Array.getD_eq_getD_getElem?] at this
        have h8 : On1 l 8 := on_alln hl (by omega) (not_ready hr (i := 8) rfl (by decide) (by simp [Region.binds, q6, q7]))
        have q8 : l[8]?.getD false = true := by have := h8; unfold On1 at this; rwa [Array.getD_eq_getD_getElem?] at this
        have h9 : On1 l 9 := on_alln hl (by omega) (not_ready hr (i := 9) rfl (by decide) (by simp [Region.binds, q8]))
        have q9 : l[9]?.getD false = true := by have := h9; unfold On1 at this; rwa [Array.getD_eq_getD_getElem?] at this
        have h10 : On1 l 10 := on_alln hl (by omega) (not_ready hr (i := 10) rfl (by decide) (by simp [Region.binds, q8, q9]))
        have q10 : l[10]?.getD false = true := by have := h10; unfold On1 at this; rwa [Array.getD_eq_getD_getElem?] at this
        have h11 : On1 l 11 := on_alln hl (by omega) (not_ready hr (i := 11) rfl (by decide) (by simp [Region.binds, q8, q10]))
        have q11 : l[11]?.getD false = true := by have := h11; unfold On1 at this; rwa [Array.getD_eq_getD_getElem?] at this
        have h12 : On1 l 12 := on_alln hl (by omega) (not_ready hr (i := 12) rfl (by decide) (by simp [Region.binds, q11]))
        have q12 : l[12]?.getD false = true := by have := h12; unfold On1 at this; rwa [Array.getD_eq_getD_getElem?] at this
        have h13 : On1 l 13 := on_alln hl (by omega) (not_ready hr (i := 13) rfl (by decide) (by simp [Region.binds, q11, q12]))
        have q13 : l[13]?.getD false = true := by have := h13; unfold On1 at this; rwa [Array.getD_eq_getD_getElem?] at this
        have h14 : On1 l 14 := on_alln hl (by omega) (not_ready hr (i := 14) rfl (by decide) (by simp [Region.binds, q11]))
        have q14 : l[14]?.getD false = true := by have := h14; unfold On1 at this; rwa [Array.getD_eq_getD_getElem?] at this
        have h15 : On1 l 15 := on_alln hl (by omega) (not_ready hr (i := 15) rfl (by decide) (by simp [Region.binds, q11, q13, q14]))
        have q15 : l[15]?.getD false = true := by have := h15; unfold On1 at this; rwa [Array.getD_eq_getD_getElem?] at this
        have h16 : On1 l 16 := on_alln hl (by omega) (not_ready hr (i := 16) rfl (by decide) (by simp [Region.binds, q8, q11, q15]))
        have q16 : l[16]?.getD false = true := by have := h16; unfold On1 at this; rwa [Array.getD_eq_getD_getElem?] at this
        have h17 : On1 l 17 := on_alln hl (by omega) (not_ready hr (i := 17) rfl (by decide) (by simp [Region.binds, q8, q16]))
        have q17 : l[17]?.getD false = true := by have := h17; unfold On1 at this; rwa [Array.getD_eq_getD_getElem?] at this
        have h18 : On1 l 18 := on_alln hl (by omega) (not_ready hr (i := 18) rfl (by decide) (by simp [Region.binds, q15, q17]))
        have q18 : l[18]?.getD false = true := by have := h18; unfold On1 at this; rwa [Array.getD_eq_getD_getElem?] at this
        have h19 : On1 l 19 := on_alln hl (by omega) (not_ready hr (i := 19) rfl (by decide) (by simp [Region.binds, q18]))
        have q19 : l[19]?.getD false = true := by have := h19; unfold On1 at this; rwa [Array.getD_eq_getD_getElem?] at this
        have h20 : On1 l 20 := on_alln hl (by omega) (not_ready hr (i := 20) rfl (by decide) (by simp [Region.binds, q18, q19]))
        have q20 : l[20]?.getD false = true := by have := h20; unfold On1 at this; rwa [Array.getD_eq_getD_getElem?] at this
        have h21 : On1 l 21 := on_alln hl (by omega) (not_ready hr (i := 21) rfl (by decide) (by simp [Region.binds, q18, q20]))
        have q21 : l[21]?.getD false = true := by have := h21; unfold On1 at this; rwa [Array.getD_eq_getD_getElem?] at this
        have h22 : On1 l 22 := on_alln hl (by omega) (not_ready hr (i := 22) rfl (by decide) (by simp [Region.binds, q21]))
        have q22 : l[22]?.getD false = true := by have := h22; unfold On1 at this; rwa [Array.getD_eq_getD_getElem?] at this
        have h23 : On1 l 23 := on_alln hl (by omega) (not_ready hr (i := 23) rfl (by decide) (by simp [Region.binds, q21, q22]))
        have q23 : l[23]?.getD false = true := by have := h23; unfold On1 at this; rwa [Array.getD_eq_getD_getElem?] at this
        have h24 : On1 l 24 := on_alln hl (by omega) (not_ready hr (i := 24) rfl (by decide) (by simp [Region.binds, q21]))
        have q24 : l[24]?.getD false = true := by have := h24; unfold On1 at this; rwa [Array.getD_eq_getD_getElem?] at this
        have h25 : On1 l 25 := on_alln hl (by omega) (not_ready hr (i := 25) rfl (by decide) (by simp [Region.binds, q21, q23, q24]))
        have q25 : l[25]?.getD false = true := by have := h25; unfold On1 at this; rwa [Array.getD_eq_getD_getElem?] at this
        have h26 : On1 l 26 := on_alln hl (by omega) (not_ready hr (i := 26) rfl (by decide) (by simp [Region.binds, q18, q21, q25]))
        have q26 : l[26]?.getD false = true := by have := h26; unfold On1 at this; rwa [Array.getD_eq_getD_getElem?] at this
        have h27 : On1 l 27 := on_alln hl (by omega) (not_ready hr (i := 27) rfl (by decide) (by simp [Region.binds, q18, q26]))
        have q27 : l[27]?.getD false = true := by have := h27; unfold On1 at this; rwa [Array.getD_eq_getD_getElem?] at this
        have h28 : On1 l 28 := on_alln hl (by omega) (not_ready hr (i := 28) rfl (by decide) (by simp [Region.binds, q25, q27]))
        have q28 : l[28]?.getD false = true := by have := h28; unfold On1 at this; rwa [Array.getD_eq_getD_getElem?] at this
        have h29 : On1 l 29 := on_alln hl (by omega) (not_ready hr (i := 29) rfl (by decide) (by simp [Region.binds, q28]))
        have q29 : l[29]?.getD false = true := by have := h29; unfold On1 at this; rwa [Array.getD_eq_getD_getElem?] at this
        have h30 : On1 l 30 := on_alln hl (by omega) (not_ready hr (i := 30) rfl (by decide) (by simp [Region.binds, q28, q29]))
        have q30 : l[30]?.getD false = true := by have := h30; unfold On1 at this; rwa [Array.getD_eq_getD_getElem?] at this
        have h31 : On1 l 31 := on_alln hl (by omega) (not_ready hr (i := 31) rfl (by decide) (by simp [Region.binds, q0, q1, q2, q3, q4, q5, q6, q7, q8, q9, q10, q11, q12, q13, q14, q15, q16, q17, q18, q19, q20, q21, q22, q23, q24, q25, q26, q27, q28, q29, q30]))
        exact ⟨rfl, J.r31 h31, rfl, J.bel⟩
      · exact ⟨.bool false, undef, undef, undef, undef, undef, undef, undef, undef, undef, undef, undef, undef, undef, undef, undef, undef, undef, undef, undef, undef, undef, undef, undef, undef, undef, undef, undef, undef, undef, undef, undef, rfl, ⟨⟨rfl, rfl, rfl, Nat.le_refl _, fun _ _ => rfl⟩, fun h => absurd h (by decide), fun h => absurd h (by decide), fun h => absurd h (by decide), fun h => absurd h (by decide), fun h => absurd h (by decide), fun h => absurd h (by decide), fun h => absurd h (by decide), fun h => absurd h (by decide), fun h => absurd h (by decide), fun h => absurd h (by decide), fun h => absurd h (by decide), fun h => absurd h (by decide), fun h => absurd h (by decide), fun h => absurd h (by decide), fun h => absurd h (by decide), fun h => absurd h (by decide), fun h => absurd h (by decide), fun h => absurd h (by decide), fun h => absurd h (by decide), fun h => absurd h (by decide), fun h => absurd h (by decide), fun h => absurd h (by decide), fun h => absurd h (by decide), fun h => absurd h (by decide), fun h => absurd h (by decide), fun h => absurd h (by decide), fun h => absurd h (by decide), fun h => absurd h (by decide), fun h => absurd h (by decide), fun h => absurd h (by decide), fun h => absurd h (by decide), fun h => absurd h (by decide)⟩⟩
  · have hok := HOK.out
    have hlen := HL.out
    have HT : ∀ w', Below w0.heap.size w0 w' → Tab 0 w' 31 27 5 v (cs.map fun x => [x.cells]) := fun w' hb => ((HT0.out.base (Nat.zero_le _)).keep HB0.out).keep hb
    have B3 : ∀ w', Below w0.heap.size w0 w' → Blk w' w1.heap.size 27 [.int .i64 5, .int .i64 0, .int .i64 0, .string ⟨#[]⟩, v] := fun w' hb => HB3.out.below hb HB3.out.lt
    refine wp_region_any (by kernel_rfl) ?_
    refine wpAny_inv (n := 12) (fun l a w' => ∃ x4 x5 x6 x14 x15 x16 x17 x18 x19, a = fr4 (.slice A n c) n w1.heap.size (.agg #[.int .i64 5, .int .i64 0, .int .i64 0, .string ⟨#[]⟩, v]) x4 x5 x6 x14 x15 x16 x17 x18 x19 ∧ Mid cs w0 (.agg #[.int .i64 5, .int .i64 0, .int .i64 0, .string ⟨#[]⟩, v]) x4 x5 x6 x14 x15 x16 x17 x18 x19 l w') ?_ ?_ _ _ _ _ (by rfl) ?_ (by decide)
    · rintro l a w i hl ⟨x4, x5, x6, x14, x15, x16, x17, x18, x19, rfl, J⟩ hi
      have hrs := ready_spec hi
      have hi12 : i < 12 := hrs.1
      have hoff := off1 hrs.2.1
      have hix : i = 0 ∨ i = 1 ∨ i = 2 ∨ i = 3 ∨ i = 4 ∨ i = 5 ∨ i = 6 ∨ i = 7 ∨ i = 8 ∨ i = 9 ∨ i = 10 ∨ i = 11 := by omega
      rcases hix with rfl | rfl | rfl | rfl | rfl | rfl | rfl | rfl | rfl | rfl | rfl | rfl
      · have hb3 := B3 w J.bel
        have c0 := hb3.get 0 rfl
        have c1 := hb3.get 1 rfl
        have c2 := hb3.get 2 rfl
        have c3 := hb3.get 3 rfl
        have c4 := hb3.get 4 rfl
        refine wpOp_step rfl (fun K hK => ?_)
        unfold fr4
        go_simp
        refine hK _ _ ?_
        exact ⟨x4, x5, x6, _, x15, x16, x17, x18, x19, rfl, ⟨J.bel, fun _ => rfl, fun h => J.r16 (gl h (by decide)), fun h => J.r18 (gl h (by decide)), fun h => J.r15 (gl h (by decide)), fun h => J.r17 (gl h (by decide)), fun h => J.r19 (gl h (by decide)), fun h => (J.b4 (gl h (by decide))).keep (Below.refl _ _) (fun h => gl h (by decide)), fun h => (J.b5 (gl h (by decide))).keep (Below.refl _ _) (fun h => gl h (by decide)), fun h => (J.b6 (gl h (by decide))).keep (Below.refl _ _) (fun h => gl h (by decide)), fun h1 h2 => J.d45 (gl h1 (by decide)) (gl h2 (by decide)), fun h1 h2 => J.d46 (gl h1 (by decide)) (gl h2 (by decide)), fun h1 h2 => J.d56 (gl h1 (by decide)) (gl h2 (by decide)), fun h => ⟨up (J.o9 (gl h (by decide))).1, up (J.o9 (gl h (by decide))).2⟩, fun h => ⟨up (J.o10 (gl h (by decide))).1, up (J.o10 (gl h (by decide))).2⟩, fun h => ⟨up (J.o11 (gl h (by decide))).1, up (J.o11 (gl h (by decide))).2⟩⟩⟩
      · have hx := J.r14 (dep_of (hrs.2.2 _ rfl) 0 rfl rfl)
        subst hx
        refine wpOp_step rfl (fun K hK => ?_)
        refine step_fn2 (by rfl) 21 Tryz.f21 (.const (.string ⟨#[65, 86, 69, 82, 65, 71, 69, 65]⟩)) (.tmp 14) 9 27 (by rfl) Tryz.func21 (by kernel_rfl) (by rfl) (.string ⟨#[65, 86, 69, 82, 65, 71, 69, 65]⟩) _ (by rfl) (by rfl) (sumsA_avg cs hok hlen _ w (HT w J.bel)) ?_
        rintro e w' ⟨k, a, d, rfl, hP, hb⟩
        refine ⟨_, rfl, hK _ _ ?_⟩
        exact ⟨x4, x5, x6, _, _, x16, x17, x18, x19, rfl, ⟨J.bel.trans (hb.mono J.bel.size), fun h => J.r14 (gl h (by decide)), fun h => J.r16 (gl h (by decide)), fun h => J.r18 (gl h (by decide)), fun _ => ⟨k, a, d, rfl, hP⟩, fun h => J.r17 (gl h (by decide)), fun h => J.r19 (gl h (by decide)), fun h => by obtain ⟨g, old, h1, h2, h3, h4, h5, h6⟩ := (J.b4 (gl h (by decide))).keep (st' := False) hb False.elim; exact ⟨g, old, h1, h2, h3, h4, h5, fun hs => absurd (J.o9 (gl hs (by decide))).1 hoff⟩, fun h => (J.b5 (gl h (by decide))).keep hb (fun h => gl h (by decide)), fun h => (J.b6 (gl h (by decide))).keep hb (fun h => gl h (by decide)), fun h1 h2 => J.d45 (gl h1 (by decide)) (gl h2 (by decide)), fun h1 h2 => J.d46 (gl h1 (by decide)) (gl h2 (by decide)), fun h1 h2 => J.d56 (gl h1 (by decide)) (gl h2 (by decide)), fun h => ⟨up (J.o9 (gl h (by decide))).1, up (J.o9 (gl h (by decide))).2⟩, fun h => ⟨up (J.o10 (gl h (by decide))).1, up (J.o10 (gl h (by decide))).2⟩, fun h => ⟨up (J.o11 (gl h (by decide))).1, up (J.o11 (gl h (by decide))).2⟩⟩⟩
      · have hb3 := B3 w J.bel
        have c0 := hb3.get 0 rfl
        have c1 := hb3.get 1 rfl
        have c2 := hb3.get 2 rfl
        have c3 := hb3.get 3 rfl
        have c4 := hb3.get 4 rfl
        refine wpOp_step rfl (fun K hK => ?_)
        unfold fr4
        go_simp
        refine hK _ _ ?_
        exact ⟨x4, x5, x6, x14, x15, _, x17, x18, x19, rfl, ⟨J.bel, fun h => J.r14 (gl h (by decide)), fun _ => rfl, fun h => J.r18 (gl h (by decide)), fun h => J.r15 (gl h (by decide)), fun h => J.r17 (gl h (by decide)), fun h => J.r19 (gl h (by decide)), fun h => (J.b4 (gl h (by decide))).keep (Below.refl _ _) (fun h => gl h (by decide)), fun h => (J.b5 (gl h (by decide))).keep (Below.refl _ _) (fun h => gl h (by decide)), fun h => (J.b6 (gl h (by decide))).keep (Below.refl _ _) (fun h => gl h (by decide)), fun h1 h2 => J.d45 (gl h1 (by decide)) (gl h2 (by decide)), fun h1 h2 => J.d46 (gl h1 (by decide)) (gl h2 (by decide)), fun h1 h2 => J.d56 (gl h1 (by decide)) (gl h2 (by decide)), fun h => ⟨up (J.o9 (gl h (by decide))).1, up (J.o9 (gl h (by decide))).2⟩, fun h => ⟨up (J.o10 (gl h (by decide))).1, up (J.o10 (gl h (by decide))).2⟩, fun h => ⟨up (J.o11 (gl h (by decide))).1, up (J.o11 (gl h (by decide))).2⟩⟩⟩
      · have hx := J.r16 (dep_of (hrs.2.2 _ rfl) 0 rfl rfl)
        subst hx
        refine wpOp_step rfl (fun K hK => ?_)
        refine step_fn2 (by rfl) 21 Tryz.f21 (.const (.string ⟨#[77, 65, 88, 65]⟩)) (.tmp 16) 9 27 (by rfl) Tryz.func21 (by kernel_rfl) (by rfl) (.string ⟨#[77, 65, 88, 65]⟩) _ (by rfl) (by rfl) (sumsA_mx cs hok hlen _ w (HT w J.bel)) ?_
        rintro e w' ⟨k, a, d, rfl, hP, hb⟩
        refine ⟨_, rfl, hK _ _ ?_⟩
        exact ⟨x4, x5, x6, x14, x15, _, _, x18, x19, rfl, ⟨J.bel.trans (hb.mono J.bel.size), fun h => J.r14 (gl h (by decide)), fun h => J.r16 (gl h (by decide)), fun h => J.r18 (gl h (by decide)), fun h => J.r15 (gl h (by decide)), fun _ => ⟨k, a, d, rfl, hP⟩, fun h => J.r19 (gl h (by decide)), fun h => (J.b4 (gl h (by decide))).keep hb (fun h => gl h (by decide)), fun h => by obtain ⟨g, old, h1, h2, h3, h4, h5, h6⟩ := (J.b5 (gl h (by decide))).keep (st' := False) hb False.elim; exact ⟨g, old, h1, h2, h3, h4, h5, fun hs => absurd (J.o10 (gl hs (by decide))).1 hoff⟩, fun h => (J.b6 (gl h (by decide))).keep hb (fun h => gl h (by decide)), fun h1 h2 => J.d45 (gl h1 (by decide)) (gl h2 (by decide)), fun h1 h2 => J.d46 (gl h1 (by decide)) (gl h2 (by decide)), fun h1 h2 => J.d56 (gl h1 (by decide)) (gl h2 (by decide)), fun h => ⟨up (J.o9 (gl h (by decide))).1, up (J.o9 (gl h (by decide))).2⟩, fun h => ⟨up (J.o10 (gl h (by decide))).1, up (J.o10 (gl h (by decide))).2⟩, fun h => ⟨up (J.o11 (gl h (by decide))).1, up (J.o11 (gl h (by decide))).2⟩⟩⟩
      · have hb3 := B3 w J.bel
        have c0 := hb3.get 0 rfl
        have c1 := hb3.get 1 rfl
        have c2 := hb3.get 2 rfl
        have c3 := hb3.get 3 rfl
        have c4 := hb3.get 4 rfl
        refine wpOp_step rfl (fun K hK => ?_)
        unfold fr4
        go_simp
        refine hK _ _ ?_
        exact ⟨x4, x5, x6, x14, x15, x16, x17, _, x19, rfl, ⟨J.bel, fun h => J.r14 (gl h (by decide)), fun h => J.r16 (gl h (by decide)), fun _ => rfl, fun h => J.r15 (gl h (by decide)), fun h => J.r17 (gl h (by decide)), fun h => J.r19 (gl h (by decide)), fun h => (J.b4 (gl h (by decide))).keep (Below.refl _ _) (fun h => gl h (by decide)), fun h => (J.b5 (gl h (by decide))).keep (Below.refl _ _) (fun h => gl h (by decide)), fun h => (J.b6 (gl h (by decide))).keep (Below.refl _ _) (fun h => gl h (by decide)), fun h1 h2 => J.d45 (gl h1 (by decide)) (gl h2 (by decide)), fun h1 h2 => J.d46 (gl h1 (by decide)) (gl h2 (by decide)), fun h1 h2 => J.d56 (gl h1 (by decide)) (gl h2 (by decide)), fun h => ⟨up (J.o9 (gl h (by decide))).1, up (J.o9 (gl h (by decide))).2⟩, fun h => ⟨up (J.o10 (gl h (by decide))).1, up (J.o10 (gl h (by decide))).2⟩, fun h => ⟨up (J.o11 (gl h (by decide))).1, up (J.o11 (gl h (by decide))).2⟩⟩⟩
      · have hx := J.r18 (dep_of (hrs.2.2 _ rfl) 0 rfl rfl)
        subst hx
        refine wpOp_step rfl (fun K hK => ?_)
        refine step_fn2 (by rfl) 21 Tryz.f21 (.const (.string ⟨#[77, 73, 78, 65]⟩)) (.tmp 18) 9 27 (by rfl) Tryz.func21 (by kernel_rfl) (by rfl) (.string ⟨#[77, 73, 78, 65]⟩) _ (by rfl) (by rfl) (sumsA_mn cs hok hlen _ w (HT w J.bel)) ?_
        rintro e w' ⟨k, a, d, rfl, hP, hb⟩
        refine ⟨_, rfl, hK _ _ ?_⟩
        exact ⟨x4, x5, x6, x14, x15, x16, x17, _, _, rfl, ⟨J.bel.trans (hb.mono J.bel.size), fun h => J.r14 (gl h (by decide)), fun h => J.r16 (gl h (by decide)), fun h => J.r18 (gl h (by decide)), fun h => J.r15 (gl h (by decide)), fun h => J.r17 (gl h (by decide)), fun _ => ⟨k, a, d, rfl, hP⟩, fun h => (J.b4 (gl h (by decide))).keep hb (fun h => gl h (by decide)), fun h => (J.b5 (gl h (by decide))).keep hb (fun h => gl h (by decide)), fun h => by obtain ⟨g, old, h1, h2, h3, h4, h5, h6⟩ := (J.b6 (gl h (by decide))).keep (st' := False) hb False.elim; exact ⟨g, old, h1, h2, h3, h4, h5, fun hs => absurd (J.o11 (gl hs (by decide))).1 hoff⟩, fun h1 h2 => J.d45 (gl h1 (by decide)) (gl h2 (by decide)), fun h1 h2 => J.d46 (gl h1 (by decide)) (gl h2 (by decide)), fun h1 h2 => J.d56 (gl h1 (by decide)) (gl h2 (by decide)), fun h => ⟨up (J.o9 (gl h (by decide))).1, up (J.o9 (gl h (by decide))).2⟩, fun h => ⟨up (J.o10 (gl h (by decide))).1, up (J.o10 (gl h (by decide))).2⟩, fun h => ⟨up (J.o11 (gl h (by decide))).1, up (J.o11 (gl h (by decide))).2⟩⟩⟩
      · refine wpOp_step rfl (fun K hK => ?_)
        unfold fr4
        go_simp
        refine hK _ _ ?_
        exact ⟨_, x5, x6, x14, x15, x16, x17, x18, x19, rfl, ⟨J.bel.alloc J.bel.size _, fun h => J.r14 (gl h (by decide)), fun h => J.r16 (gl h (by decide)), fun h => J.r18 (gl h (by decide)), fun h => J.r15 (gl h (by decide)), fun h => J.r17 (gl h (by decide)), fun h => J.r19 (gl h (by decide)), fun _ => ⟨w.heap.size, [.int .i64 0, .int .i64 0, .int .i64 0, .string ⟨#[]⟩, .slice none 0 0], rfl, J.bel.size, by simp, rfl, Blk.new w 27 [.int .i64 0, .int .i64 0, .int .i64 0, .string ⟨#[]⟩, .slice none 0 0], fun hs => absurd (J.o9 (gl hs (by decide))).2 hoff⟩, fun h => (J.b5 (gl h (by decide))).keep ((Below.refl _ _).alloc (Nat.le_refl _) _) (fun h => gl h (by decide)), fun h => (J.b6 (gl h (by decide))).keep ((Below.refl _ _).alloc (Nat.le_refl _) _) (fun h => gl h (by decide)), fun _ h2 e => ((J.b5 (gl h2 (by decide))).ne (Nat.le_refl _)) e.symm, fun _ h2 e => ((J.b6 (gl h2 (by decide))).ne (Nat.le_refl _)) e.symm, fun h1 h2 => J.d56 (gl h1 (by decide)) (gl h2 (by decide)), fun h => ⟨up (J.o9 (gl h (by decide))).1, up (J.o9 (gl h (by decide))).2⟩, fun h => ⟨up (J.o10 (gl h (by decide))).1, up (J.o10 (gl h (by decide))).2⟩, fun h => ⟨up (J.o11 (gl h (by decide))).1, up (J.o11 (gl h (by decide))).2⟩⟩⟩
      · refine wpOp_step rfl (fun K hK => ?_)
        unfold fr4
        go_simp
        refine hK _ _ ?_
        exact ⟨x4, _, x6, x14, x15, x16, x17, x18, x19, rfl, ⟨J.bel.alloc J.bel.size _, fun h => J.r14 (gl h (by decide)), fun h => J.r16 (gl h (by decide)), fun h => J.r18 (gl h (by decide)), fun h => J.r15 (gl h (by decide)), fun h => J.r17 (gl h (by decide)), fun h => J.r19 (gl h (by decide)), fun h => (J.b4 (gl h (by decide))).keep ((Below.refl _ _).alloc (Nat.le_refl _) _) (fun h => gl h (by decide)), fun _ => ⟨w.heap.size, [.int .i64 0, .int .i64 0, .int .i64 0, .string ⟨#[]⟩, .slice none 0 0], rfl, J.bel.size, by simp, rfl, Blk.new w 27 [.int .i64 0, .int .i64 0, .int .i64 0, .string ⟨#[]⟩, .slice none 0 0], fun hs => absurd (J.o10 (gl hs (by decide))).2 hoff⟩, fun h => (J.b6 (gl h (by decide))).keep ((Below.refl _ _).alloc (Nat.le_refl _) _) (fun h => gl h (by decide)), fun h1 _ => (J.b4 (gl h1 (by decide))).ne (Nat.le_refl _), fun h1 h2 => J.d46 (gl h1 (by decide)) (gl h2 (by decide)), fun _ h2 e => ((J.b6 (gl h2 (by decide))).ne (Nat.le_refl _)) e.symm, fun h => ⟨up (J.o9 (gl h (by decide))).1, up (J.o9 (gl h (by decide))).2⟩, fun h => ⟨up (J.o10 (gl h (by decide))).1, up (J.o10 (gl h (by decide))).2⟩, fun h => ⟨up (J.o11 (gl h (by decide))).1, up (J.o11 (gl h (by decide))).2⟩⟩⟩
      · refine wpOp_step rfl (fun K hK => ?_)
        unfold fr4
        go_simp
        refine hK _ _ ?_
        exact ⟨x4, x5, _, x14, x15, x16, x17, x18, x19, rfl, ⟨J.bel.alloc J.bel.size _, fun h => J.r14 (gl h (by decide)), fun h => J.r16 (gl h (by decide)), fun h => J.r18 (gl h (by decide)), fun h => J.r15 (gl h (by decide)), fun h => J.r17 (gl h (by decide)), fun h => J.r19 (gl h (by decide)), fun h => (J.b4 (gl h (by decide))).keep ((Below.refl _ _).alloc (Nat.le_refl _) _) (fun h => gl h (by decide)), fun h => (J.b5 (gl h (by decide))).keep ((Below.refl _ _).alloc (Nat.le_refl _) _) (fun h => gl h (by decide)), fun _ => ⟨w.heap.size, [.int .i64 0, .int .i64 0, .int .i64 0, .string ⟨#[]⟩, .slice none 0 0], rfl, J.bel.size, by simp, rfl, Blk.new w 27 [.int .i64 0, .int .i64 0, .int .i64 0, .string ⟨#[]⟩, .slice none 0 0], fun hs => absurd (J.o11 (gl hs (by decide))).2 hoff⟩, fun h1 h2 => J.d45 (gl h1 (by decide)) (gl h2 (by decide)), fun h1 _ => (J.b4 (gl h1 (by decide))).ne (Nat.le_refl _), fun h1 _ => (J.b5 (gl h1 (by decide))).ne (Nat.le_refl _), fun h => ⟨up (J.o9 (gl h (by decide))).1, up (J.o9 (gl h (by decide))).2⟩, fun h => ⟨up (J.o10 (gl h (by decide))).1, up (J.o10 (gl h (by decide))).2⟩, fun h => ⟨up (J.o11 (gl h (by decide))).1, up (J.o11 (gl h (by decide))).2⟩⟩⟩
      · have hC : On1 l 1 := dep_of (hrs.2.2 _ rfl) 1 rfl rfl
        have hA : On1 l 6 := dep_of (hrs.2.2 _ rfl) 0 rfl rfl
        obtain ⟨k, a, d, rfl, hP⟩ := J.r15 hC
        obtain ⟨g, old, rfl, hg, hg2, hol, hbk, _⟩ := J.b4 hA
        refine wpOp_step rfl (fun K hK => ?_)
        refine step_row (by rfl) 27 (.tmp 4) (.tmp 15) (by rfl) g 27 old [.int .i64 k, .int .i64 a, .int .i64 d, .string ⟨#[]⟩, .slice none 0 0] (by rfl) (by rfl) hbk sz27 hol rfl w0.heap.size hg ?_
        intro w' hr' hb' hk'
        refine hK _ _ ?_
        exact ⟨_, _, _, _, _, _, _, _, _, rfl, ⟨J.bel.trans hb', fun h => J.r14 (gl h (by decide)), fun h => J.r16 (gl h (by decide)), fun h => J.r18 (gl h (by decide)), fun h => J.r15 (gl h (by decide)), fun h => J.r17 (gl h (by decide)), fun h => J.r19 (gl h (by decide)), fun _ => ⟨g, _, rfl, hg, hr'.lt, rfl, hr', fun _ => rfl⟩, fun h => (J.b5 (gl h (by decide))).far hk' (fun e => J.d45 hA (gl h (by decide)) e.symm) (fun h => gl h (by decide)), fun h => (J.b6 (gl h (by decide))).far hk' (fun e => J.d46 hA (gl h (by decide)) e.symm) (fun h => gl h (by decide)), fun h1 h2 => J.d45 (gl h1 (by decide)) (gl h2 (by decide)), fun h1 h2 => J.d46 (gl h1 (by decide)) (gl h2 (by decide)), fun h1 h2 => J.d56 (gl h1 (by decide)) (gl h2 (by decide)), fun _ => ⟨up hC, up hA⟩, fun h => ⟨up (J.o10 (gl h (by decide))).1, up (J.o10 (gl h (by decide))).2⟩, fun h => ⟨up (J.o11 (gl h (by decide))).1, up (J.o11 (gl h (by decide))).2⟩⟩⟩
      · have hC : On1 l 3 := dep_of (hrs.2.2 _ rfl) 1 rfl rfl
        have hA : On1 l 7 := dep_of (hrs.2.2 _ rfl) 0 rfl rfl
        obtain ⟨k, a, d, rfl, hP⟩ := J.r17 hC
        obtain ⟨g, old, rfl, hg, hg2, hol, hbk, _⟩ := J.b5 hA
        refine wpOp_step rfl (fun K hK => ?_)
        refine step_row (by rfl) 27 (.tmp 5) (.tmp 17) (by rfl) g 27 old [.int .i64 k, .int .i64 a, .int .i64 d, .string ⟨#[]⟩, .slice none 0 0] (by rfl) (by rfl) hbk sz27 hol rfl w0.heap.size hg ?_
        intro w' hr' hb' hk'
        refine hK _ _ ?_
        exact ⟨_, _, _, _, _, _, _, _, _, rfl, ⟨J.bel.trans hb', fun h => J.r14 (gl h (by decide)), fun h => J.r16 (gl h (by decide)), fun h => J.r18 (gl h (by decide)), fun h => J.r15 (gl h (by decide)), fun h => J.r17 (gl h (by decide)), fun h => J.r19 (gl h (by decide)), fun h => (J.b4 (gl h (by decide))).far hk' (J.d45 (gl h (by decide)) hA) (fun h => gl h (by decide)), fun _ => ⟨g, _, rfl, hg, hr'.lt, rfl, hr', fun _ => rfl⟩, fun h => (J.b6 (gl h (by decide))).far hk' (fun e => J.d56 hA (gl h (by decide)) e.symm) (fun h => gl h (by decide)), fun h1 h2 => J.d45 (gl h1 (by decide)) (gl h2 (by decide)), fun h1 h2 => J.d46 (gl h1 (by decide)) (gl h2 (by decide)), fun h1 h2 => J.d56 (gl h1 (by decide)) (gl h2 (by decide)), fun h => ⟨up (J.o9 (gl h (by decide))).1, up (J.o9 (gl h (by decide))).2⟩, fun _ => ⟨up hC, up hA⟩, fun h => ⟨up (J.o11 (gl h (by decide))).1, up (J.o11 (gl h (by decide))).2⟩⟩⟩
      · have hC : On1 l 5 := dep_of (hrs.2.2 _ rfl) 1 rfl rfl
        have hA : On1 l 8 := dep_of (hrs.2.2 _ rfl) 0 rfl rfl
        obtain ⟨k, a, d, rfl, hP⟩ := J.r19 hC
        obtain ⟨g, old, rfl, hg, hg2, hol, hbk, _⟩ := J.b6 hA
        refine wpOp_step rfl (fun K hK => ?_)
        refine step_row (by rfl) 27 (.tmp 6) (.tmp 19) (by rfl) g 27 old [.int .i64 k, .int .i64 a, .int .i64 d, .string ⟨#[]⟩, .slice none 0 0] (by rfl) (by rfl) hbk sz27 hol rfl w0.heap.size hg ?_
        intro w' hr' hb' hk'
        refine hK _ _ ?_
        exact ⟨_, _, _, _, _, _, _, _, _, rfl, ⟨J.bel.trans hb', fun h => J.r14 (gl h (by decide)), fun h => J.r16 (gl h (by decide)), fun h => J.r18 (gl h (by decide)), fun h => J.r15 (gl h (by decide)), fun h => J.r17 (gl h (by decide)), fun h => J.r19 (gl h (by decide)), fun h => (J.b4 (gl h (by decide))).far hk' (J.d46 (gl h (by decide)) hA) (fun h => gl h (by decide)), fun h => (J.b5 (gl h (by decide))).far hk' (J.d56 (gl h (by decide)) hA) (fun h => gl h (by decide)), fun _ => ⟨g, _, rfl, hg, hr'.lt, rfl, hr', fun _ => rfl⟩, fun h1 h2 => J.d45 (gl h1 (by decide)) (gl h2 (by decide)), fun h1 h2 => J.d46 (gl h1 (by decide)) (gl h2 (by decide)), fun h1 h2 => J.d56 (gl h1 (by decide)) (gl h2 (by decide)), fun h => ⟨up (J.o9 (gl h (by decide))).1, up (J.o9 (gl h (by decide))).2⟩, fun h => ⟨up (J.o10 (gl h (by decide))).1, up (J.o10 (gl h (by decide))).2⟩, fun _ => ⟨up hC, up hA⟩⟩⟩
    · rintro l a w hl ⟨x4, x5, x6, x14, x15, x16, x17, x18, x19, rfl, J⟩ hr
      have h0 : On1 l 0 := on_all hl (by omega) (not_ready hr (i := 0) rfl (by decide) (by simp [Region.binds]))
      have q0 : l[0]?.getD false = true := by have := h0; unfold On1 at this; rwa [Array.getD_eq_getD_getElem?] at this
      have h1 : On1 l 1 := on_all hl (by omega) (not_ready hr (i := 1) rfl (by decide) (by simp [Region.binds, q0]))
      have q1 : l[1]?.getD false = true := by have := h1; unfold On1 at this; rwa [Array.getD_eq_getD_getElem?] at this
      have h2 : On1 l 2 := on_all hl (by omega) (not_ready hr (i := 2) rfl (by decide) (by simp [Region.binds]))
      have q2 : l[2]?.getD false = true := by have := h2; unfold On1 at this; rwa [Array.getD_eq_getD_getElem?] at this
      have h3 : On1 l 3 := on_all hl (by omega) (not_ready hr (i := 3) rfl (by decide) (by simp [Region.binds, q1, q2]))
      have q3 : l[3]?.getD false = true := by have := h3; unfold On1 at this; rwa [Array.getD_eq_getD_getElem?] at this
      have h4 : On1 l 4 := on_all hl (by omega) (not_ready hr (i := 4) rfl (by decide) (by simp [Region.binds]))
      have q4 : l[4]?.getD false = true := by have := h4; unfold On1 at this; rwa [Array.getD_eq_getD_getElem?] at this
      have h5 : On1 l 5 := on_all hl (by omega) (not_ready hr (i := 5) rfl (by decide) (by simp [Region.binds, q3, q4]))
      have q5 : l[5]?.getD false = true := by have := h5; unfold On1 at this; rwa [Array.getD_eq_getD_getElem?] at this
      have h6 : On1 l 6 := on_all hl (by omega) (not_ready hr (i := 6) rfl (by decide) (by simp [Region.binds]))
      have q6 : l[6]?.getD false = true := by have := h6; unfold On1 at this; rwa [Array.getD_eq_getD_getElem?] at this
      have h7 : On1 l 7 := on_all hl (by omega) (not_ready hr (i := 7) rfl (by decide) (by simp [Region.binds]))
      have q7 : l[7]?.getD false = true := by have := h7; unfold On1 at this; rwa [Array.getD_eq_getD_getElem?] at this
      have h8 : On1 l 8 := on_all hl (by omega) (not_ready hr (i := 8) rfl (by decide) (by simp [Region.binds]))
      have q8 : l[8]?.getD false = true := by have := h8; unfold On1 at this; rwa [Array.getD_eq_getD_getElem?] at this
      have h9 : On1 l 9 := on_all hl (by omega) (not_ready hr (i := 9) rfl (by decide) (by simp [Region.binds, q0, q1, q2, q3, q4, q5, q6, q7, q8]))
      have q9 : l[9]?.getD false = true := by have := h9; unfold On1 at this; rwa [Array.getD_eq_getD_getElem?] at this
      have h10 : On1 l 10 := on_all hl (by omega) (not_ready hr (i := 10) rfl (by decide) (by simp [Region.binds, q0, q1, q2, q3, q4, q5, q6, q7, q8, q9]))
      have q10 : l[10]?.getD false = true := by have := h10; unfold On1 at this; rwa [Array.getD_eq_getD_getElem?] at this
      have h11 : On1 l 11 := on_all hl (by omega) (not_ready hr (i := 11) rfl (by decide) (by simp [Region.binds, q0, q1, q2, q3, q4, q5, q6, q7, q8, q9, q10]))
      have q11 : l[11]?.getD false = true := by have := h11; unfold On1 at this; rwa [Array.getD_eq_getD_getElem?] at this
      obtain ⟨k1, a1, d1, e1, p1⟩ := J.r15 h1
      obtain ⟨k2, a2, d2, e2, p2⟩ := J.r17 h3
      obtain ⟨k3, a3, d3, e3, p3⟩ := J.r19 h5
      obtain ⟨g4, f4, z4⟩ := Bk.fin ((J.b4 h6).keep (Below.refl _ _) (fun _ => h9)) e1
      obtain ⟨g5, f5, z5⟩ := Bk.fin ((J.b5 h7).keep (Below.refl _ _) (fun _ => h10)) e2
      obtain ⟨g6, f6, z6⟩ := Bk.fin ((J.b6 h8).keep (Below.refl _ _) (fun _ => h11)) e3
      refine ⟨rfl, g4, g5, g6, k1, a1, d1, k2, a2, d2, k3, a3, d3, ?_, p1, p2, p3, z4, z5, z6, J.bel⟩
      rw [e1, e2, e3, f4, f5, f6, J.r14 h0, J.r16 h2, J.r18 h4]
    · exact ⟨undef, undef, undef, undef, undef, undef, undef, undef, undef, rfl, ⟨⟨rfl, rfl, rfl, Nat.le_refl _, fun _ _ => rfl⟩, fun h => absurd h (by decide), fun h => absurd h (by decide), fun h => absurd h (by decide), fun h => absurd h (by decide), fun h => absurd h (by decide), fun h => absurd h (by decide), fun h => absurd h (by decide), fun h => absurd h (by decide), fun h => absurd h (by decide), fun h => absurd h (by decide), fun h => absurd h (by decide), fun h => absurd h (by decide), fun h => absurd h (by decide), fun h => absurd h (by decide), fun h => absurd h (by decide)⟩⟩

set_option maxRecDepth 20000 in
set_option maxHeartbeats 2000000 in
theorem law4_big (n c : Nat) (A : Option Addr) (w : World) (hn : 2147483647 < n) : Calls Tryz.prog 4 #[.slice A n c] w fun e w' => e = .returned (.bool true) ∧ Below w.heap.size w w' := by
  have hd : decide (2147483647 < (n : Int)) = true := (by simp; omega)
  go_enter Tryz.func4, Tryz.ntmps4
  go_wp2
  go_ret
  exact ⟨rfl, by go_grown⟩
theorem law4_all (n c : Nat) (A : Option Addr) (w : World) (f : Nat → Int) (hc : ∀ i, i < n → ∃ a, A = some a ∧ w.cell? (a.add i) = some (.int .i64 (f i))) :
    Calls Tryz.prog 4 #[.slice A n c] w fun e w' => e = .returned (.bool true) ∧ Below w.heap.size w w' := by
  by_cases hn : n ≤ 2147483647
  · refine law4_any n c A w hn ?_
    by_cases h0 : n = 0
    · subst h0
      exact sumsCells_zero A c w
    · obtain ⟨a, rfl, h1⟩ := hc 0 (by omega)
      refine sumsCells_any n c a f w (fun i hi => ?_) ?_ hn
      · obtain ⟨b, hb, h2⟩ := hc i hi
        injection hb with hb
        subst hb
        exact h2
      · have := World.block_lt_of_cell? w _ h1
        have hbl : (a.add 0).block = a.block := by unfold Addr.add; split <;> rfl
        rwa [hbl] at this
  · exact law4_big n c A w (by omega)
end Go.Proofs.YtoebgbojpkflnaaGreatDoor
