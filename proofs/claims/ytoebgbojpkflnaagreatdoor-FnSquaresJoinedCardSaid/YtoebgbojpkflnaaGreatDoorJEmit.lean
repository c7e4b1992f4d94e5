/- Proof of FnSquaresJoined, a part: Go's fmtEFG at the digits of a short whole number: a sign, the digits, zeros. Conditions: at most six digits. -/
import Derived.Maps.AppendAt
import Derived.Test.YtoebgbojpkflnaaGreatDoorJDigs
namespace Go.Proofs.YtoebgbojpkflnaaGreatDoor
open Go Go.RowKit
theorem info5 : (Tryz.prog.info? 5).map (fun i => (i.zero, i.size, i.bytes)) = some (some (.int .u8 0), 1, 1) := by kernel_rfl
/-- A row of bytes that the call is writing, beside a block of digits. -/
structure BufSt (B : Nat) (W w : World) (v : Value) (xs : List UInt8) (g nd : Nat) (D : Nat → UInt8) : Prop where
  own : w.ownsRow B 5 1 v xs.length (xs.map byteVal)
  ne : v.ownBlock ≠ some g
  dig : ∀ t, t < nd → w.cell? ⟨g, t, none⟩ = some (byteVal (D t))
  bel : Below B W w
  glt : g < w.heap.size
  blt : B ≤ w.heap.size
theorem news_cells' (W : World) (E : TypeId) (row : List Value) : ∀ (j : Nat) (u : Value), row[j]? = some u → (W.alloc (.cells row.toArray E)).cell? ((⟨W.heap.size, 0, none⟩ : Addr).add j) = some u := by
  intro j u hu
  have hadd : (⟨W.heap.size, 0, none⟩ : Addr).add j = ⟨W.heap.size, j, none⟩ := by unfold Addr.add; split <;> simp_all
  rw [hadd]
  exact (Blk.new W E row).get j hu
theorem append_byte {w W : World} {ops : Array Oper} {rest : List Oper} {o : Oper} {a : Act} {Q : Exit → Act → World → Prop} (hgd : o.guard = none) (s x : Operand)
    (ho : o.op = .call { callee := .builtin .append, args := #[s, x], argTypes := #[75, 75] })
    {B g nd : Nat} {D : Nat → UInt8} {v : Value} {xs : List UInt8} (st : BufSt B W w v xs g nd D) (c : UInt8) (cv : Value) (hcv : cv = byteVal c) (hs : a.eval s = v) (hx : a.eval x = .slice (some ⟨w.heap.size, 0, none⟩) 1 1) (hn : xs.length ≤ 1000)
    (h : ∀ v' w', BufSt B W w' v' (xs ++ [c]) g nd D → wpList Tryz.prog ops Q rest (a.put o.dst v') w') : wpList Tryz.prog ops Q (o :: rest) a (w.alloc (.cells #[cv] 5)) := by
  subst hcv
  obtain ⟨i, hi, hz0, hz1, hz2⟩ := info_parts info5
  have hnews : ∀ (j : Nat) (u : Value), [byteVal c][j]? = some u → (w.alloc (.cells #[byteVal c] 5)).cell? ((⟨w.heap.size, 0, none⟩ : Addr).add j) = some u := news_cells' w 5 [byteVal c]
  refine wpList_append_own_at (w.alloc (.cells #[byteVal c] 5)) hgd s x 75 ho B 5 i _ 1 1 Tryz.underlying75 hi hz0 hz1 hz2 rfl (by decide) v xs.length (xs.map byteVal) hs (ownsRow_below st.own ((Below.refl _ _).alloc (Nat.le_refl _) _)) ⟨w.heap.size, 0, none⟩ 1 1 [byteVal c] hx rfl hnews (by intro u hu; simp at hu; subst hu; rfl) (by simp only [maxLen]; omega) (by omega) (by have := st.blt; simp; omega) ?_
  intro v' w' h1 h2 _ h4
  have hwlt : (w.alloc (.cells #[byteVal c] 5)).heap.size = w.heap.size + 1 := by simp
  refine h v' w' ⟨by simpa using h1, ?_, fun t ht => ?_, ?_, ?_, ?_⟩
  · rcases h4 with h4 | h4
    · rw [h4]; exact st.ne
    · rw [h4]; intro e; have := st.glt; injection e with e; rw [hwlt] at e; omega
  · have hb := h2.block g (by have := st.glt; rw [hwlt]; omega) (fun e => st.ne e.symm)
    have h5 : w'.cell? ⟨g, t, none⟩ = (w.alloc (.cells #[byteVal c] 5)).cell? ⟨g, t, none⟩ := World.cell?_of_block hb
    rw [h5, World.cell?_alloc_lt w _ _ st.glt]
    exact st.dig t ht
  · exact (st.bel.alloc st.blt _).grown h2 (by rw [hwlt]; have := st.blt; omega) fun k hk => (st.own.lt k hk).1
  · exact Nat.lt_of_lt_of_le (by rw [hwlt]; have := st.glt; omega) h2.size
  · exact Nat.le_trans (by rw [hwlt]; have := st.blt; omega) h2.size
set_option maxRecDepth 20000 in
set_option maxHeartbeats 2000000 in
theorem efg_false (g nd dp : Nat) (D : Nat → UInt8) (B : Nat) (W w : World) (v : Value) (st : BufSt B W w v [] g nd D) (n1 : 1 ≤ nd) (n2 : nd ≤ dp) (n3 : dp ≤ 6) :
    Calls Tryz.prog 211 #[v, .bool false, .slice (some ⟨g, 0, none⟩) 32 32, .int .i64 dp, .int .i64 nd, .int .i64 nd, .int .u8 103, .bool true] w fun e w' => ∃ v', e = .returned v' ∧ BufSt B W w' v' (([] : List UInt8) ++ (List.range nd).map D ++ List.replicate (dp - nd) 48) g nd D := by
  have HST : Hid (BufSt B W w v [] g nd D) := st
  have hdp6 : (dp : Int) - 1 < 6 := (by omega)
  have hdp4 : -4 ≤ (dp : Int) - 1 := (by omega)
  have hmin : min (nd : Int) (dp : Int) = (nd : Int) := (by omega)
  have hmax : max ((nd : Int) - (dp : Int)) 0 = 0 := (by omega)
  have hd1 : decide ((dp : Int) - 1 < -4) = false := (by rw [decide_eq_false_iff_not]; omega)
  have hd2 : decide (6 ≤ (dp : Int) - 1) = false := (by rw [decide_eq_false_iff_not]; omega)
  have hd3 : decide (dp < nd) = false := (by rw [decide_eq_false_iff_not]; omega)
  have hd4 : decide (0 < dp) = true := (by rw [decide_eq_true_eq]; omega)
  have ht : ((dp : Int) - (nd : Int)) = ((dp - nd : Nat) : Int) := (by omega)
  have HTT : Hid (((dp : Int) - (nd : Int)) = ((dp - nd : Nat) : Int)) := ht
  clear st ht
  go_enter Tryz.func211, Tryz.ntmps211
  go_wp2_with fail
  obtain ⟨w1, hw1⟩ : ∃ w1, w1 = w := ⟨_, rfl⟩
  obtain ⟨v1, hv1⟩ : ∃ v1, v1 = v := ⟨_, rfl⟩
  rw [← hw1, ← hv1]
  have HS1 : Hid (BufSt B W w1 v1 ([] : List UInt8) g nd D) := (by rw [hw1, hv1]; exact HST.out)
  clear hw1 hv1
  go_loopw [0, 191] (fun u i wr => ∃ j : Nat, j ≤ nd ∧ i = .int .i64 j ∧ BufSt B W wr u (([] : List UInt8) ++ (List.range j).map D) g nd D) (fun _ i _ => nd - (intOf i).toNat)
  case atStart => exact ⟨0, Nat.zero_le _, rfl, by simpa using HS1.out⟩
  case round =>
    obtain ⟨j, hj, rfl, hsr⟩ := hrel
    have HSR : Hid (BufSt B W wr u0 (([] : List UInt8) ++ (List.range j).map D) g nd D) := hsr
    clear hsr
    by_cases hlt : j < nd
    · have hc := HSR.out.dig j hlt
      obtain ⟨c, hcc⟩ : ∃ c : Int, c = ((D j).toNat : Int) := ⟨_, rfl⟩
      have hb : wr.cell? ⟨g, j, none⟩ = some (.int .u8 c) := by rw [hc, hcc]
      have HCC : Hid (Value.int .u8 c = byteVal (D j)) := (by show Value.int .u8 c = byteVal (D j); rw [hcc])
      clear hc hcc
      go_wp2_with (at_builtin; refine append_byte rfl (.tmp 195) (.tmp 197) rfl HSR.out (D j) (.int .u8 c) HCC.out rfl rfl (by simp; omega) ?_; intro v2 w2 hs2; have HS2 : Hid _ := hs2; clear hs2)
      go_roundw
      case rel => exact ⟨j + 1, by omega, by go_num, by have := HS2.out; rw [List.append_assoc] at this; rw [List.range_succ, List.map_append]; exact this⟩
      case measure => simp [intOf]; omega
    · have HJN : Hid (j = nd) := (show j = nd by omega)
      have hge : ¬ (j < nd) := hlt
      go_wp2_with fail
      rw [HTT.out]
      obtain ⟨z, hz⟩ : ∃ z, z = dp - nd := ⟨_, rfl⟩
      rw [← hz]
      have HZ : Hid (z = dp - nd) := hz
      have hz6 : z ≤ 6 := (by omega)
      clear hz hlt hj
      go_loopw [0, 203] (fun u i wr => ∃ q : Nat, q ≤ z ∧ i = .int .i64 q ∧ BufSt B W wr u (([] : List UInt8) ++ (List.range nd).map D ++ List.replicate q 48) g nd D) (fun _ i _ => z - (intOf i).toNat)
      case atStart => exact ⟨0, Nat.zero_le _, rfl, by have := HSR.out; rw [HJN.out] at this; rw [List.replicate_zero, List.append_nil]; exact this⟩
      case round =>
        obtain ⟨q, hq, rfl, hsr⟩ := hrel
        have HSQ : Hid (BufSt B W wr u0 (([] : List UInt8) ++ (List.range nd).map D ++ List.replicate q 48) g nd D) := hsr
        clear hsr
        by_cases hqz : q < z
        · go_wp2_with (at_builtin; refine append_byte rfl (.tmp 205) (.tmp 206) rfl HSQ.out 48 (.int .u8 48) rfl rfl rfl (by simp; omega) ?_; intro v3 w3 hs3; have HS3 : Hid _ := hs3; clear hs3)
          go_roundw
          case rel => exact ⟨q + 1, by omega, by go_num, by have := HS3.out; rw [List.append_assoc] at this; rw [List.replicate_succ']; exact this⟩
          case measure => simp [intOf]; omega
        · have HQZ : Hid (q = z) := (show q = z by omega)
          go_wp2_with fail
          go_ret
          exact ⟨_, rfl, by have := HSQ.out; rw [HQZ.out, HZ.out] at this; exact this⟩
set_option maxRecDepth 20000 in
set_option maxHeartbeats 2000000 in
theorem efg_true (g nd dp : Nat) (D : Nat → UInt8) (B : Nat) (W w : World) (v : Value) (st : BufSt B W w v [] g nd D) (n1 : 1 ≤ nd) (n2 : nd ≤ dp) (n3 : dp ≤ 6) :
    Calls Tryz.prog 211 #[v, .bool true, .slice (some ⟨g, 0, none⟩) 32 32, .int .i64 dp, .int .i64 nd, .int .i64 nd, .int .u8 103, .bool true] w fun e w' => ∃ v', e = .returned v' ∧ BufSt B W w' v' ([45] ++ (List.range nd).map D ++ List.replicate (dp - nd) 48) g nd D := by
  have HST : Hid (BufSt B W w v [] g nd D) := st
  have hdp6 : (dp : Int) - 1 < 6 := (by omega)
  have hdp4 : -4 ≤ (dp : Int) - 1 := (by omega)
  have hmin : min (nd : Int) (dp : Int) = (nd : Int) := (by omega)
  have hmax : max ((nd : Int) - (dp : Int)) 0 = 0 := (by omega)
  have hd1 : decide ((dp : Int) - 1 < -4) = false := (by rw [decide_eq_false_iff_not]; omega)
  have hd2 : decide (6 ≤ (dp : Int) - 1) = false := (by rw [decide_eq_false_iff_not]; omega)
  have hd3 : decide (dp < nd) = false := (by rw [decide_eq_false_iff_not]; omega)
  have hd4 : decide (0 < dp) = true := (by rw [decide_eq_true_eq]; omega)
  have ht : ((dp : Int) - (nd : Int)) = ((dp - nd : Nat) : Int) := (by omega)
  have HTT : Hid (((dp : Int) - (nd : Int)) = ((dp - nd : Nat) : Int)) := ht
  clear st ht
  go_enter Tryz.func211, Tryz.ntmps211
  go_wp2_with (at_builtin; refine append_byte rfl (.tmp 179) (.tmp 180) rfl HST.out 45 (.int .u8 45) rfl rfl rfl (by simp) ?_; intro v1 w1 hst)
  have HS1 : Hid (BufSt B W w1 v1 [45] g nd D) := hst
  clear hst
  go_loopw [0, 191] (fun u i wr => ∃ j : Nat, j ≤ nd ∧ i = .int .i64 j ∧ BufSt B W wr u ([45] ++ (List.range j).map D) g nd D) (fun _ i _ => nd - (intOf i).toNat)
  case atStart => exact ⟨0, Nat.zero_le _, rfl, by simpa using HS1.out⟩
  case round =>
    obtain ⟨j, hj, rfl, hsr⟩ := hrel
    have HSR : Hid (BufSt B W wr u0 ([45] ++ (List.range j).map D) g nd D) := hsr
    clear hsr
    by_cases hlt : j < nd
    · have hc := HSR.out.dig j hlt
      obtain ⟨c, hcc⟩ : ∃ c : Int, c = ((D j).toNat : Int) := ⟨_, rfl⟩
      have hb : wr.cell? ⟨g, j, none⟩ = some (.int .u8 c) := by rw [hc, hcc]
      have HCC : Hid (Value.int .u8 c = byteVal (D j)) := (by show Value.int .u8 c = byteVal (D j); rw [hcc])
      clear hc hcc
      go_wp2_with (at_builtin; refine append_byte rfl (.tmp 195) (.tmp 197) rfl HSR.out (D j) (.int .u8 c) HCC.out rfl rfl (by simp; omega) ?_; intro v2 w2 hs2; have HS2 : Hid _ := hs2; clear hs2)
      go_roundw
      case rel => exact ⟨j + 1, by omega, by go_num, by have := HS2.out; rw [List.append_assoc] at this; rw [List.range_succ, List.map_append]; exact this⟩
      case measure => simp [intOf]; omega
    · have HJN : Hid (j = nd) := (show j = nd by omega)
      have hge : ¬ (j < nd) := hlt
      go_wp2_with fail
      rw [HTT.out]
      obtain ⟨z, hz⟩ : ∃ z, z = dp - nd := ⟨_, rfl⟩
      rw [← hz]
      have HZ : Hid (z = dp - nd) := hz
      have hz6 : z ≤ 6 := (by omega)
      clear hz hlt hj
      go_loopw [0, 203] (fun u i wr => ∃ q : Nat, q ≤ z ∧ i = .int .i64 q ∧ BufSt B W wr u ([45] ++ (List.range nd).map D ++ List.replicate q 48) g nd D) (fun _ i _ => z - (intOf i).toNat)
      case atStart => exact ⟨0, Nat.zero_le _, rfl, by have := HSR.out; rw [HJN.out] at this; rw [List.replicate_zero, List.append_nil]; exact this⟩
      case round =>
        obtain ⟨q, hq, rfl, hsr⟩ := hrel
        have HSQ : Hid (BufSt B W wr u0 ([45] ++ (List.range nd).map D ++ List.replicate q 48) g nd D) := hsr
        clear hsr
        by_cases hqz : q < z
        · go_wp2_with (at_builtin; refine append_byte rfl (.tmp 205) (.tmp 206) rfl HSQ.out 48 (.int .u8 48) rfl rfl rfl (by simp; omega) ?_; intro v3 w3 hs3; have HS3 : Hid _ := hs3; clear hs3)
          go_roundw
          case rel => exact ⟨q + 1, by omega, by go_num, by have := HS3.out; rw [List.append_assoc] at this; rw [List.replicate_succ']; exact this⟩
          case measure => simp [intOf]; omega
        · have HQZ : Hid (q = z) := (show q = z by omega)
          go_wp2_with fail
          go_ret
          exact ⟨_, rfl, by have := HSQ.out; rw [HQZ.out, HZ.out] at this; exact this⟩
theorem efg_any (neg : Bool) (g nd dp : Nat) (D : Nat → UInt8) (B : Nat) (W w : World) (v : Value) (st : BufSt B W w v [] g nd D) (n1 : 1 ≤ nd) (n2 : nd ≤ dp) (n3 : dp ≤ 6) :
    Calls Tryz.prog 211 #[v, .bool neg, .slice (some ⟨g, 0, none⟩) 32 32, .int .i64 dp, .int .i64 nd, .int .i64 nd, .int .u8 103, .bool true] w fun e w' => ∃ v', e = .returned v' ∧ BufSt B W w' v' ((if neg then [45] else []) ++ (List.range nd).map D ++ List.replicate (dp - nd) 48) g nd D := by
  cases neg
  · exact efg_false g nd dp D B W w v st n1 n2 n3
  · exact efg_true g nd dp D B W w v st n1 n2 n3
end Go.Proofs.YtoebgbojpkflnaaGreatDoor
