/- Proof of FnSquaresJoined, a part: SUMPRODUCT of two rows of whole numbers. -/
import Derived.Deep.OwnRows
import Derived.Lib.SliceRun
import Derived.Test.YtoebgbojpkflnaaGreatDoorJSumX
namespace Go.Proofs.YtoebgbojpkflnaaGreatDoor
open Go Go.RowKit
def fT (x y : Int) : Int := x * y
theorem fT_le (x y : Int) (hx : x.natAbs ≤ 999) (hy : y.natAbs ≤ 999) : (fT x y).natAbs ≤ 4000000 := by
  unfold fT
  rw [Int.natAbs_mul]
  exact Nat.le_trans (Nat.mul_le_mul hx hy) (by decide)
theorem PushKept'.trans {g : Nat} {w w' w'' : World} (h : PushKept' g w w') (h' : PushKept' g w' w'') : PushKept' g w w'' :=
  ⟨Nat.le_trans h.size h'.size, fun k hk hne => (h'.kept k (Nat.lt_of_lt_of_le hk h.size) hne).trans (h.kept k hk hne)⟩
theorem PushKept'.of_below {g : Nat} {w w' : World} (h : Below w.heap.size w w') : PushKept' g w w' := ⟨h.size, fun k hk _ => h.block k hk⟩
theorem Arr.pk {B e sz g : Nat} {w w' : World} {v : Value} {xs : List (List Value)} (h : Arr B w e sz v xs) (hp : PushKept' g w w') (hne : v.ownBlock ≠ some g) : Arr B w' e sz v xs := by
  refine ⟨?_, h.wid⟩
  obtain ⟨h1, h2⟩ := h.row
  refine ⟨h1, ?_⟩
  rcases h2 with h2 | ⟨b, cap, cur, hv, hB, hh, r'⟩
  · exact .inl h2
  · refine .inr ⟨b, cap, cur, hv, hB, ?_, r'⟩
    rw [hp.kept b (lt_of_block hh) (fun e => hne (by rw [hv, ← e]; rfl))]
    exact hh
theorem info34 : (Tryz.prog.info? 34).map (fun i => (i.zero, i.size, i.bytes)) = some (some (.float .f64 0), 1, 8) := by kernel_rfl
def Fl64 (vs : List Nat) : List Value := vs.map (.float .f64)
theorem Fl64.set (vs : List Nat) (k x : Nat) : (Fl64 vs).set k (.float .f64 x) = Fl64 (vs.set k x) := by unfold Fl64; rw [List.map_set]
theorem PushKept'.setAlloc (w : World) (g k : Nat) (v : Value) (o : Obj) : PushKept' g w (((w.setCell ⟨g, k, none⟩ v).alloc o).drew) :=
  ⟨by show w.heap.size ≤ ((w.setCell ⟨g, k, none⟩ v).alloc o).heap.size; simp, fun j hj hne => (((Below.refl _ _).alloc (Nat.le_refl _) o : Below (w.setCell ⟨g, k, none⟩ v).heap.size _ _).block j (by simpa using hj)).trans (Below.heap_setCell _ _ _ j hne)⟩
theorem made_fl (n : Nat) : madeCells #[Value.float .f64 0] n = (Fl64 (List.replicate n 0)).toArray := by
  apply Array.ext
  · simp [madeCells, Fl64]
  · intro i h1 h2
    simp [madeCells, Fl64, Nat.mod_one]
abbrev one1 : Nat := 4607182418800017408
theorem Fl64.at_ {vs : List Nat} {k x : Nat} (h : vs[k]? = some x) : (Fl64 vs)[k]? = some (.float .f64 x) := by unfold Fl64; rw [List.getElem?_map, h]; rfl
set_option maxRecDepth 20000 in
set_option maxHeartbeats 8000000 in
theorem sprod_any (xs ys : List Int) (n : Nat) (hx : xs.length = n) (hy : ys.length = n) (h0 : 0 < n) (hn : n ≤ 50) (okx : SmallInts xs) (oky : SmallInts ys) (F : Value) (B L b0 b1 rg rc sg sc : Nat) (p q p2 q2 : Option Addr) (w : World)
    (hil : IsList B w L [b0, b1] [.iface 84 (.agg #[.string ⟨#[]⟩, .float .f64 0, .string ⟨#[]⟩, .slice none 0 0, .slice (some ⟨rg, 0, none⟩) n rc, .bool false, .string ⟨#[]⟩, .int .u8 4, .pointer p, .pointer q]), .iface 84 (.agg #[.string ⟨#[]⟩, .float .f64 0, .string ⟨#[]⟩, .slice none 0 0, .slice (some ⟨sg, 0, none⟩) n sc, .bool false, .string ⟨#[]⟩, .int .u8 4, .pointer p2, .pointer q2])]) (ht : Tab 0 w 79 84 10 (.slice (some ⟨rg, 0, none⟩) n rc) ((xs.map iA).map fun a => [a.facells])) (hu : Tab 0 w 79 84 10 (.slice (some ⟨sg, 0, none⟩) n sc) ((ys.map iA).map fun a => [a.facells])) :
    Calls Tryz.prog 114 #[F, .pointer (some ⟨L, 0, none⟩)] w (Gives (fun r => r = .num (fx (tot fT xs ys) 0)) w) := by
  obtain ⟨c0, l0⟩ := hil.at3 0 rfl rfl
  obtain ⟨c1, l1⟩ := hil.at3 1 rfl rfl
  have m0 := lt_k l0
  have m1 := lt_k l1
  have HIL := Lib.hid hil
  have HT := Lib.hid ht
  have HU := Lib.hid hu
  have HX := Lib.hid hx
  have HY := Lib.hid hy
  have HOX := Lib.hid okx
  have HOY := Lib.hid oky
  have HXL := Lib.hid (show (xs.map iA).length ≤ 100 by rw [List.length_map]; omega)
  have HYL := Lib.hid (show (ys.map iA).length ≤ 100 by rw [List.length_map]; omega)
  have HXN := Lib.hid (show xs.map iA ≠ [] by intro h; rw [List.map_eq_nil_iff] at h; rw [h] at hx; simp at hx; omega)
  have HYN := Lib.hid (show ys.map iA ≠ [] by intro h; rw [List.map_eq_nil_iff] at h; rw [h] at hy; simp at hy; omega)
  clear hil ht hu hx hy okx oky
  have hnil := fun (w' : World) (a : Option Addr) (m c : Nat) => Lib.run_eql_slice_nil (P := Tryz.prog) w' 143 34 a m c 0 0 Tryz.underlying143
  go_enter Tryz.func114, Tryz.ntmps114
  go_wp2_with (go_at_call 112; refine (front_any _ _ _ _ _ _ _ (HIL.out.keep (by go_grown))).mono ?_; rintro e w2 ⟨rfl, rfl⟩)
  refine wp_loop_rounds 3 ?_
  rw [rounds_succ]
  go_wp2_with fail
  refine (toList_mat (xs.map iA) HXL.out HXN.out _ p q _ (HT.out.keep (by go_grown))).mono ?_
  rintro e w2 ⟨v2, rfl, ha, hb⟩
  obtain ⟨ga, ca, rfl⟩ : ∃ ga ca, v2 = .slice (some ⟨ga, 0, none⟩) n ca := (by
    rcases ha.shape with ⟨_, h⟩ | ⟨g, c, h, _⟩
    · exact absurd (List.map_eq_nil_iff.1 h) HXN.out
    · exact ⟨g, c, by rw [h, List.length_map, List.length_map, HX.out]⟩)
  have HA := Lib.hid ha
  have HB2 : Hid (Below w.heap.size w w2) := Below.trans (by go_grown) (hb.mono (by simp; omega))
  have HR2 : Hid (Blk w2 w.heap.size 84 [.string ⟨#[]⟩, .float .f64 0, .string ⟨#[]⟩, .slice none 0 0, .slice none 0 0, .bool false, .string ⟨#[]⟩, .int .u8 0, .pointer none, .pointer none]) := ((Blk.new w 84 [.string ⟨#[]⟩, .float .f64 0, .string ⟨#[]⟩, .slice none 0 0, .slice none 0 0, .bool false, .string ⟨#[]⟩, .int .u8 0, .pointer none, .pointer none]).alloc _).below hb (by simp; omega)
  clear ha hb
  obtain ⟨i34, hi34, hz0, hz1, hz2⟩ := info_parts info34
  have HI := Lib.hid (And.intro hi34 (And.intro hz0 (And.intro hz1 hz2)))
  clear hi34 hz0 hz1 hz2
  go_wp2_with (at_make; refine wpList_make_row _ rfl (.tmp 62) (.tmp 62) 143 rfl 34 i34 (.float .f64 0) Tryz.underlying143 HI.out.1 HI.out.2.1 HI.out.2.2.1 rfl .i64 .i64 n rfl rfl (by rw [HI.out.2.2.2]; omega) (by omega) ?_)
  refine abs_wp (fun w' => Blk w' w2.heap.size 34 (Fl64 (List.replicate n 0)) ∧ Below w2.heap.size w2 w') ⟨by show _ = _; rw [← made_fl]; exact heap_alloc_new _ _, (Below.refl _ _).alloc (Nat.le_refl _) _⟩ ?_
  rintro w3 ⟨hv3, hb3⟩
  obtain ⟨gr, hgr⟩ : ∃ gr, gr = w2.heap.size := ⟨_, rfl⟩
  rw [← hgr]
  rw [← hgr] at hv3 hb3
  have hgw : w.heap.size < gr := (by rw [hgr]; exact HR2.out.lt)
  have HV3 := Lib.hid hv3
  have HB3 := Lib.hid hb3
  have HGR := Lib.hid hgr
  clear hv3 hb3 hgr
  go_loopw [66] (fun i wr => ∃ (k : Nat) (vs : List Nat), k ≤ n ∧ i = .int .i64 k ∧ vs.length = n ∧ (∀ j, j < k → vs[j]? = some one1) ∧ Blk wr gr 34 (Fl64 vs) ∧ Below gr w2 wr) (fun i _ => n - (intOf i).toNat)
  case atStart => exact ⟨0, _, Nat.zero_le _, rfl, List.length_replicate, fun j hj => by omega, HV3.out, HB3.out⟩
  case round =>
    obtain ⟨k, vs, hk, rfl, hvl, hv, hbk, hbl⟩ := hrel
    have HV := Lib.hid hv
    have HBK := Lib.hid hbk
    have HBL := Lib.hid hbl
    have HVL := Lib.hid hvl
    clear hv hbk hbl hvl
    by_cases hlt : k < n
    · obtain ⟨old, ho⟩ := one_at HVL.out hlt
      have e1 := HBK.out.get k (Fl64.at_ ho)
      have e2 := HBK.out.free k
      clear ho
      go_wp2_with fail
      refine ⟨⟨k + 1, vs.set k one1, by omega, by go_num, by rw [List.length_set]; exact HVL.out, fun j hj => ?_, ?_, HBL.out.setCell (Nat.le_refl gr) _⟩, by simp [intOf]; omega⟩
      · by_cases hjk : j = k
        · subst hjk; rw [List.getElem?_set_self (by rw [HVL.out]; exact hlt)]
        · rw [List.getElem?_set_ne (fun e => hjk e.symm)]; exact HV.out j (by omega)
      · have := HBK.out.set k (.float .f64 one1)
        rw [Fl64.set] at this
        exact this
    · have hkn : k = n := by omega
      have HV1 := Lib.hid (show ∀ j, j < n → vs[j]? = some one1 by intro j hj; exact HV.out j (by omega))
      clear HV hkn
      go_wp2_with fail
      have hne1 : (Value.slice (some ⟨ga, 0, none⟩) n ca).ownBlock ≠ some gr := (by
        intro e
        have := (HA.out.row.lt gr e).2
        rw [HGR.out] at this
        exact Nat.lt_irrefl _ this)
      have HN1 := Lib.hid hne1
      clear hne1
      have HWB : Hid (Below w.heap.size w wr) := HB2.out.trans ((HGR.out ▸ HBL.out).mono HB2.out.size)
      have HA1 := Lib.hid (HA.out.keep (HGR.out ▸ HBL.out))
      have HR3 := Lib.hid (HR2.out.below (HGR.out ▸ HBL.out) HR2.out.lt)
      rename World => wA
      go_loopw [80] (fun i wr => ∃ (k : Nat) (vs : List Nat), k ≤ n ∧ i = .int .i64 k ∧ vs.length = n ∧ (∀ j, j < k → vs[j]? = some (fx (xs.getD j 0) 0)) ∧ (∀ j, k ≤ j → j < n → vs[j]? = some (one1)) ∧ Blk wr gr 34 (Fl64 vs) ∧ PushKept' gr wA wr ∧ Below w.heap.size w wr) (fun i _ => n - (intOf i).toNat)
      case atStart => exact ⟨0, vs, Nat.zero_le _, rfl, HVL.out, fun j hj => by omega, fun j _ hj => HV1.out j hj, HBK.out, ⟨Nat.le_refl _, fun _ _ _ => rfl⟩, HWB.out⟩
      case round =>
        obtain ⟨k, vs, hk, rfl, hvl, hva, hvb, hbk, hpk, hbl⟩ := hrel
        have HVA := Lib.hid hva
        have HVB := Lib.hid hvb
        have HBK := Lib.hid hbk
        have HPK := Lib.hid hpk
        have HBL := Lib.hid hbl
        have HVL := Lib.hid hvl
        by_cases hlt : k < n
        · obtain ⟨x, hx⟩ := one_at HX.out hlt
          have hxr := HOX.out x (List.mem_of_getElem? hx)
          obtain ⟨bx, hbx⟩ : ∃ b, b = fx x 0 := ⟨_, rfl⟩
          have HGX : Hid (Good bx) := (by show Good bx; rw [hbx]; exact good_fx (by omega))
          have hax : ((xs.map iA).map Atom.facells)[k]? = some [.string ⟨#[]⟩, .float .f64 bx, .string ⟨#[]⟩, .slice none 0 0, .slice none 0 0, .bool false, .string ⟨#[]⟩, .int .u8 1, .pointer none, .pointer none] := (by rw [List.getElem?_map, List.getElem?_map, hx, hbx]; rfl)
          have hk2 := HA1.out.pk hpk HN1.out
          have c0 := hk2.cell0 hax (u := .string ⟨#[]⟩) rfl
          have c1 := hk2.cell hax (j := 1) (u := .float .f64 bx) rfl
          have c2 := hk2.cell hax (j := 2) (u := .string ⟨#[]⟩) rfl
          have c3 := hk2.cell hax (j := 3) (u := .slice none 0 0) rfl
          have c4 := hk2.cell hax (j := 4) (u := .slice none 0 0) rfl
          have c5 := hk2.cell hax (j := 5) (u := .bool false) rfl
          have c6 := hk2.cell hax (j := 6) (u := .string ⟨#[]⟩) rfl
          have c7 := hk2.cell hax (j := 7) (u := .int .u8 1) rfl
          have c8 := hk2.cell hax (j := 8) (u := .pointer none) rfl
          have c9 := hk2.cell hax (j := 9) (u := .pointer none) rfl
          obtain ⟨bf, hbf⟩ : ∃ b, b = one1 := ⟨_, rfl⟩
          obtain ⟨bg, hbg⟩ : ∃ b, b = fx (xs.getD k 0) 0 := ⟨_, rfl⟩
          have hmul : ∀ w', (binOp .mul 34 (.float .f64 bf) (.float .f64 bx)).run Tryz.prog w' = .ok (.float .f64 bg) w' := (by
            rw [hbf, hbg, hbx]
            have : x = xs.getD k 0 := by rw [List.getD_eq_getElem?_getD, hx]; rfl
            rw [← this]
            have h1 : one1 = fx (1 : Int) 0 := one_fx
            rw [h1]
            exact mul_ints (a := 1) (b := x) (c := x) (by decide) (by omega) (.inl ⟨by decide, hxr.2.2⟩) (Int.one_mul x).symm)
          have HBG := Lib.hid hbg
          have HVK := Lib.hid (show vs[k]? = some bf by rw [hbf]; exact hvb k (Nat.le_refl _) hlt)
          clear hva hvb hbk hpk hbl hvl hx hxr hbx hax hk2 hbf hbg
          go_wp2_with fail
          refine (toNum_lit bx HGX.out _).mono ?_
          rintro e w5 ⟨rfl, hb5⟩
          have HB5 : Hid (Below wr.heap.size wr w5) := Below.trans (by go_grown) (hb5.mono (by simp))
          have hr := HBK.out.lt
          have HBK5 := Lib.hid (HBK.out.below HB5.out hr)
          have e1 := HBK5.out.get k (Fl64.at_ HVK.out)
          have e2 := HBK5.out.free k
          have hg5 := HBK5.out.lt
          clear hb5 c0 c1 c2 c3 c4 c5 c6 c7 c8 c9
          go_wp2_with fail
          go_region
          go_wp2_with fail
          refine ⟨⟨k + 1, vs.set k bg, by omega, by go_num, by rw [List.length_set]; exact HVL.out, fun j hj => ?_, fun j hj1 hj2 => ?_, ?_, ?_, ?_⟩, by simp [intOf]; omega⟩
          · by_cases hjk : j = k
            · subst hjk; rw [List.getElem?_set_self (by rw [HVL.out]; exact hlt), HBG.out]
            · rw [List.getElem?_set_ne (fun e => hjk e.symm)]; exact HVA.out j (by omega)
          · rw [List.getElem?_set_ne (by omega)]; exact HVB.out j (by omega) hj2
          · have := (HBK5.out.set k (.float .f64 bg)).alloc (.cells #[.string ⟨#[]⟩, .float .f64 bx, .string ⟨#[]⟩, .slice none 0 0, .slice none 0 0, .bool false, .string ⟨#[]⟩, .int .u8 1, .pointer none, .pointer none] 84)
            rw [Fl64.set] at this
            exact this
          · exact HPK.out.trans ((PushKept'.of_below HB5.out).trans (PushKept'.setAlloc _ _ _ _ _))
          · have hw1 := HBL.out.trans (HB5.out.mono HBL.out.size)
            have hw2 := (hw1.setCell (show w.heap.size ≤ (⟨gr, k, none⟩ : Addr).block from Nat.le_of_lt hgw) (.float .f64 bg)).alloc (by simpa using hw1.size) (.cells #[.string ⟨#[]⟩, .float .f64 bx, .string ⟨#[]⟩, .slice none 0 0, .slice none 0 0, .bool false, .string ⟨#[]⟩, .int .u8 1, .pointer none, .pointer none] 84)
            exact ⟨hw2.os, hw2.tape, hw2.output, hw2.size, hw2.block⟩
        · have hkn : k = n := by omega
          have HV2 := Lib.hid (show ∀ j, j < n → vs[j]? = some (fx (xs.getD j 0) 0) by intro j hj; exact HVA.out j (by omega))
          clear hva hvb hbk hpk hbl hvl HVA HVB hkn
          have q1 : wr.cell? ⟨b1, 3, none⟩ = _ := (HBL.out.cell (p := ⟨b1, 3, none⟩) l1).trans c1
          have l1' : b1 < wr.heap.size := Nat.lt_of_lt_of_le l1 HBL.out.size
          have m1' := lt_k l1'
          have hgr' := HBK.out.lt
          have HRa := Lib.hid (HPK.out.blk HR3.out (Nat.ne_of_lt hgw))
          clear c0 c1
          go_wp2_with (go_at_call 113; refine (next_at _ _ _ _ _ (HIL.out.keep HBL.out) 0 b0 b1 rfl rfl).mono ?_; rintro e w4 ⟨rfl, rfl⟩)
          rw [rounds_succ]
          go_wp2_with fail
          refine (toList_mat (ys.map iA) HYL.out HYN.out _ p2 q2 _ ((HU.out.keep HBL.out).keep (by go_grown))).mono ?_
          rintro e w7 ⟨v7, rfl, ha7, hb7⟩
          obtain ⟨gb, cb, rfl⟩ : ∃ ga ca, v7 = .slice (some ⟨ga, 0, none⟩) n ca := (by
            rcases ha7.shape with ⟨_, h⟩ | ⟨g, c, h, _⟩
            · exact absurd (List.map_eq_nil_iff.1 h) HYN.out
            · exact ⟨g, c, by rw [h, List.length_map, List.length_map, HY.out]⟩)
          have hB7 : Below wr.heap.size wr w7 := Below.trans (by go_grown) (hb7.mono (by simp))
          have HA7 := Lib.hid ha7
          have HWB7 : Hid (Below w.heap.size w w7) := HBL.out.trans (hB7.mono HBL.out.size)
          have HR7 := Lib.hid (HRa.out.below hB7 HRa.out.lt)
          have HBK7 := Lib.hid (HBK.out.below hB7 HBK.out.lt)
          have HN7 : Hid ((Value.slice (some ⟨gb, 0, none⟩) n cb).ownBlock ≠ some gr) := Lib.hid (by
            intro e
            have := (ha7.row.lt gr e).1
            simp at this
            omega)
          clear q1 ha7 hb7 hB7 m1' l1' hgr'
          go_wp2_with fail
          rename World => wB
          have HVP := HV2
          have HVLP := HVL
          go_loopw [80] (fun i wr => ∃ (k : Nat) (vs : List Nat), k ≤ n ∧ i = .int .i64 k ∧ vs.length = n ∧ (∀ j, j < k → vs[j]? = some (fx (fT (xs.getD j 0) (ys.getD j 0)) 0)) ∧ (∀ j, k ≤ j → j < n → vs[j]? = some (fx (xs.getD j 0) 0)) ∧ Blk wr gr 34 (Fl64 vs) ∧ PushKept' gr wB wr ∧ Below w.heap.size w wr) (fun i _ => n - (intOf i).toNat)
          case atStart => exact ⟨0, vs, Nat.zero_le _, rfl, HVL.out, fun j hj => by omega, fun j _ hj => HVP.out j hj, HBK7.out, ⟨Nat.le_refl _, fun _ _ _ => rfl⟩, HWB7.out⟩
          case round =>
            obtain ⟨k, vs, hk, rfl, hvl, hva, hvb, hbk, hpk, hbl⟩ := hrel
            have HVA := Lib.hid hva
            have HVB := Lib.hid hvb
            have HBK := Lib.hid hbk
            have HPK := Lib.hid hpk
            have HBL := Lib.hid hbl
            have HVL := Lib.hid hvl
            by_cases hlt : k < n
            · obtain ⟨x, hx⟩ := one_at HY.out hlt
              have hxr := HOY.out x (List.mem_of_getElem? hx)
              obtain ⟨bx, hbx⟩ : ∃ b, b = fx x 0 := ⟨_, rfl⟩
              have HGX : Hid (Good bx) := (by show Good bx; rw [hbx]; exact good_fx (by omega))
              have hax : ((ys.map iA).map Atom.facells)[k]? = some [.string ⟨#[]⟩, .float .f64 bx, .string ⟨#[]⟩, .slice none 0 0, .slice none 0 0, .bool false, .string ⟨#[]⟩, .int .u8 1, .pointer none, .pointer none] := (by rw [List.getElem?_map, List.getElem?_map, hx, hbx]; rfl)
              have hk2 := HA7.out.pk hpk HN7.out
              have c0 := hk2.cell0 hax (u := .string ⟨#[]⟩) rfl
              have c1 := hk2.cell hax (j := 1) (u := .float .f64 bx) rfl
              have c2 := hk2.cell hax (j := 2) (u := .string ⟨#[]⟩) rfl
              have c3 := hk2.cell hax (j := 3) (u := .slice none 0 0) rfl
              have c4 := hk2.cell hax (j := 4) (u := .slice none 0 0) rfl
              have c5 := hk2.cell hax (j := 5) (u := .bool false) rfl
              have c6 := hk2.cell hax (j := 6) (u := .string ⟨#[]⟩) rfl
              have c7 := hk2.cell hax (j := 7) (u := .int .u8 1) rfl
              have c8 := hk2.cell hax (j := 8) (u := .pointer none) rfl
              have c9 := hk2.cell hax (j := 9) (u := .pointer none) rfl
              obtain ⟨bf, hbf⟩ : ∃ b, b = fx (xs.getD k 0) 0 := ⟨_, rfl⟩
              obtain ⟨bg, hbg⟩ : ∃ b, b = fx (fT (xs.getD k 0) (ys.getD k 0)) 0 := ⟨_, rfl⟩
              have hmul : ∀ w', (binOp .mul 34 (.float .f64 bf) (.float .f64 bx)).run Tryz.prog w' = .ok (.float .f64 bg) w' := (by
                rw [hbf, hbg, hbx]
                have hyk : x = ys.getD k 0 := by rw [List.getD_eq_getElem?_getD, hx]; rfl
                obtain ⟨z, hz⟩ := one_at HX.out hlt
                have hzk : z = xs.getD k 0 := by rw [List.getD_eq_getElem?_getD, hz]; rfl
                have hzr := HOX.out z (List.mem_of_getElem? hz)
                rw [← hyk, ← hzk]
                exact mul_ints (a := z) (b := x) (c := fT z x) (by omega) (by omega) (.inl ⟨hzr.2.2, hxr.2.2⟩) rfl)
              have HBG := Lib.hid hbg
              have HVK := Lib.hid (show vs[k]? = some bf by rw [hbf]; exact hvb k (Nat.le_refl _) hlt)
              clear hva hvb hbk hpk hbl hvl hx hxr hbx hax hk2 hbf hbg
              go_wp2_with fail
              refine (toNum_lit bx HGX.out _).mono ?_
              rintro e w5 ⟨rfl, hb5⟩
              have HB5 : Hid (Below wr.heap.size wr w5) := Below.trans (by go_grown) (hb5.mono (by simp))
              have hr := HBK.out.lt
              have HBK5 := Lib.hid (HBK.out.below HB5.out hr)
              have e1 := HBK5.out.get k (Fl64.at_ HVK.out)
              have e2 := HBK5.out.free k
              have hg5 := HBK5.out.lt
              clear hb5 c0 c1 c2 c3 c4 c5 c6 c7 c8 c9
              go_wp2_with fail
              go_region
              go_wp2_with fail
              refine ⟨⟨k + 1, vs.set k bg, by omega, by go_num, by rw [List.length_set]; exact HVL.out, fun j hj => ?_, fun j hj1 hj2 => ?_, ?_, ?_, ?_⟩, by simp [intOf]; omega⟩
              · by_cases hjk : j = k
                · subst hjk; rw [List.getElem?_set_self (by rw [HVL.out]; exact hlt), HBG.out]
                · rw [List.getElem?_set_ne (fun e => hjk e.symm)]; exact HVA.out j (by omega)
              · rw [List.getElem?_set_ne (by omega)]; exact HVB.out j (by omega) hj2
              · have := (HBK5.out.set k (.float .f64 bg)).alloc (.cells #[.string ⟨#[]⟩, .float .f64 bx, .string ⟨#[]⟩, .slice none 0 0, .slice none 0 0, .bool false, .string ⟨#[]⟩, .int .u8 1, .pointer none, .pointer none] 84)
                rw [Fl64.set] at this
                exact this
              · exact HPK.out.trans ((PushKept'.of_below HB5.out).trans (PushKept'.setAlloc _ _ _ _ _))
              · have hw1 := HBL.out.trans (HB5.out.mono HBL.out.size)
                have hw2 := (hw1.setCell (show w.heap.size ≤ (⟨gr, k, none⟩ : Addr).block from Nat.le_of_lt hgw) (.float .f64 bg)).alloc (by simpa using hw1.size) (.cells #[.string ⟨#[]⟩, .float .f64 bx, .string ⟨#[]⟩, .slice none 0 0, .slice none 0 0, .bool false, .string ⟨#[]⟩, .int .u8 1, .pointer none, .pointer none] 84)
                exact ⟨hw2.os, hw2.tape, hw2.output, hw2.size, hw2.block⟩
            · have hkn : k = n := by omega
              have HV2 := Lib.hid (show ∀ j, j < n → vs[j]? = some (fx (fT (xs.getD j 0) (ys.getD j 0)) 0) by intro j hj; exact HVA.out j (by omega))
              clear hva hvb hbk hpk hbl hvl HVA HVB hkn
              have HRb := Lib.hid (HPK.out.blk HR7.out (Nat.ne_of_lt hgw))
              have hgr' := HBK.out.lt
              go_wp2_with (go_at_call 113; refine (next_last _ _ _ _ _ (HIL.out.keep HBL.out) 1 b1 rfl rfl).mono ?_; rintro e w4 ⟨rfl, rfl⟩)
              rw [rounds_succ]
              go_wp2_with fail
              rename World => wC
              go_loopw [8, 109] (fun a i wr => ∃ k : Nat, k ≤ n ∧ i = .int .i64 k ∧ a = .float .f64 (fx (tot fT (xs.take k) (ys.take k)) 0) ∧ wr = wC) (fun _ i _ => n - (intOf i).toNat)
              case atStart => exact ⟨0, Nat.zero_le _, rfl, congrArg _ (fx_zero 0).symm, rfl⟩
              case round =>
                obtain ⟨k, hk, rfl, rfl, rfl⟩ := hrel
                have hle := tot_le fT fT_le HOX.out HOY.out (by rw [HX.out]; exact hn) k
                by_cases hlt : k < n
                · obtain ⟨x, hx⟩ := one_at HX.out hlt
                  obtain ⟨y, hy⟩ := one_at HY.out hlt
                  have hxr := HOX.out x (List.mem_of_getElem? hx)
                  have hyr := HOY.out y (List.mem_of_getElem? hy)
                  have htot := tot_snoc fT hx hy
                  have hfl := fT_le x y (by omega) (by omega)
                  have hxd : xs.getD k 0 = x := by rw [List.getD_eq_getElem?_getD, hx]; rfl
                  have hyd : ys.getD k 0 = y := by rw [List.getD_eq_getElem?_getD, hy]; rfl
                  have hv := HV2.out k hlt
                  rw [hxd, hyd] at hv
                  have hadd := add_tot (a := tot fT (xs.take k) (ys.take k)) (b := fT x y) (c := tot fT (xs.take (k + 1)) (ys.take (k + 1))) (by omega) (by omega) htot
                  obtain ⟨bs1, hbs1⟩ : ∃ b, b = fx (tot fT (xs.take k) (ys.take k)) 0 := ⟨_, rfl⟩
                  obtain ⟨bs2, hbs2⟩ : ∃ b, b = fx (tot fT (xs.take (k + 1)) (ys.take (k + 1))) 0 := ⟨_, rfl⟩
                  obtain ⟨bz, hbz⟩ : ∃ b, b = fx (fT x y) 0 := ⟨_, rfl⟩
                  rw [← hbs1, ← hbs2, ← hbz] at hadd
                  rw [← hbz] at hv
                  rw [← hbs1]
                  have e1 := HBK.out.get k (Fl64.at_ hv)
                  have HBS := Lib.hid hbs2
                  clear hx hy hxr hyr htot hfl hxd hyd hv hbs1 hbs2 hbz hle
                  go_wp2_with fail
                  exact ⟨⟨k + 1, by omega, by go_num, by rw [HBS.out], by first | rfl | trivial⟩, by simp [intOf]; omega⟩
                · have hkn : k = n := by omega
                  have HHK := Lib.hid (show fx (tot fT (xs.take k) (ys.take k)) 0 = fx (tot fT xs ys) 0 by rw [hkn]; conv => lhs; rw [← HX.out, List.take_length, HX.out, ← HY.out, List.take_length])
                  obtain ⟨S, hS⟩ : ∃ b, b = fx (tot fT (xs.take k) (ys.take k)) 0 := ⟨_, rfl⟩
                  have HGD : Hid (Good S) := (by show Good S; rw [hS]; exact good_fx (by omega))
                  rw [← hS] at HHK ⊢
                  clear hS hle hkn
                  have hkn2 : ¬ ((k : Int) < (n : Int)) := (by omega)
                  go_wp2_with fail
                  refine (newNum_any S _ HGD.out).mono ?_
                  rintro e w6 ⟨rfl, hb6⟩
                  have HB6 : Hid (Below w.heap.size w w6) := HBL.out.trans (hb6.mono HBL.out.size)
                  have HR6 := Lib.hid (HRb.out.below hb6 HRb.out.lt)
                  clear hb6
                  go_wp2_with (refine store_res rfl (.tmp 4) (.tmp 118) rfl w.heap.size [.string ⟨#[]⟩, .float .f64 0, .string ⟨#[]⟩, .slice none 0 0, .slice none 0 0, .bool false, .string ⟨#[]⟩, .int .u8 0, .pointer none, .pointer none] (.num S) rfl rfl HR6.out rfl w.heap.size (Nat.le_refl _) ?_; intro w7 hr7 hb7)
                  exact bodyPost_ret (ret_res rfl _ _ w.heap.size (.num S) rfl hr7) rfl ⟨_, rfl, by rw [HHK.out], HB6.out.trans hb7⟩
set_option maxRecDepth 20000 in
set_option maxHeartbeats 4000000 in
theorem sprod_gives (xs ys : List Int) (n : Nat) (hx : xs.length = n) (hy : ys.length = n) (h0 : 0 < n) (hn : n ≤ 50) (okx : SmallInts xs) (oky : SmallInts ys) : MethodTabs Vars 86 [xs.map iA, ys.map iA] (fun r => r = .num (fx (tot fT xs ys) 0)) := by
  intro F B L bs fs w _ hil hl hm
  obtain ⟨b0, b1, rg, rc, p, q, sg, sc, p2, q2, rfl, hil, ht, hu⟩ := two_tabs (n := n) (by rw [List.length_map, hx]) (by rw [List.length_map, hy]) h0 hil hl hm
  obtain ⟨S, hS⟩ : ∃ b, b = fx (tot fT xs ys) 0 := ⟨_, rfl⟩
  obtain ⟨c0, l0⟩ := hil.at3 0 rfl rfl
  obtain ⟨c1, l1⟩ := hil.at3 1 rfl rfl
  have m0 := lt_k l0
  have m1 := lt_k l1
  have HC : Hid (∀ w1, Below w.heap.size w w1 → Calls Tryz.prog 114 #[F, .pointer (some ⟨L, 0, none⟩)] w1 (Gives (fun r => r = .num S) w1)) := Lib.hid (fun w1 hb => by
    rw [hS]; exact sprod_any xs ys n hx hy h0 hn okx oky F B L b0 b1 rg rc sg sc p q p2 q2 w1 (hil.keep hb) (ht.keep hb) (hu.keep hb))
  have HIL := Lib.hid hil
  rw [← hS]
  clear hil ht hu hl hm hx hy okx oky hS
  go_enter Tryz.func86, Tryz.ntmps86
  go_wp2_with (first | (go_at_call 110; refine (len2 _ _ _ _ _ _ _ (HIL.out.keep (by go_grown))).mono ?_; rintro e w2 ⟨rfl, rfl⟩) | (go_at_call 112; refine (front_any _ _ _ _ _ _ _ (HIL.out.keep (by go_grown))).mono ?_; rintro e w2 ⟨rfl, rfl⟩))
  refine wp_loop_rounds 3 ?_
  rw [rounds_succ]
  go_wp2_with (go_at_call 113; refine (next_at _ _ _ _ _ (HIL.out.keep (by go_grown)) 0 b0 b1 rfl rfl).mono ?_; rintro e w4 ⟨rfl, rfl⟩)
  rw [rounds_succ]
  go_wp2_with (go_at_call 113; refine (next_last _ _ _ _ _ (HIL.out.keep (by go_grown)) 1 b1 rfl rfl).mono ?_; rintro e w4 ⟨rfl, rfl⟩)
  rw [rounds_succ]
  go_wp2_with fail
  refine (HC.out _ (by go_grown)).mono ?_
  rintro e w2 ⟨r, rfl, rfl, hb⟩
  have HR := Lib.hid ((((Blk.new w 84 [.string ⟨#[]⟩, .float .f64 0, .string ⟨#[]⟩, .slice none 0 0, .slice none 0 0, .bool false, .string ⟨#[]⟩, .int .u8 0, .pointer none, .pointer none]).alloc _).alloc _).below hb (by simp; omega))
  have HB : Hid (Below w.heap.size w w2) := Below.trans (by go_grown) (hb.mono (by simp; omega))
  clear hb
  go_wp2_with (refine store_res rfl (.tmp 4) (.tmp 28) rfl w.heap.size [.string ⟨#[]⟩, .float .f64 0, .string ⟨#[]⟩, .slice none 0 0, .slice none 0 0, .bool false, .string ⟨#[]⟩, .int .u8 0, .pointer none, .pointer none] (.num S) rfl rfl HR.out rfl w.heap.size (Nat.le_refl _) ?_; intro w7 hr7 hb7)
  exact bodyPost_ret (ret_res rfl _ _ w.heap.size (.num S) rfl hr7) rfl ⟨_, rfl, rfl, HB.out.trans hb7⟩
end Go.Proofs.YtoebgbojpkflnaaGreatDoor
