/- Proof of FnSquaresJoined, a part: Go's shortest digits of a float: prescale and shortFloat, in the operations that they carry out. Conditions: the tables as listed; numbers within bounds. -/
import Derived.Test.YtoebgbojpkflnaaGreatDoorJPow
namespace Go.Proofs.YtoebgbojpkflnaaGreatDoor
open Go Go.RowKit
set_option maxRecDepth 20000
set_option maxHeartbeats 1000000 in
theorem prescale_any (e p lp : Int) (i : Nat) (x : Nat × Nat) (hx : Go.Pinned.pow10Rows[i]? = some x) (hp : p = (i : Int) - 348) (hi : i < 696) (e1 : -3000 ≤ e) (e2 : e ≤ 3000) (l1 : -3000 ≤ lp) (l2 : lp ≤ 3000) (g B : Nat) (a b c : Int) (w : World) (hB : B ≤ g) (ht : PowTab w) (hg : Blk w g 251 [.int .u64 a, .int .u64 b, .int .i64 c]) :
    Calls Tryz.prog 244 #[.pointer (some ⟨g, 0, none⟩), .int .i64 e, .int .i64 p, .int .i64 lp] w fun e' w' => e' = .returned (.tuple #[]) ∧ Blk w' g 251 [.int .u64 x.1, .int .u64 x.2, .int .i64 (-(e + lp + 3))] ∧ Below B w w' := by
  obtain ⟨h1, h2⟩ := ht.2 i x hx
  have f0 := hg.free 0
  have f1 := hg.free 1
  have f2 := hg.free 2
  have d0 := hg.get 0 rfl
  have d1 := hg.get 1 rfl
  have d2 := hg.get 2 rfl
  have HG : Hid (Blk w g 251 [.int .u64 a, .int .u64 b, .int .i64 c]) := hg
  subst hp
  clear hg ht hx
  go_enter Tryz.func244, Tryz.ntmps244
  go_wp2
  go_end0
  exact ⟨rfl, ((HG.out.set 0 _).set 1 _).set 2 _, (((Below.refl _ _).setCell hB _).setCell hB _).setCell hB _⟩
/-- The numbers of shortFloat's way for a short number, each by its own operation. -/
structure ShortOk (pow : Bool) (m : Nat) (e : Int) (mn mx : Nat) (p lp : Int) (i s : Nat) (x : Nat × Nat) (dmn dmx d : Int) : Prop where
  hpow : ((m : Int) == 9223372036854775808) = pow
  he : -1000 ≤ e ∧ e ≤ 0
  hp : -(if pow then ((e + 11) * 631305 - 261663) / 2097152 else (e + 11) * 78913 / 262144) = p
  hlp : p * 108853 / 32768 = lp
  hi : p = (i : Int) - 348 ∧ i < 696 ∧ -1000 ≤ p ∧ p ≤ 300
  hx : Go.Pinned.pow10Rows[i]? = some x
  hxs : x.1 < 18446744073709551616 ∧ x.2 < 18446744073709551616
  hs : -(e + lp + 3) = (s : Int) ∧ s ≤ 63
  hmn : IntKind.u64.wrap ((m : Int) - (if pow then 512 else 1024)) = (mn : Int) ∧ mn < 18446744073709551616
  hmx : IntKind.u64.wrap ((m : Int) + 1024) = (mx : Int) ∧ mx < 18446744073709551616
  hodd : bits .and .i64 (wrap64 ((m : Int) / 2048)) 1 = 0
  hdn : IntKind.u64.wrap (IntKind.u64.wrap (uscaleV mn x.1 x.2 s + 0) + 3) / 4 = dmn
  hdx : IntKind.u64.wrap (IntKind.u64.wrap (uscaleV mx x.1 x.2 s + 0) + 0) / 4 = dmx
  hd : dmx / 10 = d ∧ 0 ≤ dmx ∧ dmx < 18446744073709551616
  hge : dmn ≤ d * 10
theorem ret_du {a b : Int} {x : Value} (h : a = b) : Ending.returned (.tuple #[.int .u64 a, x]) = .returned (.tuple #[.int .u64 b, x]) := by rw [h]
set_option maxRecDepth 20000 in
set_option maxHeartbeats 2000000 in
theorem short_pow (m : Nat) (e : Int) (mn mx : Nat) (p lp : Int) (i s : Nat) (x : Nat × Nat) (dmn dmx d : Int) (h : ShortOk true m e mn mx p lp i s x dmn dmx d) (w : World) (ht : PowTab w) :
    Calls Tryz.prog 221 #[.int .u64 m, .int .i64 e] w fun e' w' => e' = .returned (.tuple #[.int .u64 d, .int .i64 (-(p - 1))]) ∧ Below w.heap.size w w' := by
  have hpow : ((m : Int) == 9223372036854775808) = true := h.hpow
  have e1 := h.he.1
  have e2 := h.he.2
  have H : Hid (ShortOk true m e mn mx p lp i s x dmn dmx d) := h
  have p1 := h.hi.2.2.1
  have p2 := h.hi.2.2.2
  have HT : Hid (PowTab w) := ht
  have hmn : IntKind.u64.wrap ((m : Int) - 512) = (mn : Int) := h.hmn.1
  have hmx := h.hmx.1
  have hodd := h.hodd
  clear h ht
  go_enter Tryz.func221, Tryz.ntmps221
  go_wp2_with fail
  refine (skewed_any (e + 11) (by omega) (by omega) _).mono ?_
  rintro e' w' ⟨rfl, rfl⟩
  go_wp2_with fail
  have HP : Hid (-(((e + 11) * 631305 - 261663) / 2097152) = p) := H.out.hp
  rw [HP.out]
  refine (log2_any p (by omega) (by omega) _).mono ?_
  rintro e' w' ⟨rfl, rfl⟩
  rw [H.out.hlp]
  go_wp2_with fail
  have l1 := H.out.hlp
  have s1 := H.out.hs
  refine (prescale_any e p lp i x H.out.hx H.out.hi.1 H.out.hi.2.1 (by omega) (by omega) (by omega) (by omega) w.heap.size w.heap.size 0 0 0 _ (Nat.le_refl _) (HT.out.below ((Below.refl _ _).alloc (Nat.le_refl _) _)) (Blk.new w 251 [.int .u64 0, .int .u64 0, .int .i64 0])).mono ?_
  rintro e' w1 ⟨rfl, hg1, hb1⟩
  rw [H.out.hs.1] at hg1
  have HG1 : Hid (Blk w1 w.heap.size 251 [.int .u64 x.1, .int .u64 x.2, .int .i64 s]) := hg1
  have HB1 : Hid (Below w.heap.size w w1) := ((Below.refl _ _).alloc (Nat.le_refl _) _).trans hb1
  clear hg1 hb1 l1 s1 hpow
  go_wp2_with fail
  refine (uscale_any mn x.1 x.2 s H.out.hmn.2 H.out.hxs.1 H.out.hxs.2 H.out.hs.2 w.heap.size w1 HG1.out).mono ?_
  rintro e' w2 ⟨rfl, n1, rfl⟩
  have HD1 := H.out.hdn
  obtain ⟨U1, hU1⟩ : ∃ U1, U1 = uscaleV mn x.1 x.2 s := ⟨_, rfl⟩
  rw [← hU1] at HD1 ⊢
  have HDN : Hid (IntKind.u64.wrap (IntKind.u64.wrap (U1 + 0) + 3) / 4 = dmn) := HD1
  clear HD1 hU1
  go_wp2_with fail
  refine (nudge_any U1 0 _).mono ?_
  rintro e' w' ⟨rfl, rfl⟩
  go_wp2_with fail
  refine (ceil_any _ _).mono ?_
  rintro e' w' ⟨rfl, rfl⟩
  rw [HDN.out]
  go_wp2_with fail
  refine (uscale_any mx x.1 x.2 s H.out.hmx.2 H.out.hxs.1 H.out.hxs.2 H.out.hs.2 w.heap.size (w1.drewN n1) (HG1.out.drewN n1)).mono ?_
  rintro e' w2 ⟨rfl, n2, rfl⟩
  have HD2 := H.out.hdx
  obtain ⟨U2, hU2⟩ : ∃ U2, U2 = uscaleV mx x.1 x.2 s := ⟨_, rfl⟩
  rw [← hU2] at HD2 ⊢
  have HDX : Hid (IntKind.u64.wrap (IntKind.u64.wrap (U2 + 0) + 0) / 4 = dmx) := HD2
  clear HD2 hU2
  go_wp2_with fail
  refine (nudge_any U2 0 _).mono ?_
  rintro e' w' ⟨rfl, rfl⟩
  go_wp2_with fail
  refine (floor_any _ _).mono ?_
  rintro e' w' ⟨rfl, rfl⟩
  rw [HDX.out]
  have dx1 := H.out.hd.2.1
  have dx2 := H.out.hd.2.2
  have d1 : 0 ≤ d := (by have := H.out.hd.1; omega)
  have d2 : d * 10 ≤ dmx := (by have := H.out.hd.1; omega)
  have d3 := H.out.hge
  have d4 : dmx / 10 = d := H.out.hd.1
  go_wp2_with fail
  go_ret2
  exact ⟨ret_du d4, by first | exact below_drewN' HB1.out _ | exact below_drewN' (below_drewN' HB1.out _) _⟩
set_option maxRecDepth 20000 in
set_option maxHeartbeats 2000000 in
theorem short_gen (m : Nat) (e : Int) (mn mx : Nat) (p lp : Int) (i s : Nat) (x : Nat × Nat) (dmn dmx d : Int) (h : ShortOk false m e mn mx p lp i s x dmn dmx d) (w : World) (ht : PowTab w) :
    Calls Tryz.prog 221 #[.int .u64 m, .int .i64 e] w fun e' w' => e' = .returned (.tuple #[.int .u64 d, .int .i64 (-(p - 1))]) ∧ Below w.heap.size w w' := by
  have hpow : ((m : Int) == 9223372036854775808) = false := h.hpow
  have e1 := h.he.1
  have e2 := h.he.2
  have H : Hid (ShortOk false m e mn mx p lp i s x dmn dmx d) := h
  have p1 := h.hi.2.2.1
  have p2 := h.hi.2.2.2
  have HT : Hid (PowTab w) := ht
  have hmn : IntKind.u64.wrap ((m : Int) - 1024) = (mn : Int) := h.hmn.1
  have hmx := h.hmx.1
  have hodd := h.hodd
  clear h ht
  go_enter Tryz.func221, Tryz.ntmps221
  go_wp2_with fail
  refine (log10_any (e + 11) (by omega) (by omega) _).mono ?_
  rintro e' w' ⟨rfl, rfl⟩
  go_wp2_with fail
  have HP : Hid (-((e + 11) * 78913 / 262144) = p) := H.out.hp
  rw [HP.out]
  refine (log2_any p (by omega) (by omega) _).mono ?_
  rintro e' w' ⟨rfl, rfl⟩
  rw [H.out.hlp]
  go_wp2_with fail
  have l1 := H.out.hlp
  have s1 := H.out.hs
  refine (prescale_any e p lp i x H.out.hx H.out.hi.1 H.out.hi.2.1 (by omega) (by omega) (by omega) (by omega) w.heap.size w.heap.size 0 0 0 _ (Nat.le_refl _) (HT.out.below ((Below.refl _ _).alloc (Nat.le_refl _) _)) (Blk.new w 251 [.int .u64 0, .int .u64 0, .int .i64 0])).mono ?_
  rintro e' w1 ⟨rfl, hg1, hb1⟩
  rw [H.out.hs.1] at hg1
  have HG1 : Hid (Blk w1 w.heap.size 251 [.int .u64 x.1, .int .u64 x.2, .int .i64 s]) := hg1
  have HB1 : Hid (Below w.heap.size w w1) := ((Below.refl _ _).alloc (Nat.le_refl _) _).trans hb1
  clear hg1 hb1 l1 s1 hpow
  go_wp2_with fail
  refine (uscale_any mn x.1 x.2 s H.out.hmn.2 H.out.hxs.1 H.out.hxs.2 H.out.hs.2 w.heap.size w1 HG1.out).mono ?_
  rintro e' w2 ⟨rfl, n1, rfl⟩
  have HD1 := H.out.hdn
  obtain ⟨U1, hU1⟩ : ∃ U1, U1 = uscaleV mn x.1 x.2 s := ⟨_, rfl⟩
  rw [← hU1] at HD1 ⊢
  have HDN : Hid (IntKind.u64.wrap (IntKind.u64.wrap (U1 + 0) + 3) / 4 = dmn) := HD1
  clear HD1 hU1
  go_wp2_with fail
  refine (nudge_any U1 0 _).mono ?_
  rintro e' w' ⟨rfl, rfl⟩
  go_wp2_with fail
  refine (ceil_any _ _).mono ?_
  rintro e' w' ⟨rfl, rfl⟩
  rw [HDN.out]
  go_wp2_with fail
  refine (uscale_any mx x.1 x.2 s H.out.hmx.2 H.out.hxs.1 H.out.hxs.2 H.out.hs.2 w.heap.size (w1.drewN n1) (HG1.out.drewN n1)).mono ?_
  rintro e' w2 ⟨rfl, n2, rfl⟩
  have HD2 := H.out.hdx
  obtain ⟨U2, hU2⟩ : ∃ U2, U2 = uscaleV mx x.1 x.2 s := ⟨_, rfl⟩
  rw [← hU2] at HD2 ⊢
  have HDX : Hid (IntKind.u64.wrap (IntKind.u64.wrap (U2 + 0) + 0) / 4 = dmx) := HD2
  clear HD2 hU2
  go_wp2_with fail
  refine (nudge_any U2 0 _).mono ?_
  rintro e' w' ⟨rfl, rfl⟩
  go_wp2_with fail
  refine (floor_any _ _).mono ?_
  rintro e' w' ⟨rfl, rfl⟩
  rw [HDX.out]
  have dx1 := H.out.hd.2.1
  have dx2 := H.out.hd.2.2
  have d1 : 0 ≤ d := (by have := H.out.hd.1; omega)
  have d2 : d * 10 ≤ dmx := (by have := H.out.hd.1; omega)
  have d3 := H.out.hge
  have d4 : dmx / 10 = d := H.out.hd.1
  go_wp2_with fail
  go_ret2
  exact ⟨ret_du d4, by first | exact below_drewN' HB1.out _ | exact below_drewN' (below_drewN' HB1.out _) _⟩
theorem short_any {pow : Bool} {m : Nat} {e : Int} {mn mx : Nat} {p lp : Int} {i s : Nat} {x : Nat × Nat} {dmn dmx d : Int} (h : ShortOk pow m e mn mx p lp i s x dmn dmx d) (w : World) (ht : PowTab w) :
    Calls Tryz.prog 221 #[.int .u64 m, .int .i64 e] w fun e' w' => e' = .returned (.tuple #[.int .u64 d, .int .i64 (-(p - 1))]) ∧ Below w.heap.size w w' := by
  cases pow
  · exact short_gen m e mn mx p lp i s x dmn dmx d h w ht
  · exact short_pow m e mn mx p lp i s x dmn dmx d h w ht
end Go.Proofs.YtoebgbojpkflnaaGreatDoor
