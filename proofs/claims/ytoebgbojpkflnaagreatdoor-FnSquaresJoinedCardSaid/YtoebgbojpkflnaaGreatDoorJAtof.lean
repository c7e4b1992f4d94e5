/- Proof of FnSquaresJoined, a part: strconv.ParseFloat: what stands around readFloat. Condition: two of its package's variables as the row lists them. -/
import Derived.Test.YtoebgbojpkflnaaGreatDoorJFmtAll
import Derived.Test.YtoebgbojpkflnaaGreatDoorJParse
namespace Go.Proofs.YtoebgbojpkflnaaGreatDoor
open Go Go.RowKit
set_option maxRecDepth 20000 in
set_option maxHeartbeats 4000000 in
theorem prefix_none (S : ByteArray) (h0 : 0 < S.size) (h9 : S.size ≤ 3) (hd : 48 ≤ S[0].toNat ∧ S[0].toNat ≤ 57) (w : World) :
    Calls Tryz.prog 261 #[.string S, .string ⟨#[105, 110, 102, 105, 110, 105, 116, 121]⟩] w fun e w' => e = .returned (.int .i64 0) ∧ w = w' := by
  have h1 := hd.1
  have h2 := hd.2
  have hm : (min 8 (S.size : Int)) = (S.size : Int) := by omega
  have hc : ((S[0].toNat : Int) != (((⟨#[105, 110, 102, 105, 110, 105, 116, 121]⟩ : ByteArray)[0]'(by decide)).toNat : Int)) = true := by
    show ((S[0].toNat : Int) != 105) = true
    rw [bne_iff_ne]; omega
  have hp : (0 : Int) < (S.size : Int) := by omega
  have ha : decide ((65 : Int) ≤ (S[0].toNat : Int)) = false := by rw [decide_eq_false_iff_not]; omega
  clear hd h1 h2
  go_enter Tryz.func261, Tryz.ntmps261
  go_wp2_with fail
  refine wp_loop_rounds 1 ?_
  rw [rounds_succ]
  go_wp2_with fail
  go_ret
  exact ⟨rfl, rfl⟩
set_option maxRecDepth 20000 in
set_option maxHeartbeats 4000000 in
theorem special_pos (S : ByteArray) (h : SgS S 0) (w : World) :
    Calls Tryz.prog 223 #[.string S] w fun e w' => e = .returned (.tuple #[.float .f64 0, .int .i64 0, .bool false]) ∧ w = w' := by
  have z1 := h.len.1
  have z2 := h.len.2
  have hb := h.dig 0 z1 (Nat.le_refl _)
  have hne : ¬ S = ByteArray.empty := (by rintro rfl; simp at z1)
  have e0 : ((S[0].toNat : Int) == 43) = false := (by rw [beq_eq_false_iff_ne]; omega)
  have e1 : ((S[0].toNat : Int) == 45) = false := (by rw [beq_eq_false_iff_ne]; omega)
  have e2 : ((S[0].toNat : Int) == 105) = false := (by rw [beq_eq_false_iff_ne]; omega)
  have e3 : ((S[0].toNat : Int) == 73) = false := (by rw [beq_eq_false_iff_ne]; omega)
  have e4 : ((S[0].toNat : Int) == 110) = false := (by rw [beq_eq_false_iff_ne]; omega)
  have e5 : ((S[0].toNat : Int) == 78) = false := (by rw [beq_eq_false_iff_ne]; omega)
  clear hb h
  go_enter Tryz.func223, Tryz.ntmps223
  go_wp2_with fail
  go_returns
  exact ⟨rfl, rfl⟩
set_option maxRecDepth 20000 in
set_option maxHeartbeats 4000000 in
theorem special_neg (S : ByteArray) (h : SgS S 1) (w : World) :
    Calls Tryz.prog 223 #[.string S] w fun e w' => e = .returned (.tuple #[.float .f64 0, .int .i64 0, .bool false]) ∧ w = w' := by
  have z1 := h.len.1
  have z2 := h.len.2
  have h0 : 0 < S.size := by omega
  have hne : ¬ S = ByteArray.empty := (by rintro rfl; simp at z1)
  have hs := h.sign h0 rfl
  have hsn : (S[0].toNat : Int) = 45 := by rw [hs]; rfl
  have e0 : ((S[0].toNat : Int) == 43) = false := (by rw [hsn]; rfl)
  have e1 : ((S[0].toNat : Int) == 45) = true := (by rw [hsn]; rfl)
  have H := Lib.hid h
  obtain ⟨hx1, hx2, hx3⟩ : 0 < (S.extract 1 S.size).size ∧ (S.extract 1 S.size).size ≤ 3 ∧ ∀ h : 0 < (S.extract 1 S.size).size, (S.extract 1 S.size)[0]'h = S[1]'z1 := (by
    have e : (S.extract 1 S.size).size = S.size - 1 := by simp
    exact ⟨by omega, by omega, fun h => by simp [ByteArray.getElem_extract]⟩)
  have HP := Lib.hid (prefix_none (S.extract 1 S.size) hx1 hx2 (by rw [hx3 hx1]; exact h.dig 1 z1 (Nat.le_refl _)) w)
  clear hs hsn h hx1 hx2 hx3
  go_enter Tryz.func223, Tryz.ntmps223
  go_wp2_with fail
  refine HP.out.mono ?_
  rintro e w' ⟨rfl, rfl⟩
  go_wp2_with fail
  go_returns
  exact ⟨rfl, rfl⟩
/-- What ParseFloat reads of its package's variables: optimize is true, and float64info's first field is 52. -/
structure OptAt (w : World) : Prop where
  lt : 8 < w.heap.size
  opt : w.cell? ⟨6, 0, none⟩ = some (.bool true)
  bits : w.cell? ⟨8, 0, none⟩ = some (.int .u64 52)
theorem OptAt.below {w w' : World} (h : OptAt w) (hb : Below w.heap.size w w') : OptAt w' :=
  ⟨Nat.lt_of_lt_of_le h.lt hb.size, (hb.cell (p := ⟨6, 0, none⟩) (by have := h.lt; show 6 < _; omega)).trans h.opt, (hb.cell (p := ⟨8, 0, none⟩) h.lt).trans h.bits⟩
theorem neg_all : upTo (fun n => Op.negFloat .f64 (fx ((n + 1 : Nat) : Int) 0) == fx (-((n + 1 : Nat) : Int)) 0) 999 = true := by decide +kernel
theorem neg_fx {m : Nat} (h0 : 0 < m) (h : m < 1000) : Op.negFloat .f64 (fx (m : Int) 0) = fx (-(m : Int)) 0 := by
  have := upTo_get neg_all (m - 1) (by omega)
  rw [show m - 1 + 1 = m by omega] at this
  simpa using this
theorem run_neg {m : Nat} (h0 : 0 < m) (h : m < 1000) (w' : World) : (Op.unary .neg (.float .f64 (fx (m : Int) 0))).run Tryz.prog w' = .ok (.float .f64 (fx (-(m : Int)) 0)) w' := by
  rw [← neg_fx h0 h]; rfl
theorem bool2_any (b : Bool) (w : World) : Calls Tryz.prog 232 #[.bool b] w fun e w' => e = .returned (.int .u64 (if b then 1 else 0)) ∧ w = w' := by
  cases b
  all_goals
    go_enter Tryz.func232, Tryz.ntmps232
    go_wp2
    go_ret
    exact ⟨rfl, rfl⟩
set_option maxRecDepth 20000 in
set_option maxHeartbeats 4000000 in
theorem exact_any (m : Nat) (h : m < 1000) (b : Bool) (x y : Nat) (hy : ∀ w', (Op.unary .neg (.float .f64 x)).run Tryz.prog w' = .ok (.float .f64 y) w') (hx : ∀ w', (convert 170 34 (.int .u64 m)).run Tryz.prog w' = .ok (.float .f64 x) w') (w : World) (ho : OptAt w) :
    Calls Tryz.prog 234 #[.int .u64 m, .int .i64 0, .bool b] w fun e w' => e = .returned (.tuple #[.float .f64 (if b then y else x), .bool true]) ∧ w = w' := by
  have c1 := ho.bits
  clear ho
  have hs : ((m : Int) / 4503599627370496 != 0) = false := (by
    have : (m : Int) / 4503599627370496 = 0 := by omega
    rw [this]; rfl)
  cases b
  all_goals
    go_enter Tryz.func234, Tryz.ntmps234
    go_wp2_with fail
    go_returns
    exact ⟨rfl, rfl⟩
theorem special_any (S : ByteArray) (o : Nat) (h : SgS S o) (w : World) :
    Calls Tryz.prog 223 #[.string S] w fun e w' => e = .returned (.tuple #[.float .f64 0, .int .i64 0, .bool false]) ∧ w = w' := by
  have zo := h.o1
  rcases Nat.eq_zero_or_pos o with rfl | ho
  · exact special_pos S h w
  · obtain rfl : o = 1 := by omega
    exact special_neg S h w
theorem conv_u64 (m : Nat) (w' : World) : (convert 170 34 (.int .u64 m)).run Tryz.prog w' = .ok (.float .f64 (fx (m : Int) 0)) w' := by
  rw [← floatOfInt_fx]; exact run_convert_int_float w' 170 34 .u64 .f64 m (by rw [Tryz.underlying170]; rfl) Tryz.underlying34
set_option maxRecDepth 20000 in
set_option maxHeartbeats 4000000 in
theorem atof_any (S : ByteArray) (o : Nat) (h : SgS S o) (m : Nat) (hm : valO S o S.size = m) (h0 : 0 < m) (h9 : m < 1000) (w : World) (ho : OptAt w) :
    Calls Tryz.prog 197 #[.string S] w fun e w' => e = .returned (.tuple #[.float .f64 (if decide (o = 1) then fx (-(m : Int)) 0 else fx (m : Int) 0), .int .i64 S.size, .nilIface]) ∧ w = w' := by
  have c1 := ho.opt
  have HO := Lib.hid ho
  have HS := Lib.hid (special_any S o h w)
  have HR := Lib.hid (readFloat_any S o h w)
  have hm1 : ((m : Int) == 0) = false := (by rw [beq_eq_false_iff_ne]; omega)
  rw [hm] at HR
  obtain ⟨b, hb⟩ : ∃ b, b = decide (o = 1) := ⟨_, rfl⟩
  rw [← hb] at HR ⊢
  have HX := Lib.hid (exact_any m h9 b (fx (m : Int) 0) (fx (-(m : Int)) 0) (run_neg h0 h9) (conv_u64 m) w ho)
  obtain ⟨r, hr⟩ : ∃ r, r = (if b = true then fx (-(m : Int)) 0 else fx (m : Int) 0) := ⟨_, rfl⟩
  rw [← hr] at HX ⊢
  clear ho h hm h0 hb hr
  go_enter Tryz.func197, Tryz.ntmps197
  go_wp2_with fail
  refine HS.out.mono ?_
  rintro e w' ⟨rfl, rfl⟩
  go_wp2_with fail
  refine HR.out.mono ?_
  rintro e w' ⟨rfl, rfl⟩
  cases b
  all_goals
    go_wp2_with fail
    refine (bool2_any _ _).mono ?_
    rintro e w' ⟨rfl, rfl⟩
    dsimp only
    go_wp2_with fail
    refine HX.out.mono ?_
    rintro e w' ⟨rfl, rfl⟩
    go_wp2_with fail
    go_returns
    exact ⟨rfl, rfl⟩
set_option maxRecDepth 20000 in
set_option maxHeartbeats 4000000 in
theorem pfPrefix_any (S : ByteArray) (r : Nat) (w : World) (h : Calls Tryz.prog 197 #[.string S] w fun e w' => e = .returned (.tuple #[.float .f64 r, .int .i64 S.size, .nilIface]) ∧ w = w') :
    Calls Tryz.prog 170 #[.string S, .int .i64 64] w fun e w' => e = .returned (.tuple #[.float .f64 r, .int .i64 S.size, .nilIface]) ∧ w = w' := by
  have H := Lib.hid h
  clear h
  go_enter Tryz.func170, Tryz.ntmps170
  go_wp2_with fail
  refine H.out.mono ?_
  rintro e w' ⟨rfl, rfl⟩
  go_wp2_with fail
  go_returns
  exact ⟨rfl, rfl⟩
set_option maxRecDepth 20000 in
set_option maxHeartbeats 4000000 in
theorem pfIn_any (S : ByteArray) (r : Nat) (w : World) (h : Calls Tryz.prog 170 #[.string S, .int .i64 64] w fun e w' => e = .returned (.tuple #[.float .f64 r, .int .i64 S.size, .nilIface]) ∧ w = w') :
    Calls Tryz.prog 146 #[.string S, .int .i64 64] w fun e w' => e = .returned (.tuple #[.float .f64 r, .nilIface]) ∧ w = w' := by
  have H := Lib.hid h
  clear h
  go_enter Tryz.func146, Tryz.ntmps146
  go_wp2_with fail
  refine H.out.mono ?_
  rintro e w' ⟨rfl, rfl⟩
  go_wp2_with fail
  go_returns
  exact ⟨rfl, rfl⟩
set_option maxRecDepth 20000 in
set_option maxHeartbeats 4000000 in
theorem pf_any (S : ByteArray) (r : Nat) (w : World) (h : Calls Tryz.prog 146 #[.string S, .int .i64 64] w fun e w' => e = .returned (.tuple #[.float .f64 r, .nilIface]) ∧ w = w') :
    Calls Tryz.prog 115 #[.string S, .int .i64 64] w fun e w' => e = .returned (.tuple #[.float .f64 r, .nilIface]) ∧ w = w' := by
  have H := Lib.hid h
  clear h
  go_enter Tryz.func115, Tryz.ntmps115
  go_wp2_with fail
  refine H.out.mono ?_
  rintro e w' ⟨rfl, rfl⟩
  go_wp2_with fail
  go_returns
  exact ⟨rfl, rfl⟩
/-- strconv.ParseFloat of a whole number of at most three digits. -/
theorem parse_any (S : ByteArray) (o : Nat) (h : SgS S o) (m : Nat) (hm : valO S o S.size = m) (h0 : 0 < m) (h9 : m < 1000) (w : World) (ho : OptAt w) :
    Calls Tryz.prog 115 #[.string S, .int .i64 64] w fun e w' => e = .returned (.tuple #[.float .f64 (if decide (o = 1) then fx (-(m : Int)) 0 else fx (m : Int) 0), .nilIface]) ∧ w = w' :=
  pf_any S _ w (pfIn_any S _ w (pfPrefix_any S _ w (atof_any S o h m hm h0 h9 w ho)))
end Go.Proofs.YtoebgbojpkflnaaGreatDoor
