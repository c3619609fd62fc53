import JvmDerived
import JvmDerived.Pilot.@@N@@Statement
import JvmDerived.Pilot.@@N@@Code
set_option linter.unusedVariables false
set_option linter.unusedSimpArgs false
/-! own layer: doubles by their values in units of 2^-1074 (zval), over the library's float laws -/
namespace Jvm.Pilot.@@N@@.OwnFp
open Jvm.FP.Core
abbrev oz (x : UInt64) : Int := zval b64 (val64 x)
theorem one_pos : (0 : Int) < (one64 : Int) := by have := one64_pos; omega
theorem fin_nan {x : UInt64} (h : DFin x) : val64 x ≠ .nan := h.ne_nan
theorem signs_le {s sv : Bool} {A B zr zv : Nat} (h : signed s A ≤ signed sv B) (hle : A ≤ B → zr ≤ zv) (hge : B ≤ A → zv ≤ zr) (hz : B = 0 → zv = 0) : signed s zr ≤ signed sv zv := by
  cases s <;> cases sv <;> simp only [signed, if_true, Bool.false_eq_true, if_false] at h ⊢
  · have := hle (by omega); omega
  · have := hle (by omega); have := hz (by omega); omega
  · omega
  · have := hge (by omega); omega
theorem signs_ge {s sv : Bool} {A B zr zv : Nat} (h : signed sv B ≤ signed s A) (hle : A ≤ B → zr ≤ zv) (hge : B ≤ A → zv ≤ zr) (hz : B = 0 → zv = 0) : signed sv zv ≤ signed s zr := by
  cases s <;> cases sv <;> simp only [signed, if_true, Bool.false_eq_true, if_false] at h ⊢
  · have := hge (by omega); omega
  · omega
  · have := hle (by omega); have := hz (by omega); omega
  · have := hle (by omega); omega
/-- what a quotient by a positive divisor is, set against a number V of the format -/
theorem div_core {x y V : UInt64} (hx : DFin x) (hy : DFin y) (hp : 0 < oz y) (hV : val64 V ≠ .nan) :
    (oz x * (one64 : Int) ≤ oz V * oz y → oz (ddiv x y) ≤ oz V) ∧ (oz V * oz y ≤ oz x * (one64 : Int) → oz V ≤ oz (ddiv x y)) := by
  obtain ⟨s, c, q, ex⟩ := hx
  obtain ⟨t, d, r, ey⟩ := hy
  have fx := val64_fits x
  have fy := val64_fits y
  unfold oz at *
  rw [val64_ddiv, ex, ey]
  rw [ex] at fx
  rw [ey] at fy hp
  have ht : t = false := by
    cases t
    · rfl
    · exfalso
      simp only [zval, sgn, signed, if_true] at hp
      omega
  subst ht
  have hd : 0 < d := by
    rcases Nat.eq_zero_or_pos d with h0 | h0
    · subst h0
      exfalso
      simp [zval, zmag, inUnits, sgn, signed] at hp
    · exact h0
  have eq0 : quotient b64 (.fin s c q) (.fin false d r) = roundRatio b64 (s != false) c d (q - r) := by
    simp only [quotient, if_neg (Nat.ne_of_gt hd)]
  have es : (s != false) = s := by cases s <;> rfl
  rw [eq0, es]
  have hq1 := fx.2.1
  have hr1 := fy.2.1
  have hqn := qmin_neg good_b64
  have eA : inUnits c (q - r) (2 * b64.qmin - r) = zmag b64 (.fin s c q) * one64 := by
    show _ = inUnits c q b64.qmin * one64
    unfold inUnits
    rw [← pow_qmin64, Nat.mul_assoc, ← Nat.pow_add]
    congr 2
    omega
  have eB : 2 ^ (b64.qmin - (2 * b64.qmin - r)).toNat * d = zmag b64 (.fin false d r) := by
    show _ = inUnits d r b64.qmin
    unfold inUnits
    rw [Nat.mul_comm]
    congr 2
    omega
  have hle := zmag_roundRatio_le good_b64 (s := s) (A := c) (B := d) (e := q - r) (e0 := 2 * b64.qmin - r) hd (val64_fits V) hV (by omega) (by omega)
  have hge := zmag_roundRatio_ge good_b64 (s := s) (A := c) (B := d) (e := q - r) (e0 := 2 * b64.qmin - r) hd (val64_fits V) (by omega) (by omega)
  rw [eA, Nat.mul_assoc, eB] at hle hge
  have hy0 : 0 < zmag b64 (.fin false d r) := by
    show 0 < inUnits d r b64.qmin
    exact Nat.mul_pos hd (Nat.two_pow_pos _)
  have hz : zmag b64 (val64 V) * zmag b64 (.fin false d r) = 0 → zmag b64 (val64 V) = 0 := by
    intro h0
    rcases Nat.mul_eq_zero.mp h0 with h0 | h0 <;> omega
  unfold zval
  rw [sgn_roundRatio]
  have e1 : signed (sgn (.fin s c q)) (zmag b64 (.fin s c q)) * (one64 : Int) = signed s (zmag b64 (.fin s c q) * one64) := (signed_mul _ _ _).symm
  have e2 : signed (sgn (val64 V)) (zmag b64 (val64 V)) * signed (sgn (.fin false d r)) (zmag b64 (.fin false d r)) = signed (sgn (val64 V)) (zmag b64 (val64 V) * zmag b64 (.fin false d r)) := (signed_mul _ _ _).symm
  rw [e1, e2]
  exact ⟨fun h => signs_le h hle hge hz, fun h => signs_ge h hle hge hz⟩
theorem div_eq {x y V : UInt64} (hx : DFin x) (hy : DFin y) (hp : 0 < oz y) (hV : val64 V ≠ .nan) (h : oz x * (one64 : Int) = oz V * oz y) : oz (ddiv x y) = oz V :=
  Int.le_antisymm ((div_core hx hy hp hV).1 (Int.le_of_eq h)) ((div_core hx hy hp hV).2 (Int.le_of_eq h.symm))
theorem mul_core {x y V : UInt64} (hx : DFin x) (hy : DFin y) (hV : val64 V ≠ .nan) :
    (oz x * oz y ≤ oz V * (one64 : Int) → oz (dmul x y) ≤ oz V) ∧ (oz V * (one64 : Int) ≤ oz x * oz y → oz V ≤ oz (dmul x y)) := by
  obtain ⟨s, c, q, ex⟩ := hx
  obtain ⟨t, d, r, ey⟩ := hy
  have fx := val64_fits x
  have fy := val64_fits y
  unfold oz at *
  rw [val64_dmul, ex, ey]
  rw [ex] at fx
  rw [ey] at fy
  obtain ⟨h1, h2, h3⟩ := product_units fx fy
  have hqn := qmin_neg good_b64
  have e1 : signed (s != t) (inUnits (c * d) (q + r) (2 * b64.qmin)) = zval b64 (.fin s c q) * zval b64 (.fin t d r) := by
    rw [h3]; exact signed_xor _ _ _ _
  have e2 : ((2 ^ (b64.qmin - 2 * b64.qmin).toNat : Nat) : Int) = (one64 : Int) := by
    rw [show (b64.qmin - 2 * b64.qmin).toNat = (-b64.qmin).toNat by omega, pow_qmin64]
  rw [h1]
  refine ⟨fun h => ?_, fun h => ?_⟩
  · refine zval_round_le good_b64 (val64_fits V) hV (e0 := 2 * b64.qmin) (by omega) h2 ?_
    rw [e1, e2]; exact h
  · refine zval_round_ge good_b64 (val64_fits V) hV (e0 := 2 * b64.qmin) (by omega) h2 ?_
    rw [e1, e2]; exact h
theorem mul_eq {x y V : UInt64} (hx : DFin x) (hy : DFin y) (hV : val64 V ≠ .nan) (h : oz x * oz y = oz V * (one64 : Int)) : oz (dmul x y) = oz V :=
  Int.le_antisymm ((mul_core hx hy hV).1 (Int.le_of_eq h)) ((mul_core hx hy hV).2 (Int.le_of_eq h.symm))
theorem add_core {x y V : UInt64} (hx : DFin x) (hy : DFin y) (hV : val64 V ≠ .nan) :
    (oz x + oz y ≤ oz V → oz (dadd x y) ≤ oz V) ∧ (oz V ≤ oz x + oz y → oz V ≤ oz (dadd x y)) := by
  unfold oz
  rw [val64_dadd]
  exact ⟨sum_le good_b64 hx hy (val64_fits x) (val64_fits y) (val64_fits V) hV, sum_ge good_b64 hx hy (val64_fits x) (val64_fits y) (val64_fits V) hV⟩
theorem add_eq {x y V : UInt64} (hx : DFin x) (hy : DFin y) (hV : val64 V ≠ .nan) (h : oz x + oz y = oz V) : oz (dadd x y) = oz V :=
  Int.le_antisymm ((add_core hx hy hV).1 (Int.le_of_eq h)) ((add_core hx hy hV).2 (Int.le_of_eq h.symm))
theorem sub_core {x y V : UInt64} (hx : DFin x) (hy : DFin y) (hV : val64 V ≠ .nan) :
    (oz x - oz y ≤ oz V → oz (dsub x y) ≤ oz V) ∧ (oz V ≤ oz x - oz y → oz V ≤ oz (dsub x y)) := by
  unfold oz
  rw [val64_dsub]
  have hn : ∃ s c q, negate (val64 y) = .fin s c q := by
    obtain ⟨s, c, q, e⟩ := hy
    exact ⟨!s, c, q, by rw [e]; rfl⟩
  have ez : zval b64 (negate (val64 y)) = -zval b64 (val64 y) := zval_negate _ _
  refine ⟨fun h => sum_le good_b64 hx hn (val64_fits x) (negate_fits (val64_fits y)) (val64_fits V) hV ?_, fun h => sum_ge good_b64 hx hn (val64_fits x) (negate_fits (val64_fits y)) (val64_fits V) hV ?_⟩
  · rw [ez]; omega
  · rw [ez]; omega
theorem sub_eq {x y V : UInt64} (hx : DFin x) (hy : DFin y) (hV : val64 V ≠ .nan) (h : oz x - oz y = oz V) : oz (dsub x y) = oz V :=
  Int.le_antisymm ((sub_core hx hy hV).1 (Int.le_of_eq h)) ((sub_core hx hy hV).2 (Int.le_of_eq h.symm))
/-- n / 2^k is a double, for n of less than 53 digits -/
theorem rep (n : Int) (k : Nat) (hn : n.natAbs < 2 ^ 53) (hk : k ≤ 1074) : ∃ V : UInt64, DFin V ∧ oz V = n * ((2 ^ (1074 - k) : Nat) : Int) := by
  have hq : b64.qmin = -1074 := qmin_b64
  have hm : b64.qmax = 971 := by decide
  obtain ⟨c', q', h1, h2⟩ := round_exact good_b64 (decide (n < 0)) (c := n.natAbs) (q := -(k : Int)) hn (by omega) (by omega)
  refine ⟨of64 (round b64 (.fin (decide (n < 0)) n.natAbs (-(k : Int)))), ⟨_, c', q', by rw [val64_of64 (round_fits good_b64 _), h1]⟩, ?_⟩
  unfold oz
  rw [val64_of64 (round_fits good_b64 _), h1]
  show signed (decide (n < 0)) (inUnits c' q' b64.qmin) = _
  rw [h2]
  unfold inUnits
  rw [signed_mul, show (-(k : Int) - b64.qmin).toNat = 1074 - k by omega]
  congr 1
  unfold signed
  by_cases h : n < 0 <;> simp [h] <;> omega
/-- m * 2^k is a double, for m of less than 53 digits, k small -/
theorem repUp (m k : Nat) (hn : m < 2 ^ 53) (hk : k ≤ 900) : ∃ V : UInt64, DFin V ∧ oz V = ((m * 2 ^ k : Nat) : Int) * (one64 : Int) := by
  have hq : b64.qmin = -1074 := qmin_b64
  have hm : b64.qmax = 971 := by decide
  obtain ⟨c', q', h1, h2⟩ := round_exact good_b64 false (c := m) (q := (k : Int)) hn (by omega) (by omega)
  refine ⟨of64 (round b64 (.fin false m (k : Int))), ⟨_, c', q', by rw [val64_of64 (round_fits good_b64 _), h1]⟩, ?_⟩
  unfold oz
  rw [val64_of64 (round_fits good_b64 _), h1]
  show signed false (inUnits c' q' b64.qmin) = _
  rw [h2]
  unfold inUnits
  rw [show ((k : Int) - b64.qmin).toNat = k + (-b64.qmin).toNat by omega, Nat.pow_add, pow_qmin64, ← Nat.mul_assoc, Int.natCast_mul]
  simp [signed]
theorem fin_of_eq {x V : UInt64} (hn : val64 x ≠ .nan) (hV : DFin V) (h : oz x = oz V) : DFin x := by
  have hl := hV.zval_lt
  cases e : val64 x with
  | nan => exact absurd e hn
  | inf s =>
    exfalso
    unfold oz at h
    rw [e] at h
    have h2 : zval b64 (.inf s) = signed s (b64.tails * 2 ^ (b64.exps - 2)) := rfl
    rw [h2] at h
    have h3 := congrArg Int.natAbs h
    unfold zval at h3
    rw [natAbs_signed, natAbs_signed] at h3
    omega
  | fin s c q => exact ⟨s, c, q, e⟩
/-- the comparison's int, by the values -/
theorem cmp_val {x y : UInt64} (hx : val64 x ≠ .nan) (hy : val64 y ≠ .nan) (o : ClassFile.CmpOp) : Op.cmpValue (Jvm.FP.dcmp x y) o = if oz x < oz y then -1 else if oz x = oz y then 0 else 1 := by
  have h : Jvm.FP.dcmp x y = some (compare (oz x) (oz y)) := dcmp_zval hx hy
  rw [h, compare_ite]
  by_cases h1 : oz x < oz y
  · rw [if_pos h1, if_pos h1]; cases o <;> rfl
  · rw [if_neg h1, if_neg h1]
    by_cases h2 : oz x = oz y
    · rw [if_pos h2, if_pos h2]; cases o <;> rfl
    · rw [if_neg h2, if_neg h2]; cases o <;> rfl
theorem cmp_lt {x y : UInt64} (hx : val64 x ≠ .nan) (hy : val64 y ≠ .nan) (o : ClassFile.CmpOp) : Op.cmpValue (Jvm.FP.dcmp x y) o < 0 ↔ oz x < oz y := by
  rw [cmp_val hx hy o]
  by_cases h1 : oz x < oz y
  · rw [if_pos h1]; exact ⟨fun _ => h1, fun _ => by decide⟩
  · rw [if_neg h1]
    by_cases h2 : oz x = oz y
    · rw [if_pos h2]; exact ⟨fun q => absurd q (by decide), fun q => absurd q h1⟩
    · rw [if_neg h2]; exact ⟨fun q => absurd q (by decide), fun q => absurd q h1⟩
theorem cmp_gt {x y : UInt64} (hx : val64 x ≠ .nan) (hy : val64 y ≠ .nan) (o : ClassFile.CmpOp) : 0 < Op.cmpValue (Jvm.FP.dcmp x y) o ↔ oz y < oz x := by
  rw [cmp_val hx hy o]
  by_cases h1 : oz x < oz y
  · rw [if_pos h1]; exact ⟨fun q => absurd q (by decide), fun q => by omega⟩
  · rw [if_neg h1]
    by_cases h2 : oz x = oz y
    · rw [if_pos h2]; exact ⟨fun q => absurd q (by decide), fun q => by omega⟩
    · rw [if_neg h2]; exact ⟨fun _ => by omega, fun _ => by decide⟩
theorem cmp_eq {x y : UInt64} (hx : val64 x ≠ .nan) (hy : val64 y ≠ .nan) (o : ClassFile.CmpOp) : Op.cmpValue (Jvm.FP.dcmp x y) o = 0 ↔ oz x = oz y := by
  rw [cmp_val hx hy o]
  by_cases h1 : oz x < oz y
  · rw [if_pos h1]; exact ⟨fun q => absurd q (by decide), fun q => by omega⟩
  · rw [if_neg h1]
    by_cases h2 : oz x = oz y
    · rw [if_pos h2]; exact ⟨fun _ => h2, fun _ => rfl⟩
    · rw [if_neg h2]; exact ⟨fun q => absurd q (by decide), fun q => absurd q h2⟩
theorem oz_int {i : Int} {a : UInt64} (h : DInt i a) : oz a = i * (one64 : Int) := DInt_zval h
theorem int_fin {i : Int} {a : UInt64} (h : DInt i a) : DFin a := by
  unfold DInt at h
  cases e : val64 a with
  | nan => rw [e] at h; exact h.elim
  | inf s => rw [e] at h; exact h.elim
  | fin s c q => exact ⟨s, c, q, e⟩
theorem oz_i2d (x : Int32) : oz (i2d x) = x.toInt * (one64 : Int) := oz_int (i2d_int x)
theorem oz_l2d {a : Int64} (h : a.toInt.natAbs ≤ 2 ^ 53) : oz (l2d a) = a.toInt * (one64 : Int) := oz_int (l2d_int h)
theorem no_nan {x : UInt64} (h : val64 x ≠ .nan) : Jvm.Free.Fl.NoNaN64 x := Jvm.Free.Fl.val64_no.mpr h
theorem nan_no {x : UInt64} (h : Jvm.Free.Fl.NoNaN64 x) : val64 x ≠ .nan := Jvm.Free.Fl.val64_no.mp h
/-- a positive value makes a divisor -/
theorem div_nan {x y : UInt64} (hx : DFin x) (hy : DFin y) (hp : 0 < oz y) : val64 (ddiv x y) ≠ .nan := by
  have hz : ¬ DZero y := fun h => by have := h.zval; unfold oz at hp; omega
  exact (notNaN_iff _).mp (ddiv_out hx.notNaN hy hz)
theorem mul_nan {x y : UInt64} (hx : DFin x) (hy : DFin y) : val64 (dmul x y) ≠ .nan := (notNaN_iff _).mp (dmul_out hx hy)
theorem add_nan {x y : UInt64} (hx : DFin x) (hy : DFin y) : val64 (dadd x y) ≠ .nan := (notNaN_iff _).mp (dadd_out hx.notNaN hy)
theorem sub_nan {x y : UInt64} (hx : DFin x) (hy : DFin y) : val64 (dsub x y) ≠ .nan := (notNaN_iff _).mp (dsub_out hx.notNaN hy)
/-- a bit pattern that is finite, and what it is worth, by reckoning -/
theorem fin_lit {x : UInt64} (h : x.toNat % 2 ^ 63 < 9218868437227405312) : DFin x := (fin_bits x).mpr h
theorem oz_max {a b : UInt64} (ha : val64 a ≠ .nan) (hb : val64 b ≠ .nan) : oz (Native.java_lang_Math.nans.pick64 true a b) = max (oz a) (oz b) := by
  have h : Jvm.FP.dcmp a b = some (compare (oz a) (oz b)) := dcmp_zval ha hb
  rw [compare_ite] at h
  by_cases h1 : oz a < oz b
  · rw [if_pos h1] at h
    have e : Native.java_lang_Math.nans.pick64 true a b = b := by simp [Native.java_lang_Math.nans.pick64, h]
    rw [e]; omega
  · rw [if_neg h1] at h
    by_cases h2 : oz a = oz b
    · rcases Jvm.Free.Fl.pick64_or true a b with e | e <;> rw [e] <;> omega
    · rw [if_neg h2] at h
      have e : Native.java_lang_Math.nans.pick64 true a b = a := by simp [Native.java_lang_Math.nans.pick64, h]
      rw [e]; omega
theorem max_nan {a b : UInt64} (ha : val64 a ≠ .nan) (hb : val64 b ≠ .nan) : val64 (Native.java_lang_Math.nans.pick64 true a b) ≠ .nan := by
  rcases Jvm.Free.Fl.pick64_or true a b with e | e <;> rw [e] <;> assumption
theorem d2l_nonneg {a : UInt64} (hn : val64 a ≠ .nan) (h0 : 0 ≤ oz a) (h1 : oz a < 9223372036854775808 * (one64 : Int)) : (d2l a).toInt = oz a / (one64 : Int) := by
  rw [d2l_val hn]
  have hp := one64_pos
  have key : signed (sgn (val64 a)) (zmag b64 (val64 a) / one64) = oz a / (one64 : Int) := by
    unfold oz zval at *
    cases hs : sgn (val64 a)
    · simp [signed]
    · rw [hs] at h0
      simp only [signed, if_true] at h0 ⊢
      have : zmag b64 (val64 a) = 0 := by omega
      rw [this]; simp
  rw [key]
  have h2 : 0 ≤ oz a / (one64 : Int) := Int.ediv_nonneg h0 (by omega)
  have h3 : oz a / (one64 : Int) < 9223372036854775808 := Int.ediv_lt_of_lt_mul (by omega) h1
  omega
end Jvm.Pilot.@@N@@.OwnFp
namespace Jvm.Pilot.@@N@@.OwnFp
open Jvm.FP.Core
theorem sec_one : dadd (l2d 1) (ddiv (i2d 0) 4741671816366391296) = 4607182418800017408 := by decide +kernel
theorem oz_1 : oz 4607182418800017408 = (one64 : Int) := by decide +kernel
theorem oz_0 : oz 0 = 0 := by decide +kernel
theorem fin_1 : DFin 4607182418800017408 := fin_lit (by decide)
theorem fin_0 : DFin 0 := fin_lit (by decide)
theorem fin_9 : DFin 4741671816366391296 := fin_lit (by decide)
theorem n_q : Jvm.Free.Fl.NoNaN64 (ddiv (i2d 0) 4741671816366391296) := by unfold Jvm.Free.Fl.NoNaN64; decide +kernel
theorem n_s : Jvm.Free.Fl.NoNaN64 (dadd (l2d 1) (ddiv (i2d 0) 4741671816366391296)) := by unfold Jvm.Free.Fl.NoNaN64; decide +kernel
/-- the rate of n permits a second, n from 1 on: a number above nought -/
theorem rate_core {n : Int32} (h : 1 ≤ n.toInt) : DFin (ddiv (i2d n) (dadd (l2d 1) (ddiv (i2d 0) 4741671816366391296))) ∧ 0 < oz (ddiv (i2d n) (dadd (l2d 1) (ddiv (i2d 0) 4741671816366391296))) := by
  rw [sec_one]
  have hp := one_pos
  have p1 : 0 < oz 4607182418800017408 := by rw [oz_1]; exact hp
  have e : oz (ddiv (i2d n) 4607182418800017408) = oz (i2d n) := by
    refine div_eq (i2d_fin n) fin_1 p1 (fin_nan (i2d_fin n)) ?_
    rw [oz_1]
  refine ⟨fin_of_eq (div_nan (i2d_fin n) fin_1 p1) (i2d_fin n) e, ?_⟩
  rw [e, oz_i2d]
  exact Int.mul_pos (by omega) hp
theorem rate_nan {n : Int32} (h : 1 ≤ n.toInt) : Jvm.Free.Fl.NoNaN64 (ddiv (i2d n) (dadd (l2d 1) (ddiv (i2d 0) 4741671816366391296))) := no_nan (fin_nan (rate_core h).1)
theorem rate_nz {n : Int32} (h : 1 ≤ n.toInt) (o : ClassFile.CmpOp) : ¬ Op.cmpValue (Jvm.FP.dcmp (ddiv (i2d n) (dadd (l2d 1) (ddiv (i2d 0) 4741671816366391296))) 0) o = 0 := by
  obtain ⟨f, q⟩ := rate_core h
  rw [cmp_eq (fin_nan f) (fin_nan fin_0), oz_0]
  omega
theorem rate_inv {n : Int32} (h : 1 ≤ n.toInt) : Jvm.Free.Fl.NoNaN64 (ddiv 4741671816366391296 (ddiv (i2d n) (dadd (l2d 1) (ddiv (i2d 0) 4741671816366391296)))) := by
  obtain ⟨f, q⟩ := rate_core h
  exact no_nan (div_nan fin_9 f q)
theorem same_int (n : Int32) (o : ClassFile.CmpOp) : Op.cmpValue (Jvm.FP.dcmp (i2d n) (i2d n)) o = 0 := (cmp_eq (fin_nan (i2d_fin n)) (fin_nan (i2d_fin n)) o).mpr rfl
theorem zero_zero (o : ClassFile.CmpOp) : ¬ 0 < Op.cmpValue (Jvm.FP.dcmp 0 0) o := by
  rw [cmp_gt (fin_nan fin_0) (fin_nan fin_0)]
  omega
end Jvm.Pilot.@@N@@.OwnFp
namespace Jvm.Pilot.@@N@@
open Jvm Jvm.ClassFile Sem Op Lib Jvm.Free Jvm.Stand Jvm.LawKit Jvm.RoadKit Bundle Jvm.Pilot.@@N@@.Jvm.D
/-! own layer: a walk in continuation style over the library's laws of lawnew's family -/
section OwnBase
/-- from the state t the invocation over 'below' comes to its end, and F holds there -/
def own_Ends (tb : Tables) (e : Env) (below : List Frame) (F : Outcome → State → Prop) (t : State) : Prop :=
  ∃ s₂ o, Steps tb e below t s₂ ∧ s₂.status = .running ∧ Ended s₂ below o ∧ F o s₂
theorem own_go {tb : Tables} {e : Env} {below : List Frame} {F : Outcome → State → Prop} {t t' : State} (k : ∀ target, Steps tb e below t' target → Steps tb e below t target) (h : own_Ends tb e below F t') : own_Ends tb e below F t := by
  obtain ⟨s₂, o, h1, h2⟩ := h
  exact ⟨s₂, o, k _ h1, h2⟩
/-- what a contract says of the end -/
def own_F (s : State) (Q : Option Value → Heap → List Loc → Prop) (C S : Nat) (o : Outcome) (U : State) : Prop := ∃ v L, o = .returned v ∧ Q v U.heap L ∧ FrameEnd s o U L C S
abbrev own_Ctr (l : Launch) (Z : State) (y : MethodName) (bytes : ByteArray) (ml : Nat) (rt : Option FieldType) (ws : List Jvm.Cond) (rm : Room) (as : Array Value) (h0 : Heap) (Q : Option Value → Heap → List Loc → Prop) : Prop :=
  MetFree l y (head1 (Jvm.Cond.code y bytes ml rt :: ws) rm) (fun a U => a = as ∧ Z.Warmed39 U.vm ∧ U.heap = h0) (fun _ _ _ _ _ => True) (fun _ U o U' => ∃ v L, o = .returned v ∧ Q v U'.heap L ∧ FrameEnd U o U' L rm.cells rm.slots)
theorem own_enter {l : Launch} {Z : State} {y : MethodName} {bytes : ByteArray} {ml : Nat} {rt : Option FieldType} {ws : List Jvm.Cond} {rm : Room} {as : Array Value} {h0 : Heap} {Q : Option Value → Heap → List Loc → Prop} (hp : plainFor y = true)
    (body : ∀ (p : Program) (e : Env) (s : State) (m : MethodId) (below : List Frame) (meth : Method) (c : Code) (s₁ : State), BodyLoose p l y (head1 (Jvm.Cond.code y bytes ml rt :: ws) rm) bytes ml rt e s m as below meth c s₁ → Z.Warmed39 s.vm → c.maxLocals = ml → Stand p l e rm s m as below meth c s₁ [] 0 0 → s₁.heap = h0 →
      own_Ends p.tables e below (own_F s Q rm.cells rm.slots) (s₁.setTop (entryFrame m as ml))) : own_Ctr l Z y bytes ml rt ws rm as h0 Q := by
  refine MetFree.of_bodySF hp hisR ?_
  intro p e s m args below meth c s₁ Bd hml0 hP hK
  obtain ⟨rfl, hZ, hh⟩ := hP
  have e0 : s₁.heap = h0 := by rw [← hh, Bd.state]; rfl
  exact body p e s m below meth c s₁ Bd hZ hml0 (Stand.of_body Bd) e0
variable {p : Program} {l : Launch} {e : Env} {R : Room} {s : State} {m : MethodId} {args : Array Value} {below : List Frame} {meth : Method} {c : Code} {T : State} {locs : List Loc} {cells slots : Nat} {Z : State} {a0 : Array Value} {h : Heap} {Q : Option Value → Heap → List Loc → Prop} {C S : Nat}
theorem own_ret (X : Stand p l e R s m args below meth c T locs cells slots) {v : Option Value} {g : JFrame} (hv : meth.sig.returnType = none → v = none) (hlocks : meth.locks = false)
    (st : ∀ fs, (∀ (f : JFrame) (acts : List Action), f.method = m → f.locked = none → f.entered = [] → (doReturn e (T.setTop f) acts v).1 = T.setFrames fs) → Steps p.tables e below (T.setTop g) (T.setFrames fs)) (hc : cells ≤ C) (hs : slots ≤ S) (q : Q v T.heap locs) :
    own_Ends p.tables e below (own_F s Q C S) (T.setTop g) := by
  obtain ⟨fs, hr, hrun, hended, hW, hsame⟩ := X.leave (v := v) hv hlocks
  exact ⟨_, _, st fs hr, hrun, hended, v, locs, rfl, q, ⟨_, rfl⟩, hW, hsame.mono hc hs⟩
theorem own_retV (X : Stand p l e R s m args below meth c T locs cells slots) (hx : p.tables.exec = Jvm.exec) (hret : meth.sig.returnType = none) (hlocks : meth.locks = false) {pc : Nat} {Ls : Array Slot} (hd : decode c.code pc = .ok (.return_, 1)) (hc : cells ≤ C) (hs : slots ≤ S) (q : Q none T.heap locs) :
    own_Ends p.tables e below (own_F s Q C S) (T.setTop (mkF m pc Ls [])) :=
  own_ret X (fun _ => rfl) hlocks (fun fs hr => X.returnOut hx hret hd hr) hc hs q
theorem own_retZ (X : Stand p l e R s m args below meth c T locs cells slots) (hx : p.tables.exec = Jvm.exec) (hret : meth.sig.returnType = some .boolean) (hlocks : meth.locks = false) {pc : Nat} {Ls : Array Slot} {z : Int32} {rest : List Value} (hz : nar .boolean z = z) (hd : decode c.code pc = .ok (.ireturn, 1)) (hc : cells ≤ C) (hs : slots ≤ S) (q : Q (some (.int z)) T.heap locs) :
    own_Ends p.tables e below (own_F s Q C S) (T.setTop (mkF m pc Ls (.int z :: rest))) :=
  own_ret X (v := some (.int z)) (fun q => by rw [hret] at q; cases q) hlocks (fun fs hr => retN X hx (t := .boolean) hret (by simp) hd (by rw [hz]; exact hr)) hc hs q
theorem own_retI (X : Stand p l e R s m args below meth c T locs cells slots) (hx : p.tables.exec = Jvm.exec) (hret : meth.sig.returnType = some .int) (hlocks : meth.locks = false) {pc : Nat} {Ls : Array Slot} {z : Int32} {rest : List Value} (hd : decode c.code pc = .ok (.ireturn, 1)) (hc : cells ≤ C) (hs : slots ≤ S) (q : Q (some (.int z)) T.heap locs) :
    own_Ends p.tables e below (own_F s Q C S) (T.setTop (mkF m pc Ls (.int z :: rest))) :=
  own_ret X (v := some (.int z)) (fun q => by rw [hret] at q; cases q) hlocks (fun fs hr => retOut X hx hret rfl (Or.inl ⟨rfl, Or.inl rfl, _, rfl⟩) hd hr) hc hs q
theorem own_retJ (X : Stand p l e R s m args below meth c T locs cells slots) (hx : p.tables.exec = Jvm.exec) (hret : meth.sig.returnType = some .long) (hlocks : meth.locks = false) {pc : Nat} {Ls : Array Slot} {z : Int64} {rest : List Value} (hd : decode c.code pc = .ok (.lreturn, 1)) (hc : cells ≤ C) (hs : slots ≤ S) (q : Q (some (.long z)) T.heap locs) :
    own_Ends p.tables e below (own_F s Q C S) (T.setTop (mkF m pc Ls (.long z :: rest))) :=
  own_ret X (v := some (.long z)) (fun q => by rw [hret] at q; cases q) hlocks (fun fs hr => retOut X hx hret rfl (Or.inr (Or.inl ⟨rfl, rfl, _, rfl⟩)) hd hr) hc hs q
theorem own_retD (X : Stand p l e R s m args below meth c T locs cells slots) (hx : p.tables.exec = Jvm.exec) (hret : meth.sig.returnType = some .double) (hlocks : meth.locks = false) {pc : Nat} {Ls : Array Slot} {z : UInt64} {rest : List Value} (hd : decode c.code pc = .ok (.dreturn, 1)) (hc : cells ≤ C) (hs : slots ≤ S) (q : Q (some (.double z)) T.heap locs) :
    own_Ends p.tables e below (own_F s Q C S) (T.setTop (mkF m pc Ls (.double z :: rest))) :=
  own_ret X (v := some (.double z)) (fun q => by rw [hret] at q; cases q) hlocks (fun fs hr => retOut X hx hret rfl (Or.inr (Or.inr (Or.inl ⟨rfl, rfl, _, rfl⟩))) hd hr) hc hs q
theorem own_retA (X : Stand p l e R s m args below meth c T locs cells slots) (hx : p.tables.exec = Jvm.exec) {t : FieldType} (hret : meth.sig.returnType = some t) (hlocks : meth.locks = false) {pc : Nat} {Ls : Array Slot} {w : Value} {rest : List Value} (hd : decode c.code pc = .ok (.areturn, 1)) (ht : t.isReference = true) (hw : w.isRef = true) (hc : cells ≤ C) (hs : slots ≤ S) (q : Q (some w) T.heap locs) :
    own_Ends p.tables e below (own_F s Q C S) (T.setTop (mkF m pc Ls (w :: rest))) :=
  own_ret X (v := some w) (fun q => by rw [hret] at q; cases q) hlocks (fun fs hr => retOut X hx hret (by cases t <;> first | (cases ht; done) | (cases w <;> first | (cases hw; done) | rfl)) (Or.inr (Or.inr (Or.inr (Or.inr ⟨rfl, ht, hw⟩)))) hd hr) hc hs q
theorem own_special (X : Stand p l e R s m args below meth c T locs cells slots) (hx : p.tables.exec = Jvm.exec) (hZ : Z.Warmed39 s.vm) {own : String} {index : Nat} {y : MethodName} (hy1 : y.name = "<init>") (hown : s.vm.findClass own = some m.cls)
    (w1 : (Jvm.Cond.methodLink own index y).before a0 Z = true) (w2 : (Jvm.Cond.instanceMethod y).before a0 Z = true) {bytes : ByteArray} {maxL : Nat} (w3 : (Jvm.Cond.code y bytes maxL none).before a0 Z = true) (w4 : (Jvm.Cond.initialized y.cls).before a0 Z = true)
    (hy : y.cls ≠ "java/lang/invoke/MethodHandle" ∧ y.cls ≠ "java/lang/invoke/VarHandle") {rm : Room} {a : Addr} {argsL rest : List Value}
    (K : own_Ctr l Z y bytes maxL none [] rm (.ref a :: argsL).toArray h Q) (eT : T.heap = h) {g : JFrame} (hg : g.method = m) (hsize : g.locals.size = c.maxLocals)
    (hlen : ∀ sig, parseMethodDescriptor y.desc = some sig → argsL.length = sig.parameters.length) (hst : g.stack = argsL.reverse ++ .ref a :: rest) {W : Nat} (hW : 2 * g.monitorRoom + (rest.map fun v => v.category).sum ≤ W)
    (hd : decode c.code g.pc = .ok (.invokespecial index, 3)) (hf : rm.frames + 1 ≤ R.frames) (hlo : W + (maxL + 11) + rm.locals ≤ R.locals) (hc : cells + rm.cells ≤ R.cells) (hs : slots + rm.slots ≤ R.slots) :
    ∃ T' L v, Stand p l e R s m args below meth c T' (locs ++ L) (cells + rm.cells) (slots + rm.slots) ∧ Q v T'.heap L ∧ ∀ target, Steps p.tables e below (T'.setTop { g with pc := g.pc + 3, stack := v.toList ++ rest }) target → Steps p.tables e below (T.setTop g) target := by
  obtain ⟨v, _, ⟨T', L', k', n'⟩, -, X', ⟨L, hQ, l1, y1, z1⟩, st⟩ := X.specialBack hx (y := y) hy1 hown (mvT hZ w1) (mvT hZ w2) (mvT hZ w3) hy (backOf (W := W) K hZ w3 w4 hf hlo) (g := g) hg hsize (Steps.refl _) (a := a) (argsL := argsL) (rest := rest) hlen hst hW hd (fun _ _ => ⟨rfl, eT, hc, hs⟩)
  dsimp only [Pt.U, Pt.locs, Pt.cells, Pt.slots] at X' l1 y1 z1 st hQ
  subst l1 y1 z1
  exact ⟨T', L, v, X', hQ, fun t k => st.trans k⟩
theorem own_static (X : Stand p l e R s m args below meth c T locs cells slots) (hx : p.tables.exec = Jvm.exec) (hZ : Z.Warmed39 s.vm) {own : String} {index : Nat} {y : MethodName} (hown : s.vm.findClass own = some m.cls)
    (w1 : (Jvm.Cond.methodLink own index y).before a0 Z = true) (w2 : (Jvm.Cond.static y).before a0 Z = true) (w4 : (Jvm.Cond.initialized y.cls).before a0 Z = true) {bytes : ByteArray} {maxL : Nat} {rt : Option FieldType} (w3 : (Jvm.Cond.code y bytes maxL rt).before a0 Z = true)
    (hy : y.cls ≠ "java/lang/invoke/MethodHandle" ∧ y.cls ≠ "java/lang/invoke/VarHandle") {rm : Room} {argsL rest : List Value}
    (K : own_Ctr l Z y bytes maxL rt [] rm argsL.toArray h Q) (eT : T.heap = h) {g : JFrame} (hg : g.method = m) (hsize : g.locals.size = c.maxLocals)
    (hlen : ∀ sig, parseMethodDescriptor y.desc = some sig → argsL.length = sig.parameters.length) (hst : g.stack = argsL.reverse ++ rest) {W : Nat} (hW : 2 * g.monitorRoom + (rest.map fun v => v.category).sum ≤ W)
    (hd : decode c.code g.pc = .ok (.invokestatic index, 3)) (hf : rm.frames + 1 ≤ R.frames) (hlo : W + (maxL + 11) + rm.locals ≤ R.locals) (hc : cells + rm.cells ≤ R.cells) (hs : slots + rm.slots ≤ R.slots) :
    ∃ T' L v, Stand p l e R s m args below meth c T' (locs ++ L) (cells + rm.cells) (slots + rm.slots) ∧ Q v T'.heap L ∧ ∀ target, Steps p.tables e below (T'.setTop { g with pc := g.pc + 3, stack := v.toList ++ rest }) target → Steps p.tables e below (T.setTop g) target := by
  obtain ⟨v, _, ⟨T', L', k', n'⟩, -, X', ⟨L, hQ, l1, y1, z1⟩, st⟩ := Jvm.LawKit.callS X hx (y := y) hown (mvT hZ w1) (mvT hZ w2) (mvT hZ w4) (mvT hZ w3) hy (backOf (W := W) K hZ w3 w4 hf hlo) (g := g) hg hsize (argsL := argsL) (rest := rest) hlen hst hW hd (fun _ _ => ⟨rfl, eT, hc, hs⟩)
  dsimp only [Pt.U, Pt.locs, Pt.cells, Pt.slots] at X' l1 y1 z1 st hQ
  subst l1 y1 z1
  exact ⟨T', L, v, X', hQ, st⟩
theorem own_virtual (X : Stand p l e R s m args below meth c T locs cells slots) (hx : p.tables.exec = Jvm.exec) (hZ : Z.Warmed39 s.vm) {own : String} {index : Nat} {y : MethodName} (hown : s.vm.findClass own = some m.cls)
    (w1 : (Jvm.Cond.methodLink own index y).before a0 Z = true) (w2 : (Jvm.Cond.declares y).before a0 Z = true) (w5 : (Jvm.Cond.selects y.cls y y).before a0 Z = true) (w6 : (Jvm.Cond.instanceMethod y).before a0 Z = true) {bytes : ByteArray} {maxL : Nat} {rt : Option FieldType} (w3 : (Jvm.Cond.code y bytes maxL rt).before a0 Z = true) (w4 : (Jvm.Cond.initialized y.cls).before a0 Z = true)
    (hy : y.cls ≠ "java/lang/invoke/MethodHandle" ∧ y.cls ≠ "java/lang/invoke/VarHandle") {rm : Room} {a : Addr} {argsL rest : List Value} (E : Exa Z h a y.cls)
    (K : own_Ctr l Z y bytes maxL rt [] rm (.ref a :: argsL).toArray h Q) (eT : T.heap = h) {g : JFrame} (hg : g.method = m) (hsize : g.locals.size = c.maxLocals)
    (hlen : ∀ sig, parseMethodDescriptor y.desc = some sig → argsL.length = sig.parameters.length) (hst : g.stack = argsL.reverse ++ .ref a :: rest) {W : Nat} (hW : 2 * g.monitorRoom + (rest.map fun v => v.category).sum ≤ W)
    (hd : decode c.code g.pc = .ok (.invokevirtual index, 3)) (hf : rm.frames + 1 ≤ R.frames) (hlo : W + (maxL + 11) + rm.locals ≤ R.locals) (hc : cells + rm.cells ≤ R.cells) (hs : slots + rm.slots ≤ R.slots) :
    ∃ T' L v, Stand p l e R s m args below meth c T' (locs ++ L) (cells + rm.cells) (slots + rm.slots) ∧ Q v T'.heap L ∧ ∀ target, Steps p.tables e below (T'.setTop { g with pc := g.pc + 3, stack := v.toList ++ rest }) target → Steps p.tables e below (T.setTop g) target := by
  obtain ⟨cq, kq, qa, qb, qc⟩ := isOf hZ eT E
  obtain ⟨v, _, ⟨T', L', k', n'⟩, -, X', ⟨L, hQ, l1, y1, z1⟩, st⟩ := X.virtualBack hx (y := y) (z := y) hown (mvT hZ w1) (mvT hZ w2) (notFace_of_selects (args := #[]) (mvT hZ w5)) (mvT hZ w5) (mvT hZ w6) hy (backOf (W := W) K hZ w3 w4 hf hlo) qa qc (g := g) hg hsize (Steps.refl _) (argsL := argsL) (rest := rest) hlen hst hW hd (fun _ _ => ⟨rfl, eT, hc, hs⟩)
  dsimp only [Pt.U, Pt.locs, Pt.cells, Pt.slots] at X' l1 y1 z1 st hQ
  subst l1 y1 z1
  exact ⟨T', L, v, X', hQ, fun t k => st.trans k⟩
/-- a field is still there behind a write, whatever it holds -/
theorem own_any {h h' : Heap} {a b : Addr} {sl : Nat} {v w : Value} {C0 n d : String} (W : Wr h h' a sl v) (F : Fld Z h b C0 n d w) : ∃ w', Fld Z h' b C0 n d w' := by
  obtain ⟨cell, cf, k, i, f, h1, h2, h3, h4, h5, h6, h7⟩ := F
  obtain ⟨c', e1, e2, e3, e4, -⟩ := wr_at W h1
  have hl := (Array.getElem?_eq_some_iff.mp h7).1
  exact ⟨_, c', cf, k, i, f, e1, h2, h3, by rw [e3]; exact h4, by rw [e3]; exact h5, by rw [e2]; exact h6, Array.getElem?_eq_getElem (by rw [e4]; exact hl)⟩
end OwnBase
/-! own layer, the wide end: walks that load String constants -/
section OwnWide
def own_FW (s : State) (Q : Option Value → Heap → List Loc → Prop) (C S : Nat) (o : Outcome) (U : State) : Prop := ∃ v L, o = .returned v ∧ Q v U.heap L ∧ ReturnedEndW s o U L C S
abbrev own_CtrW (l : Launch) (Z : State) (y : MethodName) (bytes : ByteArray) (ml : Nat) (rt : Option FieldType) (ws : List Jvm.Cond) (rm : Room) (as : Array Value) (h0 : Heap) (Q : Option Value → Heap → List Loc → Prop) : Prop :=
  MetFree l y (head1 (Jvm.Cond.code y bytes ml rt :: ws) rm) (fun a U => a = as ∧ Z.Warmed39 U.vm ∧ U.heap = h0) (fun _ _ _ _ _ => True) (fun _ U o U' => ∃ v L, o = .returned v ∧ Q v U'.heap L ∧ ReturnedEndW U o U' L rm.cells rm.slots)
theorem own_enterW {l : Launch} {Z : State} {y : MethodName} {bytes : ByteArray} {ml : Nat} {rt : Option FieldType} {ws : List Jvm.Cond} {rm : Room} {as : Array Value} {h0 : Heap} {Q : Option Value → Heap → List Loc → Prop} (hp : plainFor y = true)
    (body : ∀ (p : Program) (e : Env) (s : State) (m : MethodId) (below : List Frame) (meth : Method) (c : Code) (s₁ : State), BodyLoose p l y (head1 (Jvm.Cond.code y bytes ml rt :: ws) rm) bytes ml rt e s m as below meth c s₁ → Z.Warmed39 s.vm → c.maxLocals = ml → Stand p l e rm s m as below meth c s₁ [] 0 0 → s₁.heap = h0 →
      own_Ends p.tables e below (own_FW s Q rm.cells rm.slots) (s₁.setTop (entryFrame m as ml))) : own_CtrW l Z y bytes ml rt ws rm as h0 Q := by
  refine MetFree.of_bodySF hp hisR ?_
  intro p e s m args below meth c s₁ Bd hml0 hP hK
  obtain ⟨rfl, hZ, hh⟩ := hP
  have e0 : s₁.heap = h0 := by rw [← hh, Bd.state]; rfl
  exact body p e s m below meth c s₁ Bd hZ hml0 (Stand.of_body Bd) e0
variable {p : Program} {l : Launch} {e : Env} {R : Room} {s : State} {vm0 : Vm} {m : MethodId} {args : Array Value} {below : List Frame} {meth : Method} {c : Code} {T : State} {locs : List Loc} {cells slots : Nat} {Z : State} {a0 : Array Value} {h : Heap} {Q : Option Value → Heap → List Loc → Prop} {C S : Nat}
theorem own_retW (X : Stand p l e R (s.setVm vm0) m args below meth c T locs cells slots) {n : Nat} (hS : s.Since vm0 n) (hn : n ≤ T.heap.size) {v : Option Value} {g : JFrame} (hv : meth.sig.returnType = none → v = none) (hlocks : meth.locks = false)
    (st : ∀ fs, (∀ (f : JFrame) (acts : List Action), f.method = m → f.locked = none → f.entered = [] → (doReturn e (T.setTop f) acts v).1 = T.setFrames fs) → Steps p.tables e below (T.setTop g) (T.setFrames fs)) (hc : cells ≤ C) (hs : slots ≤ S) (q : Q v T.heap locs) :
    own_Ends p.tables e below (own_FW s Q C S) (T.setTop g) := by
  obtain ⟨fs, hr, hrun, hended, he⟩ := X.leaveW hS hn (v := v) hv hlocks
  exact ⟨_, _, st fs hr, hrun, hended, v, locs, rfl, q, he.1, he.2.1, he.2.2.1, he.2.2.2.mono hc hs⟩
theorem own_retZW (X : Stand p l e R (s.setVm vm0) m args below meth c T locs cells slots) {n : Nat} (hS : s.Since vm0 n) (hn : n ≤ T.heap.size) (hx : p.tables.exec = Jvm.exec) (hret : meth.sig.returnType = some .boolean) (hlocks : meth.locks = false) {pc : Nat} {Ls : Array Slot} {z : Int32} {rest : List Value} (hz : nar .boolean z = z) (hd : decode c.code pc = .ok (.ireturn, 1)) (hc : cells ≤ C) (hs : slots ≤ S) (q : Q (some (.int z)) T.heap locs) :
    own_Ends p.tables e below (own_FW s Q C S) (T.setTop (mkF m pc Ls (.int z :: rest))) :=
  own_retW X hS hn (v := some (.int z)) (fun q => by rw [hret] at q; cases q) hlocks (fun fs hr => retN X hx (t := .boolean) hret (by simp) hd (by rw [hz]; exact hr)) hc hs q
theorem own_retAW (X : Stand p l e R (s.setVm vm0) m args below meth c T locs cells slots) {n : Nat} (hS : s.Since vm0 n) (hn : n ≤ T.heap.size) (hx : p.tables.exec = Jvm.exec) {t : FieldType} (hret : meth.sig.returnType = some t) (hlocks : meth.locks = false) {pc : Nat} {Ls : Array Slot} {w : Value} {rest : List Value} (hd : decode c.code pc = .ok (.areturn, 1)) (ht : t.isReference = true) (hw : w.isRef = true) (hc : cells ≤ C) (hs : slots ≤ S) (q : Q (some w) T.heap locs) :
    own_Ends p.tables e below (own_FW s Q C S) (T.setTop (mkF m pc Ls (w :: rest))) :=
  own_retW X hS hn (v := some w) (fun q => by rw [hret] at q; cases q) hlocks (fun fs hr => retOut X hx hret (by cases t <;> first | (cases ht; done) | (cases w <;> first | (cases hw; done) | rfl)) (Or.inr (Or.inr (Or.inr (Or.inr ⟨rfl, ht, hw⟩)))) hd hr) hc hs q
end OwnWide
section OwnMore
variable {p : Program} {l : Launch} {e : Env} {R : Room} {s : State} {vm0 : Vm} {m : MethodId} {args : Array Value} {below : List Frame} {meth : Method} {c : Code} {T : State} {locs : List Loc} {cells slots : Nat} {Z : State} {a0 : Array Value} {h : Heap} {Q : Option Value → Heap → List Loc → Prop}
/-- a private method called by invokevirtual; that its class is no interface comes of another method's word -/
theorem own_private (X : Stand p l e R s m args below meth c T locs cells slots) (hx : p.tables.exec = Jvm.exec) (hZ : Z.Warmed39 s.vm) {own C0 : String} {index : Nat} {y x0 z0 : MethodName} (hown : s.vm.findClass own = some m.cls)
    (w1 : (Jvm.Cond.methodLink own index y).before a0 Z = true) (w2 : (Jvm.Cond.instanceMethod y).before a0 Z = true) (w5 : (Jvm.Cond.selects C0 x0 z0).before a0 Z = true) (hz0 : z0.cls = y.cls) (w6 : (Jvm.Cond.privateMethod y).before a0 Z = true) {bytes : ByteArray} {maxL : Nat} {rt : Option FieldType} (w3 : (Jvm.Cond.code y bytes maxL rt).before a0 Z = true) (w4 : (Jvm.Cond.initialized y.cls).before a0 Z = true)
    (hy : y.cls ≠ "java/lang/invoke/MethodHandle" ∧ y.cls ≠ "java/lang/invoke/VarHandle") {rm : Room} {a : Addr} {argsL rest : List Value} {C1 : String} (E : Exa Z h a C1)
    (K : own_Ctr l Z y bytes maxL rt [] rm (.ref a :: argsL).toArray h Q) (eT : T.heap = h) {g : JFrame} (hg : g.method = m) (hsize : g.locals.size = c.maxLocals)
    (hlen : ∀ sig, parseMethodDescriptor y.desc = some sig → argsL.length = sig.parameters.length) (hst : g.stack = argsL.reverse ++ .ref a :: rest) {W : Nat} (hW : 2 * g.monitorRoom + (rest.map fun v => v.category).sum ≤ W)
    (hd : decode c.code g.pc = .ok (.invokevirtual index, 3)) (hf : rm.frames + 1 ≤ R.frames) (hlo : W + (maxL + 11) + rm.locals ≤ R.locals) (hc : cells + rm.cells ≤ R.cells) (hs : slots + rm.slots ≤ R.slots) :
    ∃ T' L v, Stand p l e R s m args below meth c T' (locs ++ L) (cells + rm.cells) (slots + rm.slots) ∧ Q v T'.heap L ∧ ∀ target, Steps p.tables e below (T'.setTop { g with pc := g.pc + 3, stack := v.toList ++ rest }) target → Steps p.tables e below (T.setTop g) target := by
  have v2 : (Jvm.Cond.instanceMethod y).before args s = true := mvT hZ w2
  have v3 : (Jvm.Cond.code y bytes maxL rt).before args s = true := mvT hZ w3
  have v5 : (Jvm.Cond.selects C0 x0 z0).before args s = true := mvT hZ w5
  obtain ⟨mk, methM, hnamed, hmethM, hstM, habM⟩ := Cond.instanceMethod_spec v2
  obtain ⟨methM', cM, hmethM', -, -, -, -, -, -, hsigM⟩ := Cond.code_spec hnamed v3
  cases hmethM.symm.trans hmethM'
  obtain ⟨c2, r2, m2, -, -, q3, -, kP, hkP, hkPi⟩ := Cond.selects_spec v5
  have e1 := findClass_of_methodNamed q3
  have e2 := findClass_of_methodNamed hnamed
  rw [hz0] at e1
  rw [Option.some.inj (e1.symm.trans e2)] at hkP
  have hpr : s.PrivateAt y := Cond.privateMethod_at (mvP hZ w6 (args := args))
  obtain ⟨cell, hcell, hobj⟩ := E.cell
  have hselP : selectMethod e.platform s.vm cell.cls mk = .method mk := selectMethod_private hmethM (hpr mk methM hnamed hmethM)
  obtain ⟨vm₁, X₁, hstep₁⟩ := X.invokevirtual hx hown (mvT hZ w1) hnamed hmethM hstM hkP hkPi hy (a := a) (cell := cell) (by rw [eT]; exact hcell) hobj hselP hmethM habM hkP hkPi (g := g) hg (argsL := argsL) (rest := rest) (hlen _ hsigM) hst hd
  obtain ⟨v, ⟨T', L', k', n'⟩, X', ⟨L, hQ, l1, y1, z1⟩, hsteps⟩ := backOf (args := args) (W := W) (len := 3) K hZ w3 w4 hf hlo m meth c (T.setVm vm₁, locs, cells, slots) { g with stack := rest } (.invokevirtual index) mk (.ref a :: argsL).toArray X₁ hg hsize hd hW (X₁.named hnamed) ⟨rfl, eT, hc, hs⟩
  dsimp only [Pt.U, Pt.locs, Pt.cells, Pt.slots] at X' l1 y1 z1 hsteps hQ
  subst l1 y1 z1
  exact ⟨T', L, v, X', hQ, fun t k => (hstep₁ _ fun acts => by rw [doInvoke_state]; exact Steps.refl _).trans (hsteps.trans k)⟩
/-- a method that the superclass declares, called on an object of the subclass -/
theorem own_virtualUp (X : Stand p l e R s m args below meth c T locs cells slots) (hx : p.tables.exec = Jvm.exec) (hZ : Z.Warmed39 s.vm) {own owner : String} {index : Nat} {x0 y : MethodName} (hown : s.vm.findClass own = some m.cls)
    (w1 : (Jvm.Cond.methodLink own index x0).before a0 Z = true) (w2 : (Jvm.Cond.sameMethod x0.cls owner x0.name x0.desc).before a0 Z = true) (w7 : (Jvm.Cond.declares ⟨owner, x0.name, x0.desc⟩).before a0 Z = true) (ho : owner ≠ "java/lang/invoke/MethodHandle" ∧ owner ≠ "java/lang/invoke/VarHandle")
    (w5 : (Jvm.Cond.selects x0.cls x0 y).before a0 Z = true) (w6 : (Jvm.Cond.instanceMethod y).before a0 Z = true) {bytes : ByteArray} {maxL : Nat} {rt : Option FieldType} (w3 : (Jvm.Cond.code y bytes maxL rt).before a0 Z = true) (w4 : (Jvm.Cond.initialized y.cls).before a0 Z = true)
    {rm : Room} {a : Addr} {argsL rest : List Value} (E : Exa Z h a x0.cls)
    (K : own_Ctr l Z y bytes maxL rt [] rm (.ref a :: argsL).toArray h Q) (eT : T.heap = h) {g : JFrame} (hg : g.method = m) (hsize : g.locals.size = c.maxLocals)
    (hlen : ∀ sig, parseMethodDescriptor x0.desc = some sig → argsL.length = sig.parameters.length) (hst : g.stack = argsL.reverse ++ .ref a :: rest) {W : Nat} (hW : 2 * g.monitorRoom + (rest.map fun v => v.category).sum ≤ W)
    (hd : decode c.code g.pc = .ok (.invokevirtual index, 3)) (hf : rm.frames + 1 ≤ R.frames) (hlo : W + (maxL + 11) + rm.locals ≤ R.locals) (hc : cells + rm.cells ≤ R.cells) (hs : slots + rm.slots ≤ R.slots) :
    ∃ T' L v, Stand p l e R s m args below meth c T' (locs ++ L) (cells + rm.cells) (slots + rm.slots) ∧ Q v T'.heap L ∧ ∀ target, Steps p.tables e below (T'.setTop { g with pc := g.pc + 3, stack := v.toList ++ rest }) target → Steps p.tables e below (T.setTop g) target := by
  obtain ⟨cq, kq, qa, qb, qc⟩ := isOf hZ eT E
  obtain ⟨v, _, ⟨T', L', k', n'⟩, -, X', ⟨L, hQ, l1, y1, z1⟩, st⟩ := X.virtualBackUp hx (owner := owner) (x := x0) (y := y) hown (mvT hZ w1) (mvT hZ w2) (mvT hZ w7) ho (mvT hZ w5) (mvT hZ w6) (backOf (W := W) K hZ w3 w4 hf hlo) qa qc (g := g) hg hsize (Steps.refl _) (argsL := argsL) (rest := rest) hlen hst hW hd (fun _ _ => ⟨rfl, eT, hc, hs⟩)
  dsimp only [Pt.U, Pt.locs, Pt.cells, Pt.slots] at X' l1 y1 z1 st hQ
  subst l1 y1 z1
  exact ⟨T', L, v, X', hQ, fun t k => st.trans k⟩
/-- .. where the callee may load String constants -/
theorem own_virtualUpW (X : Stand p l e R (s.setVm vm0) m args below meth c T locs cells slots) (hx : p.tables.exec = Jvm.exec) (hZ : Z.Warmed39 (s.setVm vm0).vm) {k0 : Nat} (hS : s.Since vm0 k0) (hk : k0 ≤ T.heap.size) {own owner : String} {index : Nat} {x0 y : MethodName} (hown : (s.setVm vm0).vm.findClass own = some m.cls)
    (w1 : (Jvm.Cond.methodLink own index x0).before a0 Z = true) (w2 : (Jvm.Cond.sameMethod x0.cls owner x0.name x0.desc).before a0 Z = true) (w7 : (Jvm.Cond.declares ⟨owner, x0.name, x0.desc⟩).before a0 Z = true) (ho : owner ≠ "java/lang/invoke/MethodHandle" ∧ owner ≠ "java/lang/invoke/VarHandle")
    (w5 : (Jvm.Cond.selects x0.cls x0 y).before a0 Z = true) (w6 : (Jvm.Cond.instanceMethod y).before a0 Z = true) {bytes : ByteArray} {maxL : Nat} {rt : Option FieldType} (w3 : (Jvm.Cond.code y bytes maxL rt).before a0 Z = true) (w4 : (Jvm.Cond.initialized y.cls).before a0 Z = true)
    {rm : Room} {a : Addr} {argsL rest : List Value} (E : Exa Z h a x0.cls)
    (K : own_CtrW l Z y bytes maxL rt [] rm (.ref a :: argsL).toArray h Q) (eT : T.heap = h) {g : JFrame} (hg : g.method = m) (hsize : g.locals.size = c.maxLocals)
    (hlen : ∀ sig, parseMethodDescriptor x0.desc = some sig → argsL.length = sig.parameters.length) (hst : g.stack = argsL.reverse ++ .ref a :: rest) {W : Nat} (hW : 2 * g.monitorRoom + (rest.map fun v => v.category).sum ≤ W)
    (hd : decode c.code g.pc = .ok (.invokevirtual index, 3)) (hf : rm.frames + 1 ≤ R.frames) (hlo : W + (maxL + 11) + rm.locals ≤ R.locals) (hc : cells + rm.cells ≤ R.cells) (hs : slots + rm.slots ≤ R.slots) :
    ∃ T' L v, Stand p l e R (s.setVm T'.vm) m args below meth c T' (locs ++ L) (cells + rm.cells) (slots + rm.slots) ∧ s.Since T'.vm T'.heap.size ∧ Z.Warmed39 (s.setVm T'.vm).vm ∧ (s.setVm T'.vm).vm.findClass own = some m.cls ∧ Q v T'.heap L ∧ ∀ target, Steps p.tables e below (T'.setTop { g with pc := g.pc + 3, stack := v.toList ++ rest }) target → Steps p.tables e below (T.setTop g) target := by
  obtain ⟨cq, kq, qa, qb, qc⟩ := isOf hZ eT E
  obtain ⟨v, _, ⟨T', L', k', n'⟩, -, X', hS', hgr, ⟨L, hQ, l1, y1, z1⟩, st⟩ := virtualBackUpS X hx (owner := owner) (x := x0) (y := y) hown (mvT hZ w1) (mvT hZ w2) (mvT hZ w7) ho (mvT hZ w5) (mvT hZ w6) (backOfS (W := W) K hZ w3 w4 hf hlo) qa qc (g := g) hg hsize (Steps.refl _) (argsL := argsL) (rest := rest) hlen hst hW hd (fun _ _ => ⟨rfl, eT, hc, hs⟩)
  dsimp only [Pt.U, Pt.locs, Pt.cells, Pt.slots] at X' l1 y1 z1 st hQ hS' hgr
  subst l1 y1 z1
  exact ⟨T', L, v, X', hS.trans hS' (Nat.le_trans hk hgr), State.Warmed39.trans (t := s.setVm vm0) hZ hS'.1, by rw [show (s.setVm T'.vm).vm = T'.vm from rfl, hS'.1.alike.findClass]; exact hown, hQ, fun t k => st.trans k⟩
end OwnMore
theorem d1_0 : decode jdk_2316_method_4_code 0 = .ok (.lload_n 0, 1) := by decide +kernel
theorem d1_1 : decode jdk_2316_method_4_code 1 = .ok (.iconst 0, 1) := by decide +kernel
theorem d1_2 : decode jdk_2316_method_4_code 2 = .ok (.invokestatic 10, 3) := by decide +kernel
theorem d1_5 : decode jdk_2316_method_4_code 5 = .ok (.areturn, 1) := by decide +kernel
theorem pn_d1 : plainName "java/time/Duration" = true := by first | (simp [plainName, overriddenIn]; done) | decide +kernel
theorem pd_d1 : parseMethodDescriptor "(J)Ljava/time/Duration;" = some ⟨[.long], some (.object "java/time/Duration")⟩ := by decide +kernel
theorem d2_0 : decode jdk_2316_method_16_code 0 = .ok (.lload_n 0, 1) := by decide +kernel
theorem d2_1 : decode jdk_2316_method_16_code 1 = .ok (.iload_n 2, 1) := by decide +kernel
theorem d2_2 : decode jdk_2316_method_16_code 2 = .ok (.i2l, 1) := by decide +kernel
theorem d2_3 : decode jdk_2316_method_16_code 3 = .ok (.lor, 1) := by decide +kernel
theorem d2_4 : decode jdk_2316_method_16_code 4 = .ok (.lconst 0, 1) := by decide +kernel
theorem d2_5 : decode jdk_2316_method_16_code 5 = .ok (.lcmp, 1) := by decide +kernel
theorem d2_6 : decode jdk_2316_method_16_code 6 = .ok (.ifCond .ne 7, 3) := by decide +kernel
theorem d2_9 : decode jdk_2316_method_16_code 9 = .ok (.getstatic 32, 3) := by decide +kernel
theorem d2_12 : decode jdk_2316_method_16_code 12 = .ok (.areturn, 1) := by decide +kernel
theorem d2_13 : decode jdk_2316_method_16_code 13 = .ok (.new 11, 3) := by decide +kernel
theorem d2_16 : decode jdk_2316_method_16_code 16 = .ok (.dup, 1) := by decide +kernel
theorem d2_17 : decode jdk_2316_method_16_code 17 = .ok (.lload_n 0, 1) := by decide +kernel
theorem d2_18 : decode jdk_2316_method_16_code 18 = .ok (.iload_n 2, 1) := by decide +kernel
theorem d2_19 : decode jdk_2316_method_16_code 19 = .ok (.invokespecial 215, 3) := by decide +kernel
theorem d2_22 : decode jdk_2316_method_16_code 22 = .ok (.areturn, 1) := by decide +kernel
theorem pn_d2 : plainName "java/time/Duration" = true := by first | (simp [plainName, overriddenIn]; done) | decide +kernel
theorem pd_d2 : parseMethodDescriptor "(JI)Ljava/time/Duration;" = some ⟨[.long, .int], some (.object "java/time/Duration")⟩ := by decide +kernel
theorem d3_0 : decode jdk_2316_method_17_code 0 = .ok (.aload_n 0, 1) := by decide +kernel
theorem d3_1 : decode jdk_2316_method_17_code 1 = .ok (.invokespecial 218, 3) := by decide +kernel
theorem d3_4 : decode jdk_2316_method_17_code 4 = .ok (.aload_n 0, 1) := by decide +kernel
theorem d3_5 : decode jdk_2316_method_17_code 5 = .ok (.lload_n 1, 1) := by decide +kernel
theorem d3_6 : decode jdk_2316_method_17_code 6 = .ok (.putfield 221, 3) := by decide +kernel
theorem d3_9 : decode jdk_2316_method_17_code 9 = .ok (.aload_n 0, 1) := by decide +kernel
theorem d3_10 : decode jdk_2316_method_17_code 10 = .ok (.iload_n 3, 1) := by decide +kernel
theorem d3_11 : decode jdk_2316_method_17_code 11 = .ok (.putfield 224, 3) := by decide +kernel
theorem d3_14 : decode jdk_2316_method_17_code 14 = .ok (.return_, 1) := by decide +kernel
theorem pn_d3 : plainName "java/time/Duration" = true := by first | (simp [plainName, overriddenIn]; done) | decide +kernel
theorem pd_d3 : parseMethodDescriptor "(JI)V" = some ⟨[.long, .int], none⟩ := by decide +kernel
theorem d5_0 : decode method_1_code 0 = .ok (.aload_n 0, 1) := by decide +kernel
theorem d5_1 : decode method_1_code 1 = .ok (.invokespecial 1, 3) := by decide +kernel
theorem d5_4 : decode method_1_code 4 = .ok (.return_, 1) := by decide +kernel
theorem pn_d5 : plainName "com/example/libgate/libgate/BucketBuilderBurstPinLaw" = true := by first | (simp [plainName, overriddenIn]; done) | decide +kernel
theorem pd_d5 : parseMethodDescriptor "()V" = some ⟨[], none⟩ := by decide +kernel
theorem d6_0 : decode prog_1_method_1_code 0 = .ok (.aload_n 0, 1) := by decide +kernel
theorem d6_1 : decode prog_1_method_1_code 1 = .ok (.invokespecial 1, 3) := by decide +kernel
theorem d6_4 : decode prog_1_method_1_code 4 = .ok (.aload_n 0, 1) := by decide +kernel
theorem d6_5 : decode prog_1_method_1_code 5 = .ok (.iconst (-1), 1) := by decide +kernel
theorem d6_6 : decode prog_1_method_1_code 6 = .ok (.putfield 9, 3) := by decide +kernel
theorem d6_9 : decode prog_1_method_1_code 9 = .ok (.return_, 1) := by decide +kernel
theorem pn_d6 : plainName "com/example/libgate/libgate/BucketBuilder" = true := by first | (simp [plainName, overriddenIn]; done) | decide +kernel
theorem pd_d6 : parseMethodDescriptor "()V" = some ⟨[], none⟩ := by decide +kernel
theorem d7_0 : decode prog_1_method_2_code 0 = .ok (.iload_n 1, 1) := by decide +kernel
theorem d7_1 : decode prog_1_method_2_code 1 = .ok (.invokestatic 15, 3) := by decide +kernel
theorem d7_4 : decode prog_1_method_2_code 4 = .ok (.aload_n 2, 1) := by decide +kernel
theorem d7_5 : decode prog_1_method_2_code 5 = .ok (.ldc 21, 2) := by decide +kernel
theorem d7_7 : decode prog_1_method_2_code 7 = .ok (.invokestatic 23, 3) := by decide +kernel
theorem d7_10 : decode prog_1_method_2_code 10 = .ok (.pop, 1) := by decide +kernel
theorem d7_11 : decode prog_1_method_2_code 11 = .ok (.aload_n 2, 1) := by decide +kernel
theorem d7_12 : decode prog_1_method_2_code 12 = .ok (.invokevirtual 29, 3) := by decide +kernel
theorem d7_15 : decode prog_1_method_2_code 15 = .ok (.ifCond .ne 10, 3) := by decide +kernel
theorem d7_18 : decode prog_1_method_2_code 18 = .ok (.aload_n 2, 1) := by decide +kernel
theorem d7_19 : decode prog_1_method_2_code 19 = .ok (.invokevirtual 35, 3) := by decide +kernel
theorem d7_22 : decode prog_1_method_2_code 22 = .ok (.ifCond .eq 20, 3) := by decide +kernel
theorem d7_25 : decode prog_1_method_2_code 25 = .ok (.new 38, 3) := by decide +kernel
theorem d7_28 : decode prog_1_method_2_code 28 = .ok (.dup, 1) := by decide +kernel
theorem d7_29 : decode prog_1_method_2_code 29 = .ok (.aload_n 2, 1) := by decide +kernel
theorem d7_30 : decode prog_1_method_2_code 30 = .ok (.invokestatic 40, 3) := by decide +kernel
theorem d7_33 : decode prog_1_method_2_code 33 = .ok (.invokedynamic 46, 5) := by decide +kernel
theorem d7_38 : decode prog_1_method_2_code 38 = .ok (.invokespecial 50, 3) := by decide +kernel
theorem d7_41 : decode prog_1_method_2_code 41 = .ok (.athrow, 1) := by decide +kernel
theorem d7_42 : decode prog_1_method_2_code 42 = .ok (.aload_n 0, 1) := by decide +kernel
theorem d7_43 : decode prog_1_method_2_code 43 = .ok (.iload_n 1, 1) := by decide +kernel
theorem d7_44 : decode prog_1_method_2_code 44 = .ok (.i2d, 1) := by decide +kernel
theorem d7_45 : decode prog_1_method_2_code 45 = .ok (.aload_n 2, 1) := by decide +kernel
theorem d7_46 : decode prog_1_method_2_code 46 = .ok (.invokestatic 53, 3) := by decide +kernel
theorem d7_49 : decode prog_1_method_2_code 49 = .ok (.ddiv, 1) := by decide +kernel
theorem d7_50 : decode prog_1_method_2_code 50 = .ok (.putfield 57, 3) := by decide +kernel
theorem d7_53 : decode prog_1_method_2_code 53 = .ok (.aload_n 0, 1) := by decide +kernel
theorem d7_54 : decode prog_1_method_2_code 54 = .ok (.invokevirtual 61, 3) := by decide +kernel
theorem d7_57 : decode prog_1_method_2_code 57 = .ok (.areturn, 1) := by decide +kernel
theorem pn_d7 : plainName "com/example/libgate/libgate/BucketBuilder" = true := by first | (simp [plainName, overriddenIn]; done) | decide +kernel
theorem pd_d7 : parseMethodDescriptor "(ILjava/time/Duration;)Lcom/example/libgate/libgate/BucketBuilder;" = some ⟨[.int, (.object "java/time/Duration")], some (.object "com/example/libgate/libgate/BucketBuilder")⟩ := by decide +kernel
theorem d8_0 : decode prog_8_method_2_code 0 = .ok (.iload_n 0, 1) := by decide +kernel
theorem d8_1 : decode prog_8_method_2_code 1 = .ok (.ifCond .gt 17, 3) := by decide +kernel
theorem d8_4 : decode prog_8_method_2_code 4 = .ok (.new 7, 3) := by decide +kernel
theorem d8_7 : decode prog_8_method_2_code 7 = .ok (.dup, 1) := by decide +kernel
theorem d8_8 : decode prog_8_method_2_code 8 = .ok (.iload_n 0, 1) := by decide +kernel
theorem d8_9 : decode prog_8_method_2_code 9 = .ok (.invokedynamic 9, 5) := by decide +kernel
theorem d8_14 : decode prog_8_method_2_code 14 = .ok (.invokespecial 13, 3) := by decide +kernel
theorem d8_17 : decode prog_8_method_2_code 17 = .ok (.athrow, 1) := by decide +kernel
theorem d8_18 : decode prog_8_method_2_code 18 = .ok (.return_, 1) := by decide +kernel
theorem pn_d8 : plainName "com/example/libgate/libgate/Requests" = true := by first | (simp [plainName, overriddenIn]; done) | decide +kernel
theorem pd_d8 : parseMethodDescriptor "(I)V" = some ⟨[.int], none⟩ := by decide +kernel
theorem d9_0 : decode jdk_31_method_11_code 0 = .ok (.aload_n 0, 1) := by decide +kernel
theorem d9_1 : decode jdk_31_method_11_code 1 = .ok (.ifnonnull 12, 3) := by decide +kernel
theorem d9_4 : decode jdk_31_method_11_code 4 = .ok (.new 84, 3) := by decide +kernel
theorem d9_7 : decode jdk_31_method_11_code 7 = .ok (.dup, 1) := by decide +kernel
theorem d9_8 : decode jdk_31_method_11_code 8 = .ok (.aload_n 1, 1) := by decide +kernel
theorem d9_9 : decode jdk_31_method_11_code 9 = .ok (.invokespecial 87, 3) := by decide +kernel
theorem d9_12 : decode jdk_31_method_11_code 12 = .ok (.athrow, 1) := by decide +kernel
theorem d9_13 : decode jdk_31_method_11_code 13 = .ok (.aload_n 0, 1) := by decide +kernel
theorem d9_14 : decode jdk_31_method_11_code 14 = .ok (.areturn, 1) := by decide +kernel
theorem pn_d9 : plainName "java/util/Objects" = true := by first | (simp [plainName, overriddenIn]; done) | decide +kernel
theorem pd_d9 : parseMethodDescriptor "(Ljava/lang/Object;Ljava/lang/String;)Ljava/lang/Object;" = some ⟨[(.object "java/lang/Object"), (.object "java/lang/String")], some (.object "java/lang/Object")⟩ := by decide +kernel
theorem d10_0 : decode jdk_2316_method_21_code 0 = .ok (.aload_n 0, 1) := by decide +kernel
theorem d10_1 : decode jdk_2316_method_21_code 1 = .ok (.getfield 221, 3) := by decide +kernel
theorem d10_4 : decode jdk_2316_method_21_code 4 = .ok (.aload_n 0, 1) := by decide +kernel
theorem d10_5 : decode jdk_2316_method_21_code 5 = .ok (.getfield 224, 3) := by decide +kernel
theorem d10_8 : decode jdk_2316_method_21_code 8 = .ok (.i2l, 1) := by decide +kernel
theorem d10_9 : decode jdk_2316_method_21_code 9 = .ok (.lor, 1) := by decide +kernel
theorem d10_10 : decode jdk_2316_method_21_code 10 = .ok (.lconst 0, 1) := by decide +kernel
theorem d10_11 : decode jdk_2316_method_21_code 11 = .ok (.lcmp, 1) := by decide +kernel
theorem d10_12 : decode jdk_2316_method_21_code 12 = .ok (.ifCond .ne 7, 3) := by decide +kernel
theorem d10_15 : decode jdk_2316_method_21_code 15 = .ok (.iconst 1, 1) := by decide +kernel
theorem d10_16 : decode jdk_2316_method_21_code 16 = .ok (.goto 4, 3) := by decide +kernel
theorem d10_19 : decode jdk_2316_method_21_code 19 = .ok (.iconst 0, 1) := by decide +kernel
theorem d10_20 : decode jdk_2316_method_21_code 20 = .ok (.ireturn, 1) := by decide +kernel
theorem pn_d10 : plainName "java/time/Duration" = true := by first | (simp [plainName, overriddenIn]; done) | decide +kernel
theorem pd_d10 : parseMethodDescriptor "()Z" = some ⟨[], some .boolean⟩ := by decide +kernel
theorem d11_0 : decode jdk_2316_method_22_code 0 = .ok (.aload_n 0, 1) := by decide +kernel
theorem d11_1 : decode jdk_2316_method_22_code 1 = .ok (.getfield 221, 3) := by decide +kernel
theorem d11_4 : decode jdk_2316_method_22_code 4 = .ok (.lconst 0, 1) := by decide +kernel
theorem d11_5 : decode jdk_2316_method_22_code 5 = .ok (.lcmp, 1) := by decide +kernel
theorem d11_6 : decode jdk_2316_method_22_code 6 = .ok (.ifCond .ge 7, 3) := by decide +kernel
theorem d11_9 : decode jdk_2316_method_22_code 9 = .ok (.iconst 1, 1) := by decide +kernel
theorem d11_10 : decode jdk_2316_method_22_code 10 = .ok (.goto 4, 3) := by decide +kernel
theorem d11_13 : decode jdk_2316_method_22_code 13 = .ok (.iconst 0, 1) := by decide +kernel
theorem d11_14 : decode jdk_2316_method_22_code 14 = .ok (.ireturn, 1) := by decide +kernel
theorem pn_d11 : plainName "java/time/Duration" = true := by first | (simp [plainName, overriddenIn]; done) | decide +kernel
theorem pd_d11 : parseMethodDescriptor "()Z" = some ⟨[], some .boolean⟩ := by decide +kernel
theorem d12_0 : decode prog_3_method_9_code 0 = .ok (.aload_n 0, 1) := by decide +kernel
theorem d12_1 : decode prog_3_method_9_code 1 = .ok (.invokevirtual 55, 3) := by decide +kernel
theorem d12_4 : decode prog_3_method_9_code 4 = .ok (.l2d, 1) := by decide +kernel
theorem d12_5 : decode prog_3_method_9_code 5 = .ok (.aload_n 0, 1) := by decide +kernel
theorem d12_6 : decode prog_3_method_9_code 6 = .ok (.invokevirtual 61, 3) := by decide +kernel
theorem d12_9 : decode prog_3_method_9_code 9 = .ok (.i2d, 1) := by decide +kernel
theorem d12_10 : decode prog_3_method_9_code 10 = .ok (.ldc2_w 20, 3) := by decide +kernel
theorem d12_13 : decode prog_3_method_9_code 13 = .ok (.ddiv, 1) := by decide +kernel
theorem d12_14 : decode prog_3_method_9_code 14 = .ok (.dadd, 1) := by decide +kernel
theorem d12_15 : decode prog_3_method_9_code 15 = .ok (.dreturn, 1) := by decide +kernel
theorem pn_d12 : plainName "com/example/libgate/libgate/BucketRate" = true := by first | (simp [plainName, overriddenIn]; done) | decide +kernel
theorem pd_d12 : parseMethodDescriptor "(Ljava/time/Duration;)D" = some ⟨[(.object "java/time/Duration")], some .double⟩ := by decide +kernel
theorem d13_0 : decode jdk_2316_method_23_code 0 = .ok (.aload_n 0, 1) := by decide +kernel
theorem d13_1 : decode jdk_2316_method_23_code 1 = .ok (.getfield 221, 3) := by decide +kernel
theorem d13_4 : decode jdk_2316_method_23_code 4 = .ok (.lreturn, 1) := by decide +kernel
theorem pn_d13 : plainName "java/time/Duration" = true := by first | (simp [plainName, overriddenIn]; done) | decide +kernel
theorem pd_d13 : parseMethodDescriptor "()J" = some ⟨[], some .long⟩ := by decide +kernel
theorem d14_0 : decode jdk_2316_method_24_code 0 = .ok (.aload_n 0, 1) := by decide +kernel
theorem d14_1 : decode jdk_2316_method_24_code 1 = .ok (.getfield 224, 3) := by decide +kernel
theorem d14_4 : decode jdk_2316_method_24_code 4 = .ok (.ireturn, 1) := by decide +kernel
theorem pn_d14 : plainName "java/time/Duration" = true := by first | (simp [plainName, overriddenIn]; done) | decide +kernel
theorem pd_d14 : parseMethodDescriptor "()I" = some ⟨[], some .int⟩ := by decide +kernel
theorem d15_0 : decode prog_1_method_5_code 0 = .ok (.aload_n 0, 1) := by decide +kernel
theorem d15_1 : decode prog_1_method_5_code 1 = .ok (.areturn, 1) := by decide +kernel
theorem pn_d15 : plainName "com/example/libgate/libgate/BucketBuilder" = true := by first | (simp [plainName, overriddenIn]; done) | decide +kernel
theorem pd_d15 : parseMethodDescriptor "()Lcom/example/libgate/libgate/BucketBuilder;" = some ⟨[], some (.object "com/example/libgate/libgate/BucketBuilder")⟩ := by decide +kernel
theorem d16_0 : decode prog_1_method_3_code 0 = .ok (.iload_n 1, 1) := by decide +kernel
theorem d16_1 : decode prog_1_method_3_code 1 = .ok (.ifCond .ge 17, 3) := by decide +kernel
theorem d16_4 : decode prog_1_method_3_code 4 = .ok (.new 38, 3) := by decide +kernel
theorem d16_7 : decode prog_1_method_3_code 7 = .ok (.dup, 1) := by decide +kernel
theorem d16_8 : decode prog_1_method_3_code 8 = .ok (.iload_n 1, 1) := by decide +kernel
theorem d16_9 : decode prog_1_method_3_code 9 = .ok (.invokedynamic 65, 5) := by decide +kernel
theorem d16_14 : decode prog_1_method_3_code 14 = .ok (.invokespecial 50, 3) := by decide +kernel
theorem d16_17 : decode prog_1_method_3_code 17 = .ok (.athrow, 1) := by decide +kernel
theorem d16_18 : decode prog_1_method_3_code 18 = .ok (.aload_n 0, 1) := by decide +kernel
theorem d16_19 : decode prog_1_method_3_code 19 = .ok (.iload_n 1, 1) := by decide +kernel
theorem d16_20 : decode prog_1_method_3_code 20 = .ok (.putfield 9, 3) := by decide +kernel
theorem d16_23 : decode prog_1_method_3_code 23 = .ok (.aload_n 0, 1) := by decide +kernel
theorem d16_24 : decode prog_1_method_3_code 24 = .ok (.invokevirtual 61, 3) := by decide +kernel
theorem d16_27 : decode prog_1_method_3_code 27 = .ok (.areturn, 1) := by decide +kernel
theorem pn_d16 : plainName "com/example/libgate/libgate/BucketBuilder" = true := by first | (simp [plainName, overriddenIn]; done) | decide +kernel
theorem pd_d16 : parseMethodDescriptor "(I)Lcom/example/libgate/libgate/BucketBuilder;" = some ⟨[.int], some (.object "com/example/libgate/libgate/BucketBuilder")⟩ := by decide +kernel
theorem d17_0 : decode prog_1_method_4_code 0 = .ok (.aload_n 0, 1) := by decide +kernel
theorem d17_1 : decode prog_1_method_4_code 1 = .ok (.getfield 57, 3) := by decide +kernel
theorem d17_4 : decode prog_1_method_4_code 4 = .ok (.dconst 0, 1) := by decide +kernel
theorem d17_5 : decode prog_1_method_4_code 5 = .ok (.dcmp .l, 1) := by decide +kernel
theorem d17_6 : decode prog_1_method_4_code 6 = .ok (.ifCond .ne 13, 3) := by decide +kernel
theorem d17_9 : decode prog_1_method_4_code 9 = .ok (.new 68, 3) := by decide +kernel
theorem d17_12 : decode prog_1_method_4_code 12 = .ok (.dup, 1) := by decide +kernel
theorem d17_13 : decode prog_1_method_4_code 13 = .ok (.ldc 70, 2) := by decide +kernel
theorem d17_15 : decode prog_1_method_4_code 15 = .ok (.invokespecial 72, 3) := by decide +kernel
theorem d17_18 : decode prog_1_method_4_code 18 = .ok (.athrow, 1) := by decide +kernel
theorem d17_19 : decode prog_1_method_4_code 19 = .ok (.aload_n 0, 1) := by decide +kernel
theorem d17_20 : decode prog_1_method_4_code 20 = .ok (.getfield 57, 3) := by decide +kernel
theorem d17_23 : decode prog_1_method_4_code 23 = .ok (.aload_n 0, 1) := by decide +kernel
theorem d17_24 : decode prog_1_method_4_code 24 = .ok (.getfield 9, 3) := by decide +kernel
theorem d17_27 : decode prog_1_method_4_code 27 = .ok (.invokestatic 73, 3) := by decide +kernel
theorem d17_30 : decode prog_1_method_4_code 30 = .ok (.areturn, 1) := by decide +kernel
theorem pn_d17 : plainName "com/example/libgate/libgate/BucketBuilder" = true := by first | (simp [plainName, overriddenIn]; done) | decide +kernel
theorem pd_d17 : parseMethodDescriptor "()Lcom/example/libgate/libgate/BucketRate;" = some ⟨[], some (.object "com/example/libgate/libgate/BucketRate")⟩ := by decide +kernel
theorem d18_0 : decode prog_3_method_2_code 0 = .ok (.new 8, 3) := by decide +kernel
theorem d18_3 : decode prog_3_method_2_code 3 = .ok (.dup, 1) := by decide +kernel
theorem d18_4 : decode prog_3_method_2_code 4 = .ok (.dload_n 0, 1) := by decide +kernel
theorem d18_5 : decode prog_3_method_2_code 5 = .ok (.iload_n 2, 1) := by decide +kernel
theorem d18_6 : decode prog_3_method_2_code 6 = .ok (.dconst 0, 1) := by decide +kernel
theorem d18_7 : decode prog_3_method_2_code 7 = .ok (.invokespecial 44, 3) := by decide +kernel
theorem d18_10 : decode prog_3_method_2_code 10 = .ok (.areturn, 1) := by decide +kernel
theorem pn_d18 : plainName "com/example/libgate/libgate/BucketRate" = true := by first | (simp [plainName, overriddenIn]; done) | decide +kernel
theorem pd_d18 : parseMethodDescriptor "(DI)Lcom/example/libgate/libgate/BucketRate;" = some ⟨[.double, .int], some (.object "com/example/libgate/libgate/BucketRate")⟩ := by decide +kernel
theorem d19_0 : decode prog_3_method_1_code 0 = .ok (.aload_n 0, 1) := by decide +kernel
theorem d19_1 : decode prog_3_method_1_code 1 = .ok (.invokespecial 1, 3) := by decide +kernel
theorem d19_4 : decode prog_3_method_1_code 4 = .ok (.aload_n 0, 1) := by decide +kernel
theorem d19_5 : decode prog_3_method_1_code 5 = .ok (.dload_n 1, 1) := by decide +kernel
theorem d19_6 : decode prog_3_method_1_code 6 = .ok (.putfield 7, 3) := by decide +kernel
theorem d19_9 : decode prog_3_method_1_code 9 = .ok (.aload_n 0, 1) := by decide +kernel
theorem d19_10 : decode prog_3_method_1_code 10 = .ok (.iload_n 3, 1) := by decide +kernel
theorem d19_11 : decode prog_3_method_1_code 11 = .ok (.putfield 13, 3) := by decide +kernel
theorem d19_14 : decode prog_3_method_1_code 14 = .ok (.aload_n 0, 1) := by decide +kernel
theorem d19_15 : decode prog_3_method_1_code 15 = .ok (.dload 4, 2) := by decide +kernel
theorem d19_17 : decode prog_3_method_1_code 17 = .ok (.putfield 17, 3) := by decide +kernel
theorem d19_20 : decode prog_3_method_1_code 20 = .ok (.aload_n 0, 1) := by decide +kernel
theorem d19_21 : decode prog_3_method_1_code 21 = .ok (.ldc2_w 20, 3) := by decide +kernel
theorem d19_24 : decode prog_3_method_1_code 24 = .ok (.dload_n 1, 1) := by decide +kernel
theorem d19_25 : decode prog_3_method_1_code 25 = .ok (.ddiv, 1) := by decide +kernel
theorem d19_26 : decode prog_3_method_1_code 26 = .ok (.putfield 22, 3) := by decide +kernel
theorem d19_29 : decode prog_3_method_1_code 29 = .ok (.dload 4, 2) := by decide +kernel
theorem d19_31 : decode prog_3_method_1_code 31 = .ok (.dconst 0, 1) := by decide +kernel
theorem d19_32 : decode prog_3_method_1_code 32 = .ok (.dcmp .l, 1) := by decide +kernel
theorem d19_33 : decode prog_3_method_1_code 33 = .ok (.ifCond .le 103, 3) := by decide +kernel
theorem d19_36 : decode prog_3_method_1_code 36 = .ok (.ldc2_w 25, 3) := by decide +kernel
theorem d19_39 : decode prog_3_method_1_code 39 = .ok (.aload_n 0, 1) := by decide +kernel
theorem d19_40 : decode prog_3_method_1_code 40 = .ok (.getfield 22, 3) := by decide +kernel
theorem d19_43 : decode prog_3_method_1_code 43 = .ok (.dmul, 1) := by decide +kernel
theorem d19_44 : decode prog_3_method_1_code 44 = .ok (.dstore 6, 2) := by decide +kernel
theorem d19_46 : decode prog_3_method_1_code 46 = .ok (.aload_n 0, 1) := by decide +kernel
theorem d19_47 : decode prog_3_method_1_code 47 = .ok (.ldc2_w 27, 3) := by decide +kernel
theorem d19_50 : decode prog_3_method_1_code 50 = .ok (.dload 4, 2) := by decide +kernel
theorem d19_52 : decode prog_3_method_1_code 52 = .ok (.dmul, 1) := by decide +kernel
theorem d19_53 : decode prog_3_method_1_code 53 = .ok (.aload_n 0, 1) := by decide +kernel
theorem d19_54 : decode prog_3_method_1_code 54 = .ok (.getfield 22, 3) := by decide +kernel
theorem d19_57 : decode prog_3_method_1_code 57 = .ok (.ddiv, 1) := by decide +kernel
theorem d19_58 : decode prog_3_method_1_code 58 = .ok (.putfield 29, 3) := by decide +kernel
theorem d19_61 : decode prog_3_method_1_code 61 = .ok (.aload_n 0, 1) := by decide +kernel
theorem d19_62 : decode prog_3_method_1_code 62 = .ok (.aload_n 0, 1) := by decide +kernel
theorem d19_63 : decode prog_3_method_1_code 63 = .ok (.getfield 29, 3) := by decide +kernel
theorem d19_66 : decode prog_3_method_1_code 66 = .ok (.ldc2_w 32, 3) := by decide +kernel
theorem d19_69 : decode prog_3_method_1_code 69 = .ok (.dload 4, 2) := by decide +kernel
theorem d19_71 : decode prog_3_method_1_code 71 = .ok (.dmul, 1) := by decide +kernel
theorem d19_72 : decode prog_3_method_1_code 72 = .ok (.aload_n 0, 1) := by decide +kernel
theorem d19_73 : decode prog_3_method_1_code 73 = .ok (.getfield 22, 3) := by decide +kernel
theorem d19_76 : decode prog_3_method_1_code 76 = .ok (.dload 6, 2) := by decide +kernel
theorem d19_78 : decode prog_3_method_1_code 78 = .ok (.dadd, 1) := by decide +kernel
theorem d19_79 : decode prog_3_method_1_code 79 = .ok (.ddiv, 1) := by decide +kernel
theorem d19_80 : decode prog_3_method_1_code 80 = .ok (.dadd, 1) := by decide +kernel
theorem d19_81 : decode prog_3_method_1_code 81 = .ok (.putfield 34, 3) := by decide +kernel
theorem d19_84 : decode prog_3_method_1_code 84 = .ok (.aload_n 0, 1) := by decide +kernel
theorem d19_85 : decode prog_3_method_1_code 85 = .ok (.getfield 34, 3) := by decide +kernel
theorem d19_88 : decode prog_3_method_1_code 88 = .ok (.aload_n 0, 1) := by decide +kernel
theorem d19_89 : decode prog_3_method_1_code 89 = .ok (.getfield 29, 3) := by decide +kernel
theorem d19_92 : decode prog_3_method_1_code 92 = .ok (.dsub, 1) := by decide +kernel
theorem d19_93 : decode prog_3_method_1_code 93 = .ok (.dstore 8, 2) := by decide +kernel
theorem d19_95 : decode prog_3_method_1_code 95 = .ok (.dload 8, 2) := by decide +kernel
theorem d19_97 : decode prog_3_method_1_code 97 = .ok (.dconst 0, 1) := by decide +kernel
theorem d19_98 : decode prog_3_method_1_code 98 = .ok (.dcmp .l, 1) := by decide +kernel
theorem d19_99 : decode prog_3_method_1_code 99 = .ok (.ifCond .le 29, 3) := by decide +kernel
theorem d19_102 : decode prog_3_method_1_code 102 = .ok (.dload 8, 2) := by decide +kernel
theorem d19_104 : decode prog_3_method_1_code 104 = .ok (.ldc2_w 39, 3) := by decide +kernel
theorem d19_107 : decode prog_3_method_1_code 107 = .ok (.dcmp .g, 1) := by decide +kernel
theorem d19_108 : decode prog_3_method_1_code 108 = .ok (.ifCond .ge 20, 3) := by decide +kernel
theorem d19_111 : decode prog_3_method_1_code 111 = .ok (.aload_n 0, 1) := by decide +kernel
theorem d19_112 : decode prog_3_method_1_code 112 = .ok (.dload 6, 2) := by decide +kernel
theorem d19_114 : decode prog_3_method_1_code 114 = .ok (.aload_n 0, 1) := by decide +kernel
theorem d19_115 : decode prog_3_method_1_code 115 = .ok (.getfield 22, 3) := by decide +kernel
theorem d19_118 : decode prog_3_method_1_code 118 = .ok (.dsub, 1) := by decide +kernel
theorem d19_119 : decode prog_3_method_1_code 119 = .ok (.dload 8, 2) := by decide +kernel
theorem d19_121 : decode prog_3_method_1_code 121 = .ok (.ddiv, 1) := by decide +kernel
theorem d19_122 : decode prog_3_method_1_code 122 = .ok (.putfield 41, 3) := by decide +kernel
theorem d19_125 : decode prog_3_method_1_code 125 = .ok (.goto 8, 3) := by decide +kernel
theorem d19_128 : decode prog_3_method_1_code 128 = .ok (.aload_n 0, 1) := by decide +kernel
theorem d19_129 : decode prog_3_method_1_code 129 = .ok (.dconst 0, 1) := by decide +kernel
theorem d19_130 : decode prog_3_method_1_code 130 = .ok (.putfield 41, 3) := by decide +kernel
theorem d19_133 : decode prog_3_method_1_code 133 = .ok (.goto 34, 3) := by decide +kernel
theorem d19_136 : decode prog_3_method_1_code 136 = .ok (.aload_n 0, 1) := by decide +kernel
theorem d19_137 : decode prog_3_method_1_code 137 = .ok (.dconst 0, 1) := by decide +kernel
theorem d19_138 : decode prog_3_method_1_code 138 = .ok (.putfield 29, 3) := by decide +kernel
theorem d19_141 : decode prog_3_method_1_code 141 = .ok (.aload_n 0, 1) := by decide +kernel
theorem d19_142 : decode prog_3_method_1_code 142 = .ok (.dconst 0, 1) := by decide +kernel
theorem d19_143 : decode prog_3_method_1_code 143 = .ok (.putfield 41, 3) := by decide +kernel
theorem d19_146 : decode prog_3_method_1_code 146 = .ok (.iload_n 3, 1) := by decide +kernel
theorem d19_147 : decode prog_3_method_1_code 147 = .ok (.iconst (-1), 1) := by decide +kernel
theorem d19_148 : decode prog_3_method_1_code 148 = .ok (.if_icmp .ne 13, 3) := by decide +kernel
theorem d19_151 : decode prog_3_method_1_code 151 = .ok (.aload_n 0, 1) := by decide +kernel
theorem d19_152 : decode prog_3_method_1_code 152 = .ok (.dload_n 1, 1) := by decide +kernel
theorem d19_153 : decode prog_3_method_1_code 153 = .ok (.dconst 1, 1) := by decide +kernel
theorem d19_154 : decode prog_3_method_1_code 154 = .ok (.dmul, 1) := by decide +kernel
theorem d19_155 : decode prog_3_method_1_code 155 = .ok (.putfield 34, 3) := by decide +kernel
theorem d19_158 : decode prog_3_method_1_code 158 = .ok (.goto 9, 3) := by decide +kernel
theorem d19_161 : decode prog_3_method_1_code 161 = .ok (.aload_n 0, 1) := by decide +kernel
theorem d19_162 : decode prog_3_method_1_code 162 = .ok (.iload_n 3, 1) := by decide +kernel
theorem d19_163 : decode prog_3_method_1_code 163 = .ok (.i2d, 1) := by decide +kernel
theorem d19_164 : decode prog_3_method_1_code 164 = .ok (.putfield 34, 3) := by decide +kernel
theorem d19_167 : decode prog_3_method_1_code 167 = .ok (.return_, 1) := by decide +kernel
theorem pn_d19 : plainName "com/example/libgate/libgate/BucketRate" = true := by first | (simp [plainName, overriddenIn]; done) | decide +kernel
theorem pd_d19 : parseMethodDescriptor "(DID)V" = some ⟨[.double, .int, .double], none⟩ := by decide +kernel
theorem d20_0 : decode prog_3_method_6_code 0 = .ok (.aload_n 0, 1) := by decide +kernel
theorem d20_1 : decode prog_3_method_6_code 1 = .ok (.getfield 34, 3) := by decide +kernel
theorem d20_4 : decode prog_3_method_6_code 4 = .ok (.dreturn, 1) := by decide +kernel
theorem pn_d20 : plainName "com/example/libgate/libgate/BucketRate" = true := by first | (simp [plainName, overriddenIn]; done) | decide +kernel
theorem pd_d20 : parseMethodDescriptor "()D" = some ⟨[], some .double⟩ := by decide +kernel
theorem d21_0 : decode prog_3_method_7_code 0 = .ok (.aload_n 0, 1) := by decide +kernel
theorem d21_1 : decode prog_3_method_7_code 1 = .ok (.getfield 17, 3) := by decide +kernel
theorem d21_4 : decode prog_3_method_7_code 4 = .ok (.dconst 0, 1) := by decide +kernel
theorem d21_5 : decode prog_3_method_7_code 5 = .ok (.dcmp .l, 1) := by decide +kernel
theorem d21_6 : decode prog_3_method_7_code 6 = .ok (.ifCond .le 7, 3) := by decide +kernel
theorem d21_9 : decode prog_3_method_7_code 9 = .ok (.iconst 1, 1) := by decide +kernel
theorem d21_10 : decode prog_3_method_7_code 10 = .ok (.goto 4, 3) := by decide +kernel
theorem d21_13 : decode prog_3_method_7_code 13 = .ok (.iconst 0, 1) := by decide +kernel
theorem d21_14 : decode prog_3_method_7_code 14 = .ok (.ireturn, 1) := by decide +kernel
theorem pn_d21 : plainName "com/example/libgate/libgate/BucketRate" = true := by first | (simp [plainName, overriddenIn]; done) | decide +kernel
theorem pd_d21 : parseMethodDescriptor "()Z" = some ⟨[], some .boolean⟩ := by decide +kernel
theorem pn_at : plainName "com/example/libgate/libgate/BucketBuilderBurstPinLaw" = true := by first | (simp [plainName, overriddenIn]; done) | decide +kernel
theorem ef_rm_di (m : MethodId) (x0 : Addr) (x1 : Int64) (x2 : Int32) : entryFrame m #[(.ref x0), (.long x1), (.int x2)] 4 = mkF m 0 #[.val (.ref x0), .val (.long x1), .second, .val (.int x2)] [] := by first | (simp [entryFrame, mkF, argsToLocals, Value.category]; done) | rfl
set_option maxRecDepth 65536 in
set_option maxHeartbeats 40000000 in
theorem rm_di (l : Launch) (Z : State) (a0 : Array Value) (hw : ∀ d ∈ tables_1, d.before a0 Z = true) (ws : List Jvm.Cond) (a1 : Addr) (p2 : Int64) (p3 : Int32) (u1 u2 : Value) (h0 : Heap) (n0 : Nat) (Z0 : n0 ≤ h0.size) (E0 : Exa Z h0 a1 "java/time/Duration") (F1 : Fld Z h0 a1 "java/time/Duration" "seconds" "J" u1) (F2 : Fld Z h0 a1 "java/time/Duration" "nanos" "I" u2) (g1 : n0 ≤ a1) :
    own_Ctr l Z (⟨"java/time/Duration", "<init>", "(JI)V"⟩ : MethodName) jdk_2316_method_17_code 4 none ws ({ frames := 1, cells := 0, slots := 0, locals := 12 } : Room) #[(.ref a1), (.long p2), (.int p3)] h0 (fun v h L => v = none ∧ Fr n0 L ∧ Keep h0 h [a1] ∧ Exa Z h a1 "java/time/Duration" ∧ Fld Z h a1 "java/time/Duration" "seconds" "J" (.long p2) ∧ Fld Z h a1 "java/time/Duration" "nanos" "I" (.int p3)) := by
  refine own_enter (plainFor_of_name pn_d3) ?_
  intro p e s m below meth c s₁ Bd hZ hml X0 e0
  have hx := Bd.exec
  have hby := Bd.bytes
  have hown : s.vm.findClass "java/time/Duration" = some m.cls := findClass_of_methodNamed Bd.named
  have hnm := (name_of_methodNamed Bd.named Bd.method).1
  have N0 := Fr.nil n0
  refine own_go (t' := s₁.setTop (mkF m 0 #[.val (.ref a1), .val (.long p2), .second, .val (.int p3)] [])) (fun _ k_ => castTop (ef_rm_di m a1 p2 p3) k_) ?_
  refine own_go (t' := s₁.setTop (mkF m 1 #[.val (.ref a1), .val (.long p2), .second, .val (.int p3)] [(.ref a1)])) (fun _ k_ => XS.aloadN X0.here hx rfl (Jvm.hb hby d3_0) rfl rfl k_) ?_
  obtain ⟨T1, X1, e1, st1⟩ := initO X0 hx hZ hown (hw _ (List.mem_of_getElem? (i := 15) rfl)) (hw _ (List.mem_of_getElem? (i := 16) rfl)) (hw _ (List.mem_of_getElem? (i := 17) rfl)) e0 (g := (mkF m 1 #[.val (.ref a1), .val (.long p2), .second, .val (.int p3)] [(.ref a1)])) rfl (by rw [hml]; rfl) rfl (Jvm.hb hby d3_1) (by decide) (W := 0) (by show 2 * 0 + _ ≤ _; exact Nat.le_of_eq rfl) (by decide)
  refine own_go (t' := T1.setTop (mkF m 4 #[.val (.ref a1), .val (.long p2), .second, .val (.int p3)] [])) st1 ?_
  refine own_go (t' := T1.setTop (mkF m 5 #[.val (.ref a1), .val (.long p2), .second, .val (.int p3)] [(.ref a1)])) (fun _ k_ => XS.aloadN X1.here hx rfl (Jvm.hb hby d3_4) rfl rfl k_) ?_
  refine own_go (t' := T1.setTop (mkF m 6 #[.val (.ref a1), .val (.long p2), .second, .val (.int p3)] [(.long p2), (.ref a1)])) (fun _ k_ => XS.lloadN X1.here hx rfl (Jvm.hb hby d3_5) rfl k_) ?_
  have sne : Jvm.RoadKit.slotOf Z "java/time/Duration" "seconds" "J" ≠ Jvm.RoadKit.slotOf Z "java/time/Duration" "nanos" "I" := slot_ne (C := "java/time/Duration") (Or.inr (hw _ (List.mem_of_getElem? (i := 19) rfl))) (Or.inr (hw _ (List.mem_of_getElem? (i := 21) rfl))) (by decide) (t := .long) (t' := .int) (by decide) (by decide)
  obtain ⟨T2, h2, X2, e2, W2, st2⟩ := putF X1 hx hZ hown (host := "") (Or.inl (hw _ (List.mem_of_getElem? (i := 18) rfl))) Via.refl e1 F1 E0 (Or.inr ⟨(hw _ (List.mem_of_getElem? (i := 19) rfl)), rfl, hnm⟩) (hw _ (List.mem_of_getElem? (i := 10) rfl)) (ty := .long) (by decide) rfl rfl (g := (mkF m 6 #[.val (.ref a1), .val (.long p2), .second, .val (.int p3)] [(.long p2), (.ref a1)])) rfl rfl (Jvm.hb hby d3_6)
  refine own_go (t' := T2.setTop (mkF m 9 #[.val (.ref a1), .val (.long p2), .second, .val (.int p3)] [])) st2 ?_
  have N2 := Fr.snoc X2 N0 g1
  have F1a : Fld Z h2 a1 "java/time/Duration" "seconds" "J" (.long p2) := F1.same W2
  have F2a : Fld Z h2 a1 "java/time/Duration" "nanos" "I" u2 := F2.other W2 (Or.inr (Ne.symm sne))
  refine own_go (t' := T2.setTop (mkF m 10 #[.val (.ref a1), .val (.long p2), .second, .val (.int p3)] [(.ref a1)])) (fun _ k_ => XS.aloadN X2.here hx rfl (Jvm.hb hby d3_9) rfl rfl k_) ?_
  refine own_go (t' := T2.setTop (mkF m 11 #[.val (.ref a1), .val (.long p2), .second, .val (.int p3)] [(.int p3), (.ref a1)])) (fun _ k_ => XS.iloadN X2.here hx rfl (Jvm.hb hby d3_10) rfl k_) ?_
  obtain ⟨T3, h3, X3, e3, W3, st3⟩ := putF X2 hx hZ hown (host := "") (Or.inl (hw _ (List.mem_of_getElem? (i := 20) rfl))) Via.refl e2 F2a (E0.wr W2) (Or.inr ⟨(hw _ (List.mem_of_getElem? (i := 21) rfl)), rfl, hnm⟩) (hw _ (List.mem_of_getElem? (i := 10) rfl)) (ty := .int) (by decide) rfl rfl (g := (mkF m 11 #[.val (.ref a1), .val (.long p2), .second, .val (.int p3)] [(.int p3), (.ref a1)])) rfl rfl (Jvm.hb hby d3_11)
  refine own_go (t' := T3.setTop (mkF m 14 #[.val (.ref a1), .val (.long p2), .second, .val (.int p3)] [])) st3 ?_
  have N3 := Fr.snoc X3 N2 g1
  have F1b : Fld Z h3 a1 "java/time/Duration" "seconds" "J" (.long p2) := F1a.other W3 (Or.inr sne)
  have F2b : Fld Z h3 a1 "java/time/Duration" "nanos" "I" (.int p3) := F2a.same W3
  have K : Keep h0 h3 [a1] := ((Keep.refl _ _).wr W2 (Or.inl (List.mem_of_getElem? (i := 0) rfl))).wr W3 (Or.inl (List.mem_of_getElem? (i := 0) rfl))
  exact own_retV X3 hx Bd.returns (BodyLoose.notSynchronized Bd) (Jvm.hb hby d3_14) (by decide) (by decide) ⟨rfl, N3, by rw [e3]; exact K, by rw [e3]; exact (E0.wr W2).wr W3, by rw [e3]; exact F1b, by rw [e3]; exact F2b⟩
theorem ef_rm_cr (m : MethodId) (x0 : Int64) (x1 : Int32) : entryFrame m #[(.long x0), (.int x1)] 3 = mkF m 0 #[.val (.long x0), .second, .val (.int x1)] [] := by first | (simp [entryFrame, mkF, argsToLocals, Value.category]; done) | rfl
set_option maxRecDepth 65536 in
set_option maxHeartbeats 40000000 in
theorem rm_cr (l : Launch) (Z : State) (a0 : Array Value) (hw : ∀ d ∈ tables_1, d.before a0 Z = true) (ws : List Jvm.Cond)  (h0 : Heap) (n0 : Nat) (Z0 : n0 ≤ h0.size)  :
    own_Ctr l Z (⟨"java/time/Duration", "create", "(JI)Ljava/time/Duration;"⟩ : MethodName) jdk_2316_method_16_code 3 (some (.object "java/time/Duration")) ws ({ frames := 2, cells := 1, slots := 2, locals := 28 } : Room) #[(.long (1 : Int64)), (.int (0 : Int32))] h0 (fun v h L => ∃ d : Addr, v = some (.ref d) ∧ Fr n0 L ∧ h0.size ≤ d ∧ Keep h0 h [] ∧ Exa Z h d "java/time/Duration" ∧ Fld Z h d "java/time/Duration" "seconds" "J" (.long 1) ∧ Fld Z h d "java/time/Duration" "nanos" "I" (.int 0)) := by
  refine own_enter (plainFor_of_name pn_d2) ?_
  intro p e s m below meth c s₁ Bd hZ hml X0 e0
  have hx := Bd.exec
  have hby := Bd.bytes
  have hown : s.vm.findClass "java/time/Duration" = some m.cls := findClass_of_methodNamed Bd.named
  have hnm := (name_of_methodNamed Bd.named Bd.method).1
  have N0 := Fr.nil n0
  refine own_go (t' := s₁.setTop (mkF m 0 #[.val (.long (1 : Int64)), .second, .val (.int (0 : Int32))] [])) (fun _ k_ => castTop (ef_rm_cr m (1 : Int64) (0 : Int32)) k_) ?_
  refine own_go (t' := s₁.setTop (mkF m 1 #[.val (.long (1 : Int64)), .second, .val (.int (0 : Int32))] [(.long (1 : Int64))])) (fun _ k_ => XS.lloadN X0.here hx rfl (Jvm.hb hby d2_0) rfl k_) ?_
  refine own_go (t' := s₁.setTop (mkF m 2 #[.val (.long (1 : Int64)), .second, .val (.int (0 : Int32))] [(.int (0 : Int32)), (.long (1 : Int64))])) (fun _ k_ => XS.iloadN X0.here hx rfl (Jvm.hb hby d2_1) rfl k_) ?_
  refine own_go (t' := s₁.setTop (mkF m 3 #[.val (.long (1 : Int64)), .second, .val (.int (0 : Int32))] [(.long (0 : Int32).toInt64), (.long (1 : Int64))])) (fun _ k_ => XS.i2l X0.here hx rfl (Jvm.hb hby d2_2) rfl k_) ?_
  refine own_go (t' := s₁.setTop (mkF m 4 #[.val (.long (1 : Int64)), .second, .val (.int (0 : Int32))] [(.long ((1 : Int64) ||| (0 : Int32).toInt64))])) (fun _ k_ => XS.lor X0.here hx rfl (Jvm.hb hby d2_3) rfl k_) ?_
  refine own_go (t' := s₁.setTop (mkF m 5 #[.val (.long (1 : Int64)), .second, .val (.int (0 : Int32))] [(.long (0 : Int64)), (.long ((1 : Int64) ||| (0 : Int32).toInt64))])) (fun _ k_ => XS.lconst X0.here hx rfl (Jvm.hb hby d2_4) k_) ?_
  refine own_go (t' := s₁.setTop (mkF m 6 #[.val (.long (1 : Int64)), .second, .val (.int (0 : Int32))] [(.int (lcmpW ((1 : Int64) ||| (0 : Int32).toInt64) (0 : Int64)))])) (fun _ k_ => XS.lcmp X0.here hx rfl (Jvm.hb hby d2_5) rfl k_) ?_
  refine own_go (t' := s₁.setTop (mkF m 13 #[.val (.long (1 : Int64)), .second, .val (.int (0 : Int32))] [])) (fun _ k_ => XS.ifYes X0.here hx rfl (pc0 := 6) (pc' := 13) rfl (Jvm.hb hby d2_6) rfl ((if0 _ _).trans (feq (fun q => absurd ((lw_eq _ _).mp q) (by decide))).2) (by decide) (by decide) k_) ?_
  obtain ⟨T1, h1, X1, e1, E1, A1, D1, -, st1⟩ := newO X0 hx hZ hown (hw _ (List.mem_of_getElem? (i := 9) rfl)) (hw _ (List.mem_of_getElem? (i := 10) rfl)) (hw _ (List.mem_of_getElem? (i := 4) rfl)) e0 (g := (mkF m 13 #[.val (.long (1 : Int64)), .second, .val (.int (0 : Int32))] [])) rfl (Jvm.hb hby d2_13) (by decide) (by decide)
  obtain ⟨d, g1⟩ : ∃ z, z = h0.size := ⟨_, rfl⟩
  rw [← g1] at A1 D1 st1
  refine own_go (t' := T1.setTop (mkF m 16 #[.val (.long (1 : Int64)), .second, .val (.int (0 : Int32))] [(.ref d)])) st1 ?_
  refine own_go (t' := T1.setTop (mkF m 17 #[.val (.long (1 : Int64)), .second, .val (.int (0 : Int32))] [(.ref d), (.ref d)])) (fun _ k_ => XS.dup X1.here hx rfl (Jvm.hb hby d2_16) rfl rfl k_) ?_
  refine own_go (t' := T1.setTop (mkF m 18 #[.val (.long (1 : Int64)), .second, .val (.int (0 : Int32))] [(.long (1 : Int64)), (.ref d), (.ref d)])) (fun _ k_ => XS.lloadN X1.here hx rfl (Jvm.hb hby d2_17) rfl k_) ?_
  refine own_go (t' := T1.setTop (mkF m 19 #[.val (.long (1 : Int64)), .second, .val (.int (0 : Int32))] [(.int (0 : Int32)), (.long (1 : Int64)), (.ref d), (.ref d)])) (fun _ k_ => XS.iloadN X1.here hx rfl (Jvm.hb hby d2_18) rfl k_) ?_
  have Z1 : n0 ≤ h1.size := Nat.le_trans Z0 E1.1
  obtain ⟨T2, L2, v2, X2, hQ2, st2⟩ := own_special X1 hx hZ (y := (⟨"java/time/Duration", "<init>", "(JI)V"⟩ : MethodName)) rfl hown (hw _ (List.mem_of_getElem? (i := 11) rfl)) (hw _ (List.mem_of_getElem? (i := 12) rfl)) (hw _ (List.mem_of_getElem? (i := 14) rfl)) (hw _ (List.mem_of_getElem? (i := 4) rfl)) (by decide) (rm_di l Z a0 hw [] d 1 0 _ _ h1 n0 Z1 A1 (D1 (Or.inr (hw _ (List.mem_of_getElem? (i := 19) rfl))) (ty := .long) (by decide)) (D1 (Or.inr (hw _ (List.mem_of_getElem? (i := 21) rfl))) (ty := .int) (by decide)) (Nat.le_trans Z0 (Nat.le_of_eq g1.symm))) e1 (g := (mkF m 19 #[.val (.long (1 : Int64)), .second, .val (.int (0 : Int32))] [(.int (0 : Int32)), (.long (1 : Int64)), (.ref d), (.ref d)])) rfl (by rw [hml]; rfl) (argsL := [(.long (1 : Int64)), (.int (0 : Int32))]) (rest := [(.ref d)]) (lenOf pd_d3 rfl) rfl (W := 1) (by show 2 * 0 + _ ≤ _; exact Nat.le_of_eq rfl) (Jvm.hb hby d2_19) (by decide) (by decide) (by decide) (by decide)
  obtain ⟨rfl, Nq2, K2, E2, G1, G2⟩ := hQ2
  have N2 := Fr.app N0 Nq2
  refine own_go (t' := T2.setTop (mkF m 22 #[.val (.long (1 : Int64)), .second, .val (.int (0 : Int32))] [(.ref d)])) st2 ?_
  have KE : Keep h0 T2.heap [] := ((Keep.refl h0 []).ext E1).trans K2 (fun x hx => Or.inr (by cases List.mem_singleton.mp hx; exact Nat.le_of_eq g1.symm))
  exact own_retA X2 hx Bd.returns (BodyLoose.notSynchronized Bd) (Jvm.hb hby d2_22) rfl rfl (by decide) (by decide) ⟨d, rfl, N2, Nat.le_of_eq g1.symm, KE, E2, G1, G2⟩
theorem ef_rm_of (m : MethodId) (x0 : Int64) : entryFrame m #[(.long x0)] 2 = mkF m 0 #[.val (.long x0), .second] [] := by first | (simp [entryFrame, mkF, argsToLocals, Value.category]; done) | rfl
set_option maxRecDepth 65536 in
set_option maxHeartbeats 40000000 in
theorem rm_of (l : Launch) (Z : State) (a0 : Array Value) (hw : ∀ d ∈ tables_1, d.before a0 Z = true) (ws : List Jvm.Cond)  (h0 : Heap) (n0 : Nat) (Z0 : n0 ≤ h0.size)  :
    own_Ctr l Z (⟨"java/time/Duration", "ofSeconds", "(J)Ljava/time/Duration;"⟩ : MethodName) jdk_2316_method_4_code 2 (some (.object "java/time/Duration")) ws ({ frames := 3, cells := 1, slots := 2, locals := 42 } : Room) #[(.long (1 : Int64))] h0 (fun v h L => ∃ d : Addr, v = some (.ref d) ∧ Fr n0 L ∧ h0.size ≤ d ∧ Keep h0 h [] ∧ Exa Z h d "java/time/Duration" ∧ Fld Z h d "java/time/Duration" "seconds" "J" (.long 1) ∧ Fld Z h d "java/time/Duration" "nanos" "I" (.int 0)) := by
  refine own_enter (plainFor_of_name pn_d1) ?_
  intro p e s m below meth c s₁ Bd hZ hml X0 e0
  have hx := Bd.exec
  have hby := Bd.bytes
  have hown : s.vm.findClass "java/time/Duration" = some m.cls := findClass_of_methodNamed Bd.named
  have hnm := (name_of_methodNamed Bd.named Bd.method).1
  have N0 := Fr.nil n0
  refine own_go (t' := s₁.setTop (mkF m 0 #[.val (.long (1 : Int64)), .second] [])) (fun _ k_ => castTop (ef_rm_of m (1 : Int64)) k_) ?_
  refine own_go (t' := s₁.setTop (mkF m 1 #[.val (.long (1 : Int64)), .second] [(.long (1 : Int64))])) (fun _ k_ => XS.lloadN X0.here hx rfl (Jvm.hb hby d1_0) rfl k_) ?_
  refine own_go (t' := s₁.setTop (mkF m 2 #[.val (.long (1 : Int64)), .second] [(.int (0 : Int32)), (.long (1 : Int64))])) (fun _ k_ => XS.iconst X0.here hx rfl (Jvm.hb hby d1_1) k_) ?_
  obtain ⟨T1, L1, v1, X1, hQ1, st1⟩ := own_static X0 hx hZ hown (hw _ (List.mem_of_getElem? (i := 6) rfl)) (hw _ (List.mem_of_getElem? (i := 7) rfl)) (hw _ (List.mem_of_getElem? (i := 4) rfl)) (hw _ (List.mem_of_getElem? (i := 8) rfl)) (by decide) (rm_cr l Z a0 hw [] h0 n0 Z0) e0 (g := (mkF m 2 #[.val (.long (1 : Int64)), .second] [(.int (0 : Int32)), (.long (1 : Int64))])) rfl (by rw [hml]; rfl) (argsL := [(.long (1 : Int64)), (.int (0 : Int32))]) (rest := []) (lenOf pd_d2 rfl) rfl (W := 0) (by show 2 * 0 + _ ≤ _; exact Nat.le_of_eq rfl) (Jvm.hb hby d1_2) (by decide) (by decide) (by decide) (by decide)
  obtain ⟨d, rfl, Nq1, hd, e1, E2, G1, G2⟩ := hQ1
  have N1 := Fr.app N0 Nq1
  refine own_go (t' := T1.setTop (mkF m 5 #[.val (.long (1 : Int64)), .second] [(.ref d)])) st1 ?_
  exact own_retA X1 hx Bd.returns (BodyLoose.notSynchronized Bd) (Jvm.hb hby d1_5) rfl rfl (by decide) (by decide) ⟨d, rfl, N1, hd, e1, E2, G1, G2⟩
theorem ef_rm_bi (m : MethodId) (x0 : Addr) : entryFrame m #[(.ref x0)] 1 = mkF m 0 #[.val (.ref x0)] [] := by first | (simp [entryFrame, mkF, argsToLocals, Value.category]; done) | rfl
set_option maxRecDepth 65536 in
set_option maxHeartbeats 40000000 in
theorem rm_bi (l : Launch) (Z : State) (a0 : Array Value) (hw : ∀ d ∈ tables_1, d.before a0 Z = true) (ws : List Jvm.Cond) (a1 : Addr) (u1 u2 : Value) (h0 : Heap) (n0 : Nat) (Z0 : n0 ≤ h0.size) (E0 : Exa Z h0 a1 "com/example/libgate/libgate/BucketBuilderBurstPinLaw") (F1 : Fld Z h0 a1 "com/example/libgate/libgate/BucketBuilder" "burstPermits" "I" u1) (F2 : Fld Z h0 a1 "com/example/libgate/libgate/BucketBuilder" "permitsPerSecond" "D" u2) (g1 : n0 ≤ a1) :
    own_Ctr l Z (⟨"com/example/libgate/libgate/BucketBuilder", "<init>", "()V"⟩ : MethodName) prog_1_method_1_code 1 none ws ({ frames := 1, cells := 0, slots := 0, locals := 12 } : Room) #[(.ref a1)] h0 (fun v h L => v = none ∧ Fr n0 L ∧ Keep h0 h [a1] ∧ Exa Z h a1 "com/example/libgate/libgate/BucketBuilderBurstPinLaw" ∧ (∃ w, Fld Z h a1 "com/example/libgate/libgate/BucketBuilder" "burstPermits" "I" w) ∧ (∃ w, Fld Z h a1 "com/example/libgate/libgate/BucketBuilder" "permitsPerSecond" "D" w)) := by
  refine own_enter (plainFor_of_name pn_d6) ?_
  intro p e s m below meth c s₁ Bd hZ hml X0 e0
  have hx := Bd.exec
  have hby := Bd.bytes
  have hown : s.vm.findClass "com/example/libgate/libgate/BucketBuilder" = some m.cls := findClass_of_methodNamed Bd.named
  have hnm := (name_of_methodNamed Bd.named Bd.method).1
  have N0 := Fr.nil n0
  refine own_go (t' := s₁.setTop (mkF m 0 #[.val (.ref a1)] [])) (fun _ k_ => castTop (ef_rm_bi m a1) k_) ?_
  refine own_go (t' := s₁.setTop (mkF m 1 #[.val (.ref a1)] [(.ref a1)])) (fun _ k_ => XS.aloadN X0.here hx rfl (Jvm.hb hby d6_0) rfl rfl k_) ?_
  obtain ⟨T1, X1, e1, st1⟩ := initO X0 hx hZ hown (hw _ (List.mem_of_getElem? (i := 33) rfl)) (hw _ (List.mem_of_getElem? (i := 16) rfl)) (hw _ (List.mem_of_getElem? (i := 17) rfl)) e0 (g := (mkF m 1 #[.val (.ref a1)] [(.ref a1)])) rfl (by rw [hml]; rfl) rfl (Jvm.hb hby d6_1) (by decide) (W := 0) (by show 2 * 0 + _ ≤ _; exact Nat.le_of_eq rfl) (by decide)
  refine own_go (t' := T1.setTop (mkF m 4 #[.val (.ref a1)] [])) st1 ?_
  refine own_go (t' := T1.setTop (mkF m 5 #[.val (.ref a1)] [(.ref a1)])) (fun _ k_ => XS.aloadN X1.here hx rfl (Jvm.hb hby d6_4) rfl rfl k_) ?_
  refine own_go (t' := T1.setTop (mkF m 6 #[.val (.ref a1)] [(.int (-1 : Int32)), (.ref a1)])) (fun _ k_ => XS.iconst X1.here hx rfl (Jvm.hb hby d6_5) k_) ?_
  obtain ⟨T2, h2, X2, e2, W2, st2⟩ := putF X1 hx hZ hown (host := "") (Or.inl (hw _ (List.mem_of_getElem? (i := 34) rfl))) Via.refl e1 F1 E0 (Or.inl (hw _ (List.mem_of_getElem? (i := 35) rfl))) (hw _ (List.mem_of_getElem? (i := 23) rfl)) (ty := .int) (by decide) rfl rfl (g := (mkF m 6 #[.val (.ref a1)] [(.int (-1 : Int32)), (.ref a1)])) rfl rfl (Jvm.hb hby d6_6)
  refine own_go (t' := T2.setTop (mkF m 9 #[.val (.ref a1)] [])) st2 ?_
  have N2 := Fr.snoc X2 N0 g1
  have F1a := own_any W2 F1
  have F2a := own_any W2 F2
  exact own_retV X2 hx Bd.returns (BodyLoose.notSynchronized Bd) (Jvm.hb hby d6_9) (by decide) (by decide) ⟨rfl, N2, by rw [e2]; exact (Keep.refl _ _).wr W2 (Or.inl (List.mem_of_getElem? (i := 0) rfl)), by rw [e2]; exact E0.wr W2, by rw [e2]; exact F1a, by rw [e2]; exact F2a⟩
theorem ef_rm_li (m : MethodId) (x0 : Addr) : entryFrame m #[(.ref x0)] 1 = mkF m 0 #[.val (.ref x0)] [] := by first | (simp [entryFrame, mkF, argsToLocals, Value.category]; done) | rfl
set_option maxRecDepth 65536 in
set_option maxHeartbeats 40000000 in
theorem rm_li (l : Launch) (Z : State) (a0 : Array Value) (hw : ∀ d ∈ tables_1, d.before a0 Z = true) (ws : List Jvm.Cond) (a1 : Addr) (u1 u2 : Value) (h0 : Heap) (n0 : Nat) (Z0 : n0 ≤ h0.size) (E0 : Exa Z h0 a1 "com/example/libgate/libgate/BucketBuilderBurstPinLaw") (F1 : Fld Z h0 a1 "com/example/libgate/libgate/BucketBuilder" "burstPermits" "I" u1) (F2 : Fld Z h0 a1 "com/example/libgate/libgate/BucketBuilder" "permitsPerSecond" "D" u2) (g1 : n0 ≤ a1) :
    own_Ctr l Z (⟨"com/example/libgate/libgate/BucketBuilderBurstPinLaw", "<init>", "()V"⟩ : MethodName) method_1_code 1 none ws ({ frames := 2, cells := 0, slots := 0, locals := 24 } : Room) #[(.ref a1)] h0 (fun v h L => v = none ∧ Fr n0 L ∧ Keep h0 h [a1] ∧ Exa Z h a1 "com/example/libgate/libgate/BucketBuilderBurstPinLaw" ∧ (∃ w, Fld Z h a1 "com/example/libgate/libgate/BucketBuilder" "burstPermits" "I" w) ∧ (∃ w, Fld Z h a1 "com/example/libgate/libgate/BucketBuilder" "permitsPerSecond" "D" w)) := by
  refine own_enter (plainFor_of_name pn_d5) ?_
  intro p e s m below meth c s₁ Bd hZ hml X0 e0
  have hx := Bd.exec
  have hby := Bd.bytes
  have hown : s.vm.findClass "com/example/libgate/libgate/BucketBuilderBurstPinLaw" = some m.cls := findClass_of_methodNamed Bd.named
  have hnm := (name_of_methodNamed Bd.named Bd.method).1
  have N0 := Fr.nil n0
  refine own_go (t' := s₁.setTop (mkF m 0 #[.val (.ref a1)] [])) (fun _ k_ => castTop (ef_rm_li m a1) k_) ?_
  refine own_go (t' := s₁.setTop (mkF m 1 #[.val (.ref a1)] [(.ref a1)])) (fun _ k_ => XS.aloadN X0.here hx rfl (Jvm.hb hby d5_0) rfl rfl k_) ?_
  obtain ⟨T1, L1, v1, X1, hQ1, st1⟩ := own_special X0 hx hZ (y := (⟨"com/example/libgate/libgate/BucketBuilder", "<init>", "()V"⟩ : MethodName)) rfl hown (hw _ (List.mem_of_getElem? (i := 28) rfl)) (hw _ (List.mem_of_getElem? (i := 29) rfl)) (hw _ (List.mem_of_getElem? (i := 32) rfl)) (hw _ (List.mem_of_getElem? (i := 31) rfl)) (by decide) (rm_bi l Z a0 hw [] a1 u1 u2 h0 n0 Z0 E0 F1 F2 g1) e0 (g := (mkF m 1 #[.val (.ref a1)] [(.ref a1)])) rfl (by rw [hml]; rfl) (argsL := []) (rest := []) (lenOf pd_d6 rfl) rfl (W := 0) (by show 2 * 0 + _ ≤ _; exact Nat.le_of_eq rfl) (Jvm.hb hby d5_1) (by decide) (by decide) (by decide) (by decide)
  obtain ⟨rfl, Nq1, K, E, G1, G2⟩ := hQ1
  have N1 := Fr.app N0 Nq1
  refine own_go (t' := T1.setTop (mkF m 4 #[.val (.ref a1)] [])) st1 ?_
  exact own_retV X1 hx Bd.returns (BodyLoose.notSynchronized Bd) (Jvm.hb hby d5_4) (by decide) (by decide) ⟨rfl, N1, K, E, G1, G2⟩
theorem ef_rm_cp (m : MethodId) (x0 : Int32) : entryFrame m #[(.int x0)] 1 = mkF m 0 #[.val (.int x0)] [] := by first | (simp [entryFrame, mkF, argsToLocals, Value.category]; done) | rfl
set_option maxRecDepth 65536 in
set_option maxHeartbeats 40000000 in
theorem rm_cp (l : Launch) (Z : State) (a0 : Array Value) (hw : ∀ d ∈ tables_1, d.before a0 Z = true) (ws : List Jvm.Cond) (p0 : Int32) (h0 : Heap) (n0 : Nat) (Z0 : n0 ≤ h0.size) (hp : (0 : Int32) < p0) :
    own_Ctr l Z (⟨"com/example/libgate/libgate/Requests", "checkPermits", "(I)V"⟩ : MethodName) prog_8_method_2_code 1 none ws ({ frames := 0, cells := 0, slots := 0, locals := 0 } : Room) #[(.int p0)] h0 (fun v h L => v = none ∧ Fr n0 L ∧ h = h0) := by
  refine own_enter (plainFor_of_name pn_d8) ?_
  intro p e s m below meth c s₁ Bd hZ hml X0 e0
  have hx := Bd.exec
  have hby := Bd.bytes
  have hown : s.vm.findClass "com/example/libgate/libgate/Requests" = some m.cls := findClass_of_methodNamed Bd.named
  have hnm := (name_of_methodNamed Bd.named Bd.method).1
  have N0 := Fr.nil n0
  refine own_go (t' := s₁.setTop (mkF m 0 #[.val (.int p0)] [])) (fun _ k_ => castTop (ef_rm_cp m p0) k_) ?_
  refine own_go (t' := s₁.setTop (mkF m 1 #[.val (.int p0)] [(.int p0)])) (fun _ k_ => XS.iloadN X0.here hx rfl (Jvm.hb hby d8_0) rfl k_) ?_
  refine own_go (t' := s₁.setTop (mkF m 18 #[.val (.int p0)] [])) (fun _ k_ => XS.ifYes X0.here hx rfl (pc0 := 1) (pc' := 18) rfl (Jvm.hb hby d8_1) rfl ((if0 _ _).trans (tlt hp).2.2.1) (by decide) (by decide) k_) ?_
  exact own_retV X0 hx Bd.returns (BodyLoose.notSynchronized Bd) (Jvm.hb hby d8_18) (by decide) (by decide) ⟨rfl, N0, e0⟩
theorem ef_rm_rn (m : MethodId) (x0 : Addr) (x1 : Addr) : entryFrame m #[(.ref x0), (.ref x1)] 2 = mkF m 0 #[.val (.ref x0), .val (.ref x1)] [] := by first | (simp [entryFrame, mkF, argsToLocals, Value.category]; done) | rfl
set_option maxRecDepth 65536 in
set_option maxHeartbeats 40000000 in
theorem rm_rn (l : Launch) (Z : State) (a0 : Array Value) (hw : ∀ d ∈ tables_1, d.before a0 Z = true) (ws : List Jvm.Cond) (a1 a2 : Addr) (h0 : Heap) (n0 : Nat) (Z0 : n0 ≤ h0.size)  :
    own_Ctr l Z (⟨"java/util/Objects", "requireNonNull", "(Ljava/lang/Object;Ljava/lang/String;)Ljava/lang/Object;"⟩ : MethodName) jdk_31_method_11_code 2 (some (.object "java/lang/Object")) ws ({ frames := 0, cells := 0, slots := 0, locals := 0 } : Room) #[(.ref a1), (.ref a2)] h0 (fun v h L => v = some (.ref a1) ∧ Fr n0 L ∧ h = h0) := by
  refine own_enter (plainFor_of_name pn_d9) ?_
  intro p e s m below meth c s₁ Bd hZ hml X0 e0
  have hx := Bd.exec
  have hby := Bd.bytes
  have hown : s.vm.findClass "java/util/Objects" = some m.cls := findClass_of_methodNamed Bd.named
  have hnm := (name_of_methodNamed Bd.named Bd.method).1
  have N0 := Fr.nil n0
  refine own_go (t' := s₁.setTop (mkF m 0 #[.val (.ref a1), .val (.ref a2)] [])) (fun _ k_ => castTop (ef_rm_rn m a1 a2) k_) ?_
  refine own_go (t' := s₁.setTop (mkF m 1 #[.val (.ref a1), .val (.ref a2)] [(.ref a1)])) (fun _ k_ => XS.aloadN X0.here hx rfl (Jvm.hb hby d9_0) rfl rfl k_) ?_
  refine own_go (t' := s₁.setTop (mkF m 13 #[.val (.ref a1), .val (.ref a2)] [])) (fun _ k_ => XS.ifnonnullYes X0.here hx rfl (pc0 := 1) (pc' := 13) rfl (Jvm.hb hby d9_1) rfl (by decide) (by decide) k_) ?_
  refine own_go (t' := s₁.setTop (mkF m 14 #[.val (.ref a1), .val (.ref a2)] [(.ref a1)])) (fun _ k_ => XS.aloadN X0.here hx rfl (Jvm.hb hby d9_13) rfl rfl k_) ?_
  exact own_retA X0 hx Bd.returns (BodyLoose.notSynchronized Bd) (Jvm.hb hby d9_14) rfl rfl (by decide) (by decide) ⟨rfl, N0, e0⟩
theorem ef_rm_iz (m : MethodId) (x0 : Addr) : entryFrame m #[(.ref x0)] 1 = mkF m 0 #[.val (.ref x0)] [] := by first | (simp [entryFrame, mkF, argsToLocals, Value.category]; done) | rfl
set_option maxRecDepth 65536 in
set_option maxHeartbeats 40000000 in
theorem rm_iz (l : Launch) (Z : State) (a0 : Array Value) (hw : ∀ d ∈ tables_1, d.before a0 Z = true) (ws : List Jvm.Cond) (a1 : Addr) (h0 : Heap) (n0 : Nat) (Z0 : n0 ≤ h0.size) (F1 : Fld Z h0 a1 "java/time/Duration" "seconds" "J" (.long 1)) (F2 : Fld Z h0 a1 "java/time/Duration" "nanos" "I" (.int 0)) :
    own_Ctr l Z (⟨"java/time/Duration", "isZero", "()Z"⟩ : MethodName) jdk_2316_method_21_code 1 (some .boolean) ws ({ frames := 0, cells := 0, slots := 0, locals := 0 } : Room) #[(.ref a1)] h0 (fun v h L => v = some (.int 0) ∧ Fr n0 L ∧ h = h0) := by
  refine own_enter (plainFor_of_name pn_d10) ?_
  intro p e s m below meth c s₁ Bd hZ hml X0 e0
  have hx := Bd.exec
  have hby := Bd.bytes
  have hown : s.vm.findClass "java/time/Duration" = some m.cls := findClass_of_methodNamed Bd.named
  have hnm := (name_of_methodNamed Bd.named Bd.method).1
  have N0 := Fr.nil n0
  refine own_go (t' := s₁.setTop (mkF m 0 #[.val (.ref a1)] [])) (fun _ k_ => castTop (ef_rm_iz m a1) k_) ?_
  refine own_go (t' := s₁.setTop (mkF m 1 #[.val (.ref a1)] [(.ref a1)])) (fun _ k_ => XS.aloadN X0.here hx rfl (Jvm.hb hby d10_0) rfl rfl k_) ?_
  obtain ⟨T1, X1, e1, st1⟩ := getF X0 hx hZ hown (host := "") (Or.inl (hw _ (List.mem_of_getElem? (i := 18) rfl))) Via.refl e0 F1 (g := (mkF m 1 #[.val (.ref a1)] [(.ref a1)])) rfl rfl (Jvm.hb hby d10_1)
  refine own_go (t' := T1.setTop (mkF m 4 #[.val (.ref a1)] [(.long (1 : Int64))])) st1 ?_
  refine own_go (t' := T1.setTop (mkF m 5 #[.val (.ref a1)] [(.ref a1), (.long (1 : Int64))])) (fun _ k_ => XS.aloadN X1.here hx rfl (Jvm.hb hby d10_4) rfl rfl k_) ?_
  obtain ⟨T2, X2, e2, st2⟩ := getF X1 hx hZ hown (host := "") (Or.inl (hw _ (List.mem_of_getElem? (i := 20) rfl))) Via.refl e1 F2 (g := (mkF m 5 #[.val (.ref a1)] [(.ref a1), (.long (1 : Int64))])) rfl rfl (Jvm.hb hby d10_5)
  refine own_go (t' := T2.setTop (mkF m 8 #[.val (.ref a1)] [(.int (0 : Int32)), (.long (1 : Int64))])) st2 ?_
  refine own_go (t' := T2.setTop (mkF m 9 #[.val (.ref a1)] [(.long (0 : Int32).toInt64), (.long (1 : Int64))])) (fun _ k_ => XS.i2l X2.here hx rfl (Jvm.hb hby d10_8) rfl k_) ?_
  refine own_go (t' := T2.setTop (mkF m 10 #[.val (.ref a1)] [(.long ((1 : Int64) ||| (0 : Int32).toInt64))])) (fun _ k_ => XS.lor X2.here hx rfl (Jvm.hb hby d10_9) rfl k_) ?_
  refine own_go (t' := T2.setTop (mkF m 11 #[.val (.ref a1)] [(.long (0 : Int64)), (.long ((1 : Int64) ||| (0 : Int32).toInt64))])) (fun _ k_ => XS.lconst X2.here hx rfl (Jvm.hb hby d10_10) k_) ?_
  refine own_go (t' := T2.setTop (mkF m 12 #[.val (.ref a1)] [(.int (lcmpW ((1 : Int64) ||| (0 : Int32).toInt64) (0 : Int64)))])) (fun _ k_ => XS.lcmp X2.here hx rfl (Jvm.hb hby d10_11) rfl k_) ?_
  refine own_go (t' := T2.setTop (mkF m 19 #[.val (.ref a1)] [])) (fun _ k_ => XS.ifYes X2.here hx rfl (pc0 := 12) (pc' := 19) rfl (Jvm.hb hby d10_12) rfl ((if0 _ _).trans (feq (fun q => absurd ((lw_eq _ _).mp q) (by decide))).2) (by decide) (by decide) k_) ?_
  refine own_go (t' := T2.setTop (mkF m 20 #[.val (.ref a1)] [(.int (0 : Int32))])) (fun _ k_ => XS.iconst X2.here hx rfl (Jvm.hb hby d10_19) k_) ?_
  exact own_retZ X2 hx Bd.returns (BodyLoose.notSynchronized Bd) rfl (Jvm.hb hby d10_20) (by decide) (by decide) ⟨rfl, N0, e2⟩
theorem ef_rm_ng (m : MethodId) (x0 : Addr) : entryFrame m #[(.ref x0)] 1 = mkF m 0 #[.val (.ref x0)] [] := by first | (simp [entryFrame, mkF, argsToLocals, Value.category]; done) | rfl
set_option maxRecDepth 65536 in
set_option maxHeartbeats 40000000 in
theorem rm_ng (l : Launch) (Z : State) (a0 : Array Value) (hw : ∀ d ∈ tables_1, d.before a0 Z = true) (ws : List Jvm.Cond) (a1 : Addr) (h0 : Heap) (n0 : Nat) (Z0 : n0 ≤ h0.size) (F1 : Fld Z h0 a1 "java/time/Duration" "seconds" "J" (.long 1)) :
    own_Ctr l Z (⟨"java/time/Duration", "isNegative", "()Z"⟩ : MethodName) jdk_2316_method_22_code 1 (some .boolean) ws ({ frames := 0, cells := 0, slots := 0, locals := 0 } : Room) #[(.ref a1)] h0 (fun v h L => v = some (.int 0) ∧ Fr n0 L ∧ h = h0) := by
  refine own_enter (plainFor_of_name pn_d11) ?_
  intro p e s m below meth c s₁ Bd hZ hml X0 e0
  have hx := Bd.exec
  have hby := Bd.bytes
  have hown : s.vm.findClass "java/time/Duration" = some m.cls := findClass_of_methodNamed Bd.named
  have hnm := (name_of_methodNamed Bd.named Bd.method).1
  have N0 := Fr.nil n0
  refine own_go (t' := s₁.setTop (mkF m 0 #[.val (.ref a1)] [])) (fun _ k_ => castTop (ef_rm_ng m a1) k_) ?_
  refine own_go (t' := s₁.setTop (mkF m 1 #[.val (.ref a1)] [(.ref a1)])) (fun _ k_ => XS.aloadN X0.here hx rfl (Jvm.hb hby d11_0) rfl rfl k_) ?_
  obtain ⟨T1, X1, e1, st1⟩ := getF X0 hx hZ hown (host := "") (Or.inl (hw _ (List.mem_of_getElem? (i := 18) rfl))) Via.refl e0 F1 (g := (mkF m 1 #[.val (.ref a1)] [(.ref a1)])) rfl rfl (Jvm.hb hby d11_1)
  refine own_go (t' := T1.setTop (mkF m 4 #[.val (.ref a1)] [(.long (1 : Int64))])) st1 ?_
  refine own_go (t' := T1.setTop (mkF m 5 #[.val (.ref a1)] [(.long (0 : Int64)), (.long (1 : Int64))])) (fun _ k_ => XS.lconst X1.here hx rfl (Jvm.hb hby d11_4) k_) ?_
  refine own_go (t' := T1.setTop (mkF m 6 #[.val (.ref a1)] [(.int (lcmpW (1 : Int64) (0 : Int64)))])) (fun _ k_ => XS.lcmp X1.here hx rfl (Jvm.hb hby d11_5) rfl k_) ?_
  refine own_go (t' := T1.setTop (mkF m 13 #[.val (.ref a1)] [])) (fun _ k_ => XS.ifYes X1.here hx rfl (pc0 := 6) (pc' := 13) rfl (Jvm.hb hby d11_6) rfl ((if0 _ _).trans (flt (fun q => absurd ((lw_lt _ _).mp q) (by decide))).2.1) (by decide) (by decide) k_) ?_
  refine own_go (t' := T1.setTop (mkF m 14 #[.val (.ref a1)] [(.int (0 : Int32))])) (fun _ k_ => XS.iconst X1.here hx rfl (Jvm.hb hby d11_13) k_) ?_
  exact own_retZ X1 hx Bd.returns (BodyLoose.notSynchronized Bd) rfl (Jvm.hb hby d11_14) (by decide) (by decide) ⟨rfl, N0, e1⟩
theorem ef_rm_gs (m : MethodId) (x0 : Addr) : entryFrame m #[(.ref x0)] 1 = mkF m 0 #[.val (.ref x0)] [] := by first | (simp [entryFrame, mkF, argsToLocals, Value.category]; done) | rfl
set_option maxRecDepth 65536 in
set_option maxHeartbeats 40000000 in
theorem rm_gs (l : Launch) (Z : State) (a0 : Array Value) (hw : ∀ d ∈ tables_1, d.before a0 Z = true) (ws : List Jvm.Cond) (a1 : Addr) (h0 : Heap) (n0 : Nat) (Z0 : n0 ≤ h0.size) (F1 : Fld Z h0 a1 "java/time/Duration" "seconds" "J" (.long 1)) :
    own_Ctr l Z (⟨"java/time/Duration", "getSeconds", "()J"⟩ : MethodName) jdk_2316_method_23_code 1 (some .long) ws ({ frames := 0, cells := 0, slots := 0, locals := 0 } : Room) #[(.ref a1)] h0 (fun v h L => v = some (.long 1) ∧ Fr n0 L ∧ h = h0) := by
  refine own_enter (plainFor_of_name pn_d13) ?_
  intro p e s m below meth c s₁ Bd hZ hml X0 e0
  have hx := Bd.exec
  have hby := Bd.bytes
  have hown : s.vm.findClass "java/time/Duration" = some m.cls := findClass_of_methodNamed Bd.named
  have hnm := (name_of_methodNamed Bd.named Bd.method).1
  have N0 := Fr.nil n0
  refine own_go (t' := s₁.setTop (mkF m 0 #[.val (.ref a1)] [])) (fun _ k_ => castTop (ef_rm_gs m a1) k_) ?_
  refine own_go (t' := s₁.setTop (mkF m 1 #[.val (.ref a1)] [(.ref a1)])) (fun _ k_ => XS.aloadN X0.here hx rfl (Jvm.hb hby d13_0) rfl rfl k_) ?_
  obtain ⟨T1, X1, e1, st1⟩ := getF X0 hx hZ hown (host := "") (Or.inl (hw _ (List.mem_of_getElem? (i := 18) rfl))) Via.refl e0 F1 (g := (mkF m 1 #[.val (.ref a1)] [(.ref a1)])) rfl rfl (Jvm.hb hby d13_1)
  refine own_go (t' := T1.setTop (mkF m 4 #[.val (.ref a1)] [(.long (1 : Int64))])) st1 ?_
  exact own_retJ X1 hx Bd.returns (BodyLoose.notSynchronized Bd) (Jvm.hb hby d13_4) (by decide) (by decide) ⟨rfl, N0, e1⟩
theorem ef_rm_gn (m : MethodId) (x0 : Addr) : entryFrame m #[(.ref x0)] 1 = mkF m 0 #[.val (.ref x0)] [] := by first | (simp [entryFrame, mkF, argsToLocals, Value.category]; done) | rfl
set_option maxRecDepth 65536 in
set_option maxHeartbeats 40000000 in
theorem rm_gn (l : Launch) (Z : State) (a0 : Array Value) (hw : ∀ d ∈ tables_1, d.before a0 Z = true) (ws : List Jvm.Cond) (a1 : Addr) (h0 : Heap) (n0 : Nat) (Z0 : n0 ≤ h0.size) (F2 : Fld Z h0 a1 "java/time/Duration" "nanos" "I" (.int 0)) :
    own_Ctr l Z (⟨"java/time/Duration", "getNano", "()I"⟩ : MethodName) jdk_2316_method_24_code 1 (some .int) ws ({ frames := 0, cells := 0, slots := 0, locals := 0 } : Room) #[(.ref a1)] h0 (fun v h L => v = some (.int 0) ∧ Fr n0 L ∧ h = h0) := by
  refine own_enter (plainFor_of_name pn_d14) ?_
  intro p e s m below meth c s₁ Bd hZ hml X0 e0
  have hx := Bd.exec
  have hby := Bd.bytes
  have hown : s.vm.findClass "java/time/Duration" = some m.cls := findClass_of_methodNamed Bd.named
  have hnm := (name_of_methodNamed Bd.named Bd.method).1
  have N0 := Fr.nil n0
  refine own_go (t' := s₁.setTop (mkF m 0 #[.val (.ref a1)] [])) (fun _ k_ => castTop (ef_rm_gn m a1) k_) ?_
  refine own_go (t' := s₁.setTop (mkF m 1 #[.val (.ref a1)] [(.ref a1)])) (fun _ k_ => XS.aloadN X0.here hx rfl (Jvm.hb hby d14_0) rfl rfl k_) ?_
  obtain ⟨T1, X1, e1, st1⟩ := getF X0 hx hZ hown (host := "") (Or.inl (hw _ (List.mem_of_getElem? (i := 20) rfl))) Via.refl e0 F2 (g := (mkF m 1 #[.val (.ref a1)] [(.ref a1)])) rfl rfl (Jvm.hb hby d14_1)
  refine own_go (t' := T1.setTop (mkF m 4 #[.val (.ref a1)] [(.int (0 : Int32))])) st1 ?_
  exact own_retI X1 hx Bd.returns (BodyLoose.notSynchronized Bd) (Jvm.hb hby d14_4) (by decide) (by decide) ⟨rfl, N0, e1⟩
theorem ef_rm_se (m : MethodId) (x0 : Addr) : entryFrame m #[(.ref x0)] 1 = mkF m 0 #[.val (.ref x0)] [] := by first | (simp [entryFrame, mkF, argsToLocals, Value.category]; done) | rfl
set_option maxRecDepth 65536 in
set_option maxHeartbeats 40000000 in
theorem rm_se (l : Launch) (Z : State) (a0 : Array Value) (hw : ∀ d ∈ tables_1, d.before a0 Z = true) (ws : List Jvm.Cond) (a1 : Addr) (h0 : Heap) (n0 : Nat) (Z0 : n0 ≤ h0.size) (E0 : Exa Z h0 a1 "java/time/Duration") (F1 : Fld Z h0 a1 "java/time/Duration" "seconds" "J" (.long 1)) (F2 : Fld Z h0 a1 "java/time/Duration" "nanos" "I" (.int 0)) :
    own_Ctr l Z (⟨"com/example/libgate/libgate/BucketRate", "seconds", "(Ljava/time/Duration;)D"⟩ : MethodName) prog_3_method_9_code 1 (some .double) ws ({ frames := 1, cells := 0, slots := 0, locals := 14 } : Room) #[(.ref a1)] h0 (fun v h L => v = some (.double (FP.dadd (FP.l2d (1 : Int64)) (FP.ddiv (FP.i2d (0 : Int32)) (4741671816366391296 : UInt64)))) ∧ Fr n0 L ∧ h = h0) := by
  refine own_enter (plainFor_of_name pn_d12) ?_
  intro p e s m below meth c s₁ Bd hZ hml X0 e0
  have hx := Bd.exec
  have hby := Bd.bytes
  have hown : s.vm.findClass "com/example/libgate/libgate/BucketRate" = some m.cls := findClass_of_methodNamed Bd.named
  have hnm := (name_of_methodNamed Bd.named Bd.method).1
  have N0 := Fr.nil n0
  refine own_go (t' := s₁.setTop (mkF m 0 #[.val (.ref a1)] [])) (fun _ k_ => castTop (ef_rm_se m a1) k_) ?_
  refine own_go (t' := s₁.setTop (mkF m 1 #[.val (.ref a1)] [(.ref a1)])) (fun _ k_ => XS.aloadN X0.here hx rfl (Jvm.hb hby d12_0) rfl rfl k_) ?_
  obtain ⟨T1, L1, v1, X1, hQ1, st1⟩ := own_virtual X0 hx hZ (y := (⟨"java/time/Duration", "getSeconds", "()J"⟩ : MethodName)) hown (hw _ (List.mem_of_getElem? (i := 72) rfl)) (hw _ (List.mem_of_getElem? (i := 73) rfl)) (hw _ (List.mem_of_getElem? (i := 75) rfl)) (hw _ (List.mem_of_getElem? (i := 74) rfl)) (hw _ (List.mem_of_getElem? (i := 76) rfl)) (hw _ (List.mem_of_getElem? (i := 4) rfl)) (by decide) E0 (rm_gs l Z a0 hw [] a1 h0 n0 Z0 F1) e0 (g := (mkF m 1 #[.val (.ref a1)] [(.ref a1)])) rfl (by rw [hml]; rfl) (argsL := []) (rest := []) (lenOf pd_d13 rfl) rfl (W := 0) (by show 2 * 0 + _ ≤ _; exact Nat.le_of_eq rfl) (Jvm.hb hby d12_1) (by decide) (by decide) (by decide) (by decide)
  obtain ⟨rfl, Nq1, e1⟩ := hQ1
  have N1 := Fr.app N0 Nq1
  refine own_go (t' := T1.setTop (mkF m 4 #[.val (.ref a1)] [(.long (1 : Int64))])) st1 ?_
  refine own_go (t' := T1.setTop (mkF m 5 #[.val (.ref a1)] [(.double (FP.l2d (1 : Int64)))])) (fun _ k_ => XS.l2dS X1.here hx rfl (Jvm.hb hby d12_4) rfl rfl k_) ?_
  refine own_go (t' := T1.setTop (mkF m 6 #[.val (.ref a1)] [(.ref a1), (.double (FP.l2d (1 : Int64)))])) (fun _ k_ => XS.aloadN X1.here hx rfl (Jvm.hb hby d12_5) rfl rfl k_) ?_
  obtain ⟨T2, L2, v2, X2, hQ2, st2⟩ := own_virtual X1 hx hZ (y := (⟨"java/time/Duration", "getNano", "()I"⟩ : MethodName)) hown (hw _ (List.mem_of_getElem? (i := 77) rfl)) (hw _ (List.mem_of_getElem? (i := 78) rfl)) (hw _ (List.mem_of_getElem? (i := 80) rfl)) (hw _ (List.mem_of_getElem? (i := 79) rfl)) (hw _ (List.mem_of_getElem? (i := 81) rfl)) (hw _ (List.mem_of_getElem? (i := 4) rfl)) (by decide) E0 (rm_gn l Z a0 hw [] a1 h0 n0 Z0 F2) e1 (g := (mkF m 6 #[.val (.ref a1)] [(.ref a1), (.double (FP.l2d (1 : Int64)))])) rfl (by rw [hml]; rfl) (argsL := []) (rest := [(.double (FP.l2d (1 : Int64)))]) (lenOf pd_d14 rfl) rfl (W := 2) (by show 2 * 0 + _ ≤ _; exact Nat.le_of_eq rfl) (Jvm.hb hby d12_6) (by decide) (by decide) (by decide) (by decide)
  obtain ⟨rfl, Nq2, e2⟩ := hQ2
  have N2 := Fr.app N1 Nq2
  refine own_go (t' := T2.setTop (mkF m 9 #[.val (.ref a1)] [(.int (0 : Int32)), (.double (FP.l2d (1 : Int64)))])) st2 ?_
  refine own_go (t' := T2.setTop (mkF m 10 #[.val (.ref a1)] [(.double (FP.i2d (0 : Int32))), (.double (FP.l2d (1 : Int64)))])) (fun _ k_ => XS.i2dS X2.here hx rfl (Jvm.hb hby d12_9) rfl rfl k_) ?_
  refine own_go (t' := T2.setTop (mkF m 13 #[.val (.ref a1)] [(.double (4741671816366391296 : UInt64)), (.double (FP.i2d (0 : Int32))), (.double (FP.l2d (1 : Int64)))])) (X2.ldc2DoubleC hx (own := "com/example/libgate/libgate/BucketRate") (index := 20) (b := (4741671816366391296 : UInt64)) hown (mvT hZ (hw _ (List.mem_of_getElem? (i := 82) rfl))) (g := (mkF m 10 #[.val (.ref a1)] [(.double (FP.i2d (0 : Int32))), (.double (FP.l2d (1 : Int64)))])) rfl (Jvm.hb hby d12_10)) ?_
  refine own_go (t' := T2.setTop (mkF m 14 #[.val (.ref a1)] [(.double (FP.ddiv (FP.i2d (0 : Int32)) (4741671816366391296 : UInt64))), (.double (FP.l2d (1 : Int64)))])) (fun _ k_ => XS.ddivS X2.here hx rfl (Jvm.hb hby d12_13) rfl OwnFp.n_q rfl k_) ?_
  refine own_go (t' := T2.setTop (mkF m 15 #[.val (.ref a1)] [(.double (FP.dadd (FP.l2d (1 : Int64)) (FP.ddiv (FP.i2d (0 : Int32)) (4741671816366391296 : UInt64))))])) (fun _ k_ => XS.daddS X2.here hx rfl (Jvm.hb hby d12_14) rfl OwnFp.n_s rfl k_) ?_
  exact own_retD X2 hx Bd.returns (BodyLoose.notSynchronized Bd) (Jvm.hb hby d12_15) (by decide) (by decide) ⟨rfl, N2, e2⟩
theorem ef_rm_sf (m : MethodId) (x0 : Addr) : entryFrame m #[(.ref x0)] 1 = mkF m 0 #[.val (.ref x0)] [] := by first | (simp [entryFrame, mkF, argsToLocals, Value.category]; done) | rfl
set_option maxRecDepth 65536 in
set_option maxHeartbeats 40000000 in
theorem rm_sf (l : Launch) (Z : State) (a0 : Array Value) (hw : ∀ d ∈ tables_1, d.before a0 Z = true) (ws : List Jvm.Cond) (a1 : Addr) (h0 : Heap) (n0 : Nat) (Z0 : n0 ≤ h0.size)  :
    own_Ctr l Z (⟨"com/example/libgate/libgate/BucketBuilder", "self", "()Lcom/example/libgate/libgate/BucketBuilder;"⟩ : MethodName) prog_1_method_5_code 1 (some (.object "com/example/libgate/libgate/BucketBuilder")) ws ({ frames := 0, cells := 0, slots := 0, locals := 0 } : Room) #[(.ref a1)] h0 (fun v h L => v = some (.ref a1) ∧ Fr n0 L ∧ h = h0) := by
  refine own_enter (plainFor_of_name pn_d15) ?_
  intro p e s m below meth c s₁ Bd hZ hml X0 e0
  have hx := Bd.exec
  have hby := Bd.bytes
  have hown : s.vm.findClass "com/example/libgate/libgate/BucketBuilder" = some m.cls := findClass_of_methodNamed Bd.named
  have hnm := (name_of_methodNamed Bd.named Bd.method).1
  have N0 := Fr.nil n0
  refine own_go (t' := s₁.setTop (mkF m 0 #[.val (.ref a1)] [])) (fun _ k_ => castTop (ef_rm_sf m a1) k_) ?_
  refine own_go (t' := s₁.setTop (mkF m 1 #[.val (.ref a1)] [(.ref a1)])) (fun _ k_ => XS.aloadN X0.here hx rfl (Jvm.hb hby d15_0) rfl rfl k_) ?_
  exact own_retA X0 hx Bd.returns (BodyLoose.notSynchronized Bd) (Jvm.hb hby d15_1) rfl rfl (by decide) (by decide) ⟨rfl, N0, e0⟩
theorem ef_rm_bu (m : MethodId) (x0 : Addr) (x1 : Int32) : entryFrame m #[(.ref x0), (.int x1)] 2 = mkF m 0 #[.val (.ref x0), .val (.int x1)] [] := by first | (simp [entryFrame, mkF, argsToLocals, Value.category]; done) | rfl
set_option maxRecDepth 65536 in
set_option maxHeartbeats 40000000 in
theorem rm_bu (l : Launch) (Z : State) (a0 : Array Value) (hw : ∀ d ∈ tables_1, d.before a0 Z = true) (ws : List Jvm.Cond) (a1 : Addr) (p2 : Int32) (u w : Value) (h0 : Heap) (n0 : Nat) (Z0 : n0 ≤ h0.size) (E0 : Exa Z h0 a1 "com/example/libgate/libgate/BucketBuilderBurstPinLaw") (F1 : Fld Z h0 a1 "com/example/libgate/libgate/BucketBuilder" "burstPermits" "I" u) (F2 : Fld Z h0 a1 "com/example/libgate/libgate/BucketBuilder" "permitsPerSecond" "D" w) (g1 : n0 ≤ a1) (hp : ¬ p2 < 0) :
    own_Ctr l Z (⟨"com/example/libgate/libgate/BucketBuilder", "burst", "(I)Lcom/example/libgate/libgate/BucketBuilder;"⟩ : MethodName) prog_1_method_3_code 2 (some (.object "com/example/libgate/libgate/BucketBuilder")) ws ({ frames := 1, cells := 0, slots := 0, locals := 12 } : Room) #[(.ref a1), (.int p2)] h0 (fun v h L => v = some (.ref a1) ∧ Fr n0 L ∧ Keep h0 h [a1] ∧ Exa Z h a1 "com/example/libgate/libgate/BucketBuilderBurstPinLaw" ∧ Fld Z h a1 "com/example/libgate/libgate/BucketBuilder" "burstPermits" "I" (.int p2) ∧ Fld Z h a1 "com/example/libgate/libgate/BucketBuilder" "permitsPerSecond" "D" w) := by
  refine own_enter (plainFor_of_name pn_d16) ?_
  intro p e s m below meth c s₁ Bd hZ hml X0 e0
  have hx := Bd.exec
  have hby := Bd.bytes
  have hown : s.vm.findClass "com/example/libgate/libgate/BucketBuilder" = some m.cls := findClass_of_methodNamed Bd.named
  have hnm := (name_of_methodNamed Bd.named Bd.method).1
  have N0 := Fr.nil n0
  refine own_go (t' := s₁.setTop (mkF m 0 #[.val (.ref a1), .val (.int p2)] [])) (fun _ k_ => castTop (ef_rm_bu m a1 p2) k_) ?_
  have sne : Jvm.RoadKit.slotOf Z "com/example/libgate/libgate/BucketBuilder" "burstPermits" "I" ≠ Jvm.RoadKit.slotOf Z "com/example/libgate/libgate/BucketBuilder" "permitsPerSecond" "D" := slot_ne (C := "com/example/libgate/libgate/BucketBuilderBurstPinLaw") (Or.inl (hw _ (List.mem_of_getElem? (i := 35) rfl))) (Or.inl (hw _ (List.mem_of_getElem? (i := 84) rfl))) (by decide) (t := .int) (t' := .double) (by decide) (by decide)
  refine own_go (t' := s₁.setTop (mkF m 1 #[.val (.ref a1), .val (.int p2)] [(.int p2)])) (fun _ k_ => XS.iloadN X0.here hx rfl (Jvm.hb hby d16_0) rfl k_) ?_
  refine own_go (t' := s₁.setTop (mkF m 18 #[.val (.ref a1), .val (.int p2)] [])) (fun _ k_ => XS.ifYes X0.here hx rfl (pc0 := 1) (pc' := 18) rfl (Jvm.hb hby d16_1) rfl ((if0 _ _).trans (flt hp).2.1) (by decide) (by decide) k_) ?_
  refine own_go (t' := s₁.setTop (mkF m 19 #[.val (.ref a1), .val (.int p2)] [(.ref a1)])) (fun _ k_ => XS.aloadN X0.here hx rfl (Jvm.hb hby d16_18) rfl rfl k_) ?_
  refine own_go (t' := s₁.setTop (mkF m 20 #[.val (.ref a1), .val (.int p2)] [(.int p2), (.ref a1)])) (fun _ k_ => XS.iloadN X0.here hx rfl (Jvm.hb hby d16_19) rfl k_) ?_
  obtain ⟨T1, h1, X1, e1, W1, st1⟩ := putF X0 hx hZ hown (host := "") (Or.inl (hw _ (List.mem_of_getElem? (i := 34) rfl))) Via.refl e0 F1 E0 (Or.inl (hw _ (List.mem_of_getElem? (i := 35) rfl))) (hw _ (List.mem_of_getElem? (i := 23) rfl)) (ty := .int) (by decide) rfl rfl (g := (mkF m 20 #[.val (.ref a1), .val (.int p2)] [(.int p2), (.ref a1)])) rfl rfl (Jvm.hb hby d16_20)
  refine own_go (t' := T1.setTop (mkF m 23 #[.val (.ref a1), .val (.int p2)] [])) st1 ?_
  have N1 := Fr.snoc X1 N0 g1
  have G1 : Fld Z h1 a1 "com/example/libgate/libgate/BucketBuilder" "burstPermits" "I" (.int p2) := F1.same W1
  have G2 : Fld Z h1 a1 "com/example/libgate/libgate/BucketBuilder" "permitsPerSecond" "D" w := F2.other W1 (Or.inr (Ne.symm sne))
  have K : Keep h0 h1 [a1] := (Keep.refl _ _).wr W1 (Or.inl (List.mem_of_getElem? (i := 0) rfl))
  have Zs : n0 ≤ h1.size := Nat.le_trans Z0 K.1
  refine own_go (t' := T1.setTop (mkF m 24 #[.val (.ref a1), .val (.int p2)] [(.ref a1)])) (fun _ k_ => XS.aloadN X1.here hx rfl (Jvm.hb hby d16_23) rfl rfl k_) ?_
  obtain ⟨T2, L2, v2, X2, hQ2, st2⟩ := own_private X1 hx hZ (y := (⟨"com/example/libgate/libgate/BucketBuilder", "self", "()Lcom/example/libgate/libgate/BucketBuilder;"⟩ : MethodName)) hown (hw _ (List.mem_of_getElem? (i := 85) rfl)) (hw _ (List.mem_of_getElem? (i := 86) rfl)) (hw _ (List.mem_of_getElem? (i := 93) rfl)) rfl (hw _ (List.mem_of_getElem? (i := 87) rfl)) (hw _ (List.mem_of_getElem? (i := 88) rfl)) (hw _ (List.mem_of_getElem? (i := 31) rfl)) (by decide) (E0.wr W1) (rm_sf l Z a0 hw [] a1 h1 n0 Zs) e1 (g := (mkF m 24 #[.val (.ref a1), .val (.int p2)] [(.ref a1)])) rfl (by rw [hml]; rfl) (argsL := []) (rest := []) (lenOf pd_d15 rfl) rfl (W := 0) (by show 2 * 0 + _ ≤ _; exact Nat.le_of_eq rfl) (Jvm.hb hby d16_24) (by decide) (by decide) (by decide) (by decide)
  obtain ⟨rfl, Nq2, e2⟩ := hQ2
  have N2 := Fr.app N1 Nq2
  refine own_go (t' := T2.setTop (mkF m 27 #[.val (.ref a1), .val (.int p2)] [(.ref a1)])) st2 ?_
  exact own_retA X2 hx Bd.returns (BodyLoose.notSynchronized Bd) (Jvm.hb hby d16_27) rfl rfl (by decide) (by decide) ⟨rfl, N2, by rw [e2]; exact K, by rw [e2]; exact E0.wr W1, by rw [e2]; exact G1, by rw [e2]; exact G2⟩
theorem ef_rm_ra (m : MethodId) (x0 : Addr) (x1 : Int32) (x2 : Addr) : entryFrame m #[(.ref x0), (.int x1), (.ref x2)] 3 = mkF m 0 #[.val (.ref x0), .val (.int x1), .val (.ref x2)] [] := by first | (simp [entryFrame, mkF, argsToLocals, Value.category]; done) | rfl
set_option maxRecDepth 65536 in
set_option maxHeartbeats 40000000 in
theorem rm_ra (l : Launch) (Z : State) (a0 : Array Value) (hw : ∀ d ∈ tables_1, d.before a0 Z = true) (ws : List Jvm.Cond) (a1 : Addr) (p2 : Int32) (d : Addr) (u w : Value) (h0 : Heap) (n0 : Nat) (Z0 : n0 ≤ h0.size) (E0 : Exa Z h0 a1 "com/example/libgate/libgate/BucketBuilderBurstPinLaw") (F1 : Fld Z h0 a1 "com/example/libgate/libgate/BucketBuilder" "burstPermits" "I" w) (F2 : Fld Z h0 a1 "com/example/libgate/libgate/BucketBuilder" "permitsPerSecond" "D" u) (Ed : Exa Z h0 d "java/time/Duration") (D1 : Fld Z h0 d "java/time/Duration" "seconds" "J" (.long 1)) (D2 : Fld Z h0 d "java/time/Duration" "nanos" "I" (.int 0)) (g1 : n0 ≤ a1) (hp : 1 ≤ p2.toInt) :
    own_CtrW l Z (⟨"com/example/libgate/libgate/BucketBuilder", "rate", "(ILjava/time/Duration;)Lcom/example/libgate/libgate/BucketBuilder;"⟩ : MethodName) prog_1_method_2_code 3 (some (.object "com/example/libgate/libgate/BucketBuilder")) ws ({ frames := 2, cells := 2, slots := 28, locals := 40 } : Room) #[(.ref a1), (.int p2), (.ref d)] h0 (fun v h L => v = some (.ref a1) ∧ Fr n0 L ∧ Keep h0 h [a1] ∧ Exa Z h a1 "com/example/libgate/libgate/BucketBuilderBurstPinLaw" ∧ Fld Z h a1 "com/example/libgate/libgate/BucketBuilder" "burstPermits" "I" w ∧ Fld Z h a1 "com/example/libgate/libgate/BucketBuilder" "permitsPerSecond" "D" (.double (FP.ddiv (FP.i2d p2) (FP.dadd (FP.l2d (1 : Int64)) (FP.ddiv (FP.i2d (0 : Int32)) (4741671816366391296 : UInt64)))))) := by
  refine own_enterW (plainFor_of_name pn_d7) ?_
  intro p e s m below meth c s₁ Bd hZ hml X0 e0
  have hx := Bd.exec
  have hby := Bd.bytes
  have hown : s.vm.findClass "com/example/libgate/libgate/BucketBuilder" = some m.cls := findClass_of_methodNamed Bd.named
  have hnm := (name_of_methodNamed Bd.named Bd.method).1
  have N0 := Fr.nil n0
  refine own_go (t' := s₁.setTop (mkF m 0 #[.val (.ref a1), .val (.int p2), .val (.ref d)] [])) (fun _ k_ => castTop (ef_rm_ra m a1 p2 d) k_) ?_
  have sne : Jvm.RoadKit.slotOf Z "com/example/libgate/libgate/BucketBuilder" "burstPermits" "I" ≠ Jvm.RoadKit.slotOf Z "com/example/libgate/libgate/BucketBuilder" "permitsPerSecond" "D" := slot_ne (C := "com/example/libgate/libgate/BucketBuilderBurstPinLaw") (Or.inl (hw _ (List.mem_of_getElem? (i := 35) rfl))) (Or.inl (hw _ (List.mem_of_getElem? (i := 84) rfl))) (by decide) (t := .int) (t' := .double) (by decide) (by decide)
  have hS0 : s.Since s.vm h0.size := State.WarmedH.since (State.WarmedH.refl s) _
  have wS : ∀ d ∈ Bundle.stringAtoms, d.before a0 Z = true := fun d hd => by
    simp only [Bundle.stringAtoms, List.mem_cons, List.not_mem_nil, or_false] at hd
    rcases hd with rfl | rfl | rfl | rfl | rfl | rfl | rfl
    · exact (hw _ (List.mem_of_getElem? (i := 47) rfl))
    · exact (hw _ (List.mem_of_getElem? (i := 48) rfl))
    · exact (hw _ (List.mem_of_getElem? (i := 49) rfl))
    · exact (hw _ (List.mem_of_getElem? (i := 50) rfl))
    · exact (hw _ (List.mem_of_getElem? (i := 51) rfl))
    · exact (hw _ (List.mem_of_getElem? (i := 52) rfl))
    · exact (hw _ (List.mem_of_getElem? (i := 53) rfl))
  have hp0 : (0 : Int32) < p2 := Int32.lt_iff_toInt_lt.mpr (by rw [show (0 : Int32).toInt = 0 by decide]; omega)
  refine own_go (t' := s₁.setTop (mkF m 1 #[.val (.ref a1), .val (.int p2), .val (.ref d)] [(.int p2)])) (fun _ k_ => XS.iloadN X0.here hx rfl (Jvm.hb hby d7_0) rfl k_) ?_
  obtain ⟨T1, L1, v1, X1, hQ1, st1⟩ := own_static X0 hx hZ hown (hw _ (List.mem_of_getElem? (i := 42) rfl)) (hw _ (List.mem_of_getElem? (i := 43) rfl)) (hw _ (List.mem_of_getElem? (i := 44) rfl)) (hw _ (List.mem_of_getElem? (i := 45) rfl)) (by decide) (rm_cp l Z a0 hw [] p2 h0 n0 Z0 hp0) e0 (g := (mkF m 1 #[.val (.ref a1), .val (.int p2), .val (.ref d)] [(.int p2)])) rfl (by rw [hml]; rfl) (argsL := [(.int p2)]) (rest := []) (lenOf pd_d8 rfl) rfl (W := 0) (by show 2 * 0 + _ ≤ _; exact Nat.le_of_eq rfl) (Jvm.hb hby d7_1) (by decide) (by decide) (by decide) (by decide)
  obtain ⟨rfl, Nq1, e1⟩ := hQ1
  have N1 := Fr.app N0 Nq1
  refine own_go (t' := T1.setTop (mkF m 4 #[.val (.ref a1), .val (.int p2), .val (.ref d)] [])) st1 ?_
  refine own_go (t' := T1.setTop (mkF m 5 #[.val (.ref a1), .val (.int p2), .val (.ref d)] [(.ref d)])) (fun _ k_ => XS.aloadN X1.here hx rfl (Jvm.hb hby d7_4) rfl rfl k_) ?_
  obtain ⟨s1, T2, h2, k2, X2, e2, E2, hS2, hk2, hZ, hown, st2⟩ := ldcS (s := s) (vm0 := s.vm) X1 hx hZ hown (hw _ (List.mem_of_getElem? (i := 46) rfl)) wS e1 hS0 (Nat.le_refl _) (g := (mkF m 5 #[.val (.ref a1), .val (.int p2), .val (.ref d)] [(.ref d)])) rfl (Jvm.hb hby d7_5) (n := 24) (by decide) (by decide) (by decide) (by decide)
  refine own_go (t' := T2.setTop (mkF m 7 #[.val (.ref a1), .val (.int p2), .val (.ref d)] [(.ref s1), (.ref d)])) st2 ?_
  have E0 := E0.ext E2
  have F1 := F1.ext E2
  have F2 := F2.ext E2
  have Ed := Ed.ext E2
  have D1 := D1.ext E2
  have D2 := D2.ext E2
  have Z1 : n0 ≤ h2.size := Nat.le_trans Z0 E2.1
  obtain ⟨T3, L3, v3, X3, hQ3, st3⟩ := own_static X2 hx hZ hown (hw _ (List.mem_of_getElem? (i := 54) rfl)) (hw _ (List.mem_of_getElem? (i := 55) rfl)) (hw _ (List.mem_of_getElem? (i := 56) rfl)) (hw _ (List.mem_of_getElem? (i := 57) rfl)) (by decide) (rm_rn l Z a0 hw [] d s1 h2 n0 Z1) e2 (g := (mkF m 7 #[.val (.ref a1), .val (.int p2), .val (.ref d)] [(.ref s1), (.ref d)])) rfl (by rw [hml]; rfl) (argsL := [(.ref d), (.ref s1)]) (rest := []) (lenOf pd_d9 rfl) rfl (W := 0) (by show 2 * 0 + _ ≤ _; exact Nat.le_of_eq rfl) (Jvm.hb hby d7_7) (by decide) (by decide) (by decide) (by decide)
  obtain ⟨rfl, Nq3, e3⟩ := hQ3
  have N3 := Fr.app N1 Nq3
  refine own_go (t' := T3.setTop (mkF m 10 #[.val (.ref a1), .val (.int p2), .val (.ref d)] [(.ref d)])) st3 ?_
  refine own_go (t' := T3.setTop (mkF m 11 #[.val (.ref a1), .val (.int p2), .val (.ref d)] [])) (fun _ k_ => XS.pop X3.here hx rfl (Jvm.hb hby d7_10) rfl rfl k_) ?_
  refine own_go (t' := T3.setTop (mkF m 12 #[.val (.ref a1), .val (.int p2), .val (.ref d)] [(.ref d)])) (fun _ k_ => XS.aloadN X3.here hx rfl (Jvm.hb hby d7_11) rfl rfl k_) ?_
  obtain ⟨T4, L4, v4, X4, hQ4, st4⟩ := own_virtual X3 hx hZ (y := (⟨"java/time/Duration", "isZero", "()Z"⟩ : MethodName)) hown (hw _ (List.mem_of_getElem? (i := 58) rfl)) (hw _ (List.mem_of_getElem? (i := 59) rfl)) (hw _ (List.mem_of_getElem? (i := 61) rfl)) (hw _ (List.mem_of_getElem? (i := 60) rfl)) (hw _ (List.mem_of_getElem? (i := 62) rfl)) (hw _ (List.mem_of_getElem? (i := 4) rfl)) (by decide) Ed (rm_iz l Z a0 hw [] d h2 n0 Z1 D1 D2) e3 (g := (mkF m 12 #[.val (.ref a1), .val (.int p2), .val (.ref d)] [(.ref d)])) rfl (by rw [hml]; rfl) (argsL := []) (rest := []) (lenOf pd_d10 rfl) rfl (W := 0) (by show 2 * 0 + _ ≤ _; exact Nat.le_of_eq rfl) (Jvm.hb hby d7_12) (by decide) (by decide) (by decide) (by decide)
  obtain ⟨rfl, Nq4, e4⟩ := hQ4
  have N4 := Fr.app N3 Nq4
  refine own_go (t' := T4.setTop (mkF m 15 #[.val (.ref a1), .val (.int p2), .val (.ref d)] [(.int (0 : Int32))])) st4 ?_
  refine own_go (t' := T4.setTop (mkF m 18 #[.val (.ref a1), .val (.int p2), .val (.ref d)] [])) (fun _ k_ => XS.ifNo X4.here hx rfl (Jvm.hb hby d7_15) rfl ((if0 _ _).trans (teq rfl).2) k_) ?_
  refine own_go (t' := T4.setTop (mkF m 19 #[.val (.ref a1), .val (.int p2), .val (.ref d)] [(.ref d)])) (fun _ k_ => XS.aloadN X4.here hx rfl (Jvm.hb hby d7_18) rfl rfl k_) ?_
  obtain ⟨T5, L5, v5, X5, hQ5, st5⟩ := own_virtual X4 hx hZ (y := (⟨"java/time/Duration", "isNegative", "()Z"⟩ : MethodName)) hown (hw _ (List.mem_of_getElem? (i := 63) rfl)) (hw _ (List.mem_of_getElem? (i := 64) rfl)) (hw _ (List.mem_of_getElem? (i := 66) rfl)) (hw _ (List.mem_of_getElem? (i := 65) rfl)) (hw _ (List.mem_of_getElem? (i := 67) rfl)) (hw _ (List.mem_of_getElem? (i := 4) rfl)) (by decide) Ed (rm_ng l Z a0 hw [] d h2 n0 Z1 D1) e4 (g := (mkF m 19 #[.val (.ref a1), .val (.int p2), .val (.ref d)] [(.ref d)])) rfl (by rw [hml]; rfl) (argsL := []) (rest := []) (lenOf pd_d11 rfl) rfl (W := 0) (by show 2 * 0 + _ ≤ _; exact Nat.le_of_eq rfl) (Jvm.hb hby d7_19) (by decide) (by decide) (by decide) (by decide)
  obtain ⟨rfl, Nq5, e5⟩ := hQ5
  have N5 := Fr.app N4 Nq5
  refine own_go (t' := T5.setTop (mkF m 22 #[.val (.ref a1), .val (.int p2), .val (.ref d)] [(.int (0 : Int32))])) st5 ?_
  refine own_go (t' := T5.setTop (mkF m 42 #[.val (.ref a1), .val (.int p2), .val (.ref d)] [])) (fun _ k_ => XS.ifYes X5.here hx rfl (pc0 := 22) (pc' := 42) rfl (Jvm.hb hby d7_22) rfl ((if0 _ _).trans (teq rfl).1) (by decide) (by decide) k_) ?_
  refine own_go (t' := T5.setTop (mkF m 43 #[.val (.ref a1), .val (.int p2), .val (.ref d)] [(.ref a1)])) (fun _ k_ => XS.aloadN X5.here hx rfl (Jvm.hb hby d7_42) rfl rfl k_) ?_
  refine own_go (t' := T5.setTop (mkF m 44 #[.val (.ref a1), .val (.int p2), .val (.ref d)] [(.int p2), (.ref a1)])) (fun _ k_ => XS.iloadN X5.here hx rfl (Jvm.hb hby d7_43) rfl k_) ?_
  refine own_go (t' := T5.setTop (mkF m 45 #[.val (.ref a1), .val (.int p2), .val (.ref d)] [(.double (FP.i2d p2)), (.ref a1)])) (fun _ k_ => XS.i2dS X5.here hx rfl (Jvm.hb hby d7_44) rfl rfl k_) ?_
  refine own_go (t' := T5.setTop (mkF m 46 #[.val (.ref a1), .val (.int p2), .val (.ref d)] [(.ref d), (.double (FP.i2d p2)), (.ref a1)])) (fun _ k_ => XS.aloadN X5.here hx rfl (Jvm.hb hby d7_45) rfl rfl k_) ?_
  obtain ⟨T6, L6, v6, X6, hQ6, st6⟩ := own_static X5 hx hZ hown (hw _ (List.mem_of_getElem? (i := 68) rfl)) (hw _ (List.mem_of_getElem? (i := 69) rfl)) (hw _ (List.mem_of_getElem? (i := 70) rfl)) (hw _ (List.mem_of_getElem? (i := 71) rfl)) (by decide) (rm_se l Z a0 hw [] d h2 n0 Z1 Ed D1 D2) e5 (g := (mkF m 46 #[.val (.ref a1), .val (.int p2), .val (.ref d)] [(.ref d), (.double (FP.i2d p2)), (.ref a1)])) rfl (by rw [hml]; rfl) (argsL := [(.ref d)]) (rest := [(.double (FP.i2d p2)), (.ref a1)]) (lenOf pd_d12 rfl) rfl (W := 3) (by show 2 * 0 + _ ≤ _; exact Nat.le_of_eq rfl) (Jvm.hb hby d7_46) (by decide) (by decide) (by decide) (by decide)
  obtain ⟨rfl, Nq6, e6⟩ := hQ6
  have N6 := Fr.app N5 Nq6
  refine own_go (t' := T6.setTop (mkF m 49 #[.val (.ref a1), .val (.int p2), .val (.ref d)] [(.double (FP.dadd (FP.l2d (1 : Int64)) (FP.ddiv (FP.i2d (0 : Int32)) (4741671816366391296 : UInt64)))), (.double (FP.i2d p2)), (.ref a1)])) st6 ?_
  refine own_go (t' := T6.setTop (mkF m 50 #[.val (.ref a1), .val (.int p2), .val (.ref d)] [(.double (FP.ddiv (FP.i2d p2) (FP.dadd (FP.l2d (1 : Int64)) (FP.ddiv (FP.i2d (0 : Int32)) (4741671816366391296 : UInt64))))), (.ref a1)])) (fun _ k_ => XS.ddivS X6.here hx rfl (Jvm.hb hby d7_49) rfl (OwnFp.rate_nan hp) rfl k_) ?_
  obtain ⟨T7, h7, X7, e7, W7, st7⟩ := putF X6 hx hZ hown (host := "") (Or.inl (hw _ (List.mem_of_getElem? (i := 83) rfl))) Via.refl e6 F2 E0 (Or.inl (hw _ (List.mem_of_getElem? (i := 84) rfl))) (hw _ (List.mem_of_getElem? (i := 23) rfl)) (ty := .double) (by decide) rfl rfl (g := (mkF m 50 #[.val (.ref a1), .val (.int p2), .val (.ref d)] [(.double (FP.ddiv (FP.i2d p2) (FP.dadd (FP.l2d (1 : Int64)) (FP.ddiv (FP.i2d (0 : Int32)) (4741671816366391296 : UInt64))))), (.ref a1)])) rfl rfl (Jvm.hb hby d7_50)
  refine own_go (t' := T7.setTop (mkF m 53 #[.val (.ref a1), .val (.int p2), .val (.ref d)] [])) st7 ?_
  have N7 := Fr.snoc X7 N6 g1
  have G2 : Fld Z h7 a1 "com/example/libgate/libgate/BucketBuilder" "permitsPerSecond" "D" (.double (FP.ddiv (FP.i2d p2) (FP.dadd (FP.l2d (1 : Int64)) (FP.ddiv (FP.i2d (0 : Int32)) (4741671816366391296 : UInt64))))) := F2.same W7
  have G1 : Fld Z h7 a1 "com/example/libgate/libgate/BucketBuilder" "burstPermits" "I" w := F1.other W7 (Or.inr sne)
  have K : Keep h0 h7 [a1] := ((Keep.refl _ _).ext E2).wr W7 (Or.inl (List.mem_of_getElem? (i := 0) rfl))
  have Zs : n0 ≤ h7.size := Nat.le_trans Z0 K.1
  have hkx : k2 ≤ h7.size := by rw [W7.size]; exact hk2
  refine own_go (t' := T7.setTop (mkF m 54 #[.val (.ref a1), .val (.int p2), .val (.ref d)] [(.ref a1)])) (fun _ k_ => XS.aloadN X7.here hx rfl (Jvm.hb hby d7_53) rfl rfl k_) ?_
  obtain ⟨T8, L8, v8, X8, hQ8, st8⟩ := own_private X7 hx hZ (y := (⟨"com/example/libgate/libgate/BucketBuilder", "self", "()Lcom/example/libgate/libgate/BucketBuilder;"⟩ : MethodName)) hown (hw _ (List.mem_of_getElem? (i := 85) rfl)) (hw _ (List.mem_of_getElem? (i := 86) rfl)) (hw _ (List.mem_of_getElem? (i := 93) rfl)) rfl (hw _ (List.mem_of_getElem? (i := 87) rfl)) (hw _ (List.mem_of_getElem? (i := 88) rfl)) (hw _ (List.mem_of_getElem? (i := 31) rfl)) (by decide) (E0.wr W7) (rm_sf l Z a0 hw [] a1 h7 n0 Zs) e7 (g := (mkF m 54 #[.val (.ref a1), .val (.int p2), .val (.ref d)] [(.ref a1)])) rfl (by rw [hml]; rfl) (argsL := []) (rest := []) (lenOf pd_d15 rfl) rfl (W := 0) (by show 2 * 0 + _ ≤ _; exact Nat.le_of_eq rfl) (Jvm.hb hby d7_54) (by decide) (by decide) (by decide) (by decide)
  obtain ⟨rfl, Nq8, e8⟩ := hQ8
  have N8 := Fr.app N7 Nq8
  refine own_go (t' := T8.setTop (mkF m 57 #[.val (.ref a1), .val (.int p2), .val (.ref d)] [(.ref a1)])) st8 ?_
  exact own_retAW (s := s) X8 hS2 (by rw [e8]; exact hkx) hx Bd.returns (BodyLoose.notSynchronized Bd) (Jvm.hb hby d7_57) rfl rfl (by decide) (by decide) ⟨rfl, N8, by rw [e8]; exact K, by rw [e8]; exact E0.wr W7, by rw [e8]; exact G1, by rw [e8]; exact G2⟩
theorem ef_rm_ri (m : MethodId) (x0 : Addr) (x1 : UInt64) (x2 : Int32) (x3 : UInt64) : entryFrame m #[(.ref x0), (.double x1), (.int x2), (.double x3)] 10 = mkF m 0 #[.val (.ref x0), .val (.double x1), .second, .val (.int x2), .val (.double x3), .second, .unset, .unset, .unset, .unset] [] := by first | (simp [entryFrame, mkF, argsToLocals, Value.category]; done) | rfl
set_option maxRecDepth 65536 in
set_option maxHeartbeats 40000000 in
theorem rm_ri (l : Launch) (Z : State) (a0 : Array Value) (hw : ∀ d ∈ tables_1, d.before a0 Z = true) (ws : List Jvm.Cond) (a1 : Addr) (p2 : UInt64) (p3 : Int32) (u0 u1 u2 u3 u4 u5 u6 : Value) (h0 : Heap) (n0 : Nat) (Z0 : n0 ≤ h0.size) (E0 : Exa Z h0 a1 "com/example/libgate/libgate/BucketRate") (F0_0 : Fld Z h0 a1 "com/example/libgate/libgate/BucketRate" "permitsPerSecond" "D" u0) (F1_0 : Fld Z h0 a1 "com/example/libgate/libgate/BucketRate" "burstPermits" "I" u1) (F2_0 : Fld Z h0 a1 "com/example/libgate/libgate/BucketRate" "warmupNanos" "D" u2) (F3_0 : Fld Z h0 a1 "com/example/libgate/libgate/BucketRate" "intervalNanos" "D" u3) (F4_0 : Fld Z h0 a1 "com/example/libgate/libgate/BucketRate" "thresholdPermits" "D" u4) (F5_0 : Fld Z h0 a1 "com/example/libgate/libgate/BucketRate" "slopeNanos" "D" u5) (F6_0 : Fld Z h0 a1 "com/example/libgate/libgate/BucketRate" "maxPermits" "D" u6) (g1 : n0 ≤ a1) (hq : ¬ p3 = -1) (hn : Jvm.Free.Fl.NoNaN64 (FP.ddiv 4741671816366391296 p2)) :
    own_Ctr l Z (⟨"com/example/libgate/libgate/BucketRate", "<init>", "(DID)V"⟩ : MethodName) prog_3_method_1_code 10 none ws ({ frames := 1, cells := 0, slots := 0, locals := 12 } : Room) #[(.ref a1), (.double p2), (.int p3), (.double (0 : UInt64))] h0 (fun v h L => v = none ∧ Fr n0 L ∧ Keep h0 h [a1] ∧ Exa Z h a1 "com/example/libgate/libgate/BucketRate" ∧ Fld Z h a1 "com/example/libgate/libgate/BucketRate" "warmupNanos" "D" (.double 0) ∧ Fld Z h a1 "com/example/libgate/libgate/BucketRate" "maxPermits" "D" (.double (FP.i2d p3))) := by
  refine own_enter (plainFor_of_name pn_d19) ?_
  intro p e s m below meth c s₁ Bd hZ hml X0 e0
  have hx := Bd.exec
  have hby := Bd.bytes
  have hown : s.vm.findClass "com/example/libgate/libgate/BucketRate" = some m.cls := findClass_of_methodNamed Bd.named
  have hnm := (name_of_methodNamed Bd.named Bd.method).1
  have N0 := Fr.nil n0
  refine own_go (t' := s₁.setTop (mkF m 0 #[.val (.ref a1), .val (.double p2), .second, .val (.int p3), .val (.double (0 : UInt64)), .second, .unset, .unset, .unset, .unset] [])) (fun _ k_ => castTop (ef_rm_ri m a1 p2 p3 (0 : UInt64)) k_) ?_
  refine own_go (t' := s₁.setTop (mkF m 1 #[.val (.ref a1), .val (.double p2), .second, .val (.int p3), .val (.double (0 : UInt64)), .second, .unset, .unset, .unset, .unset] [(.ref a1)])) (fun _ k_ => XS.aloadN X0.here hx rfl (Jvm.hb hby d19_0) rfl rfl k_) ?_
  obtain ⟨T1, X1, e1, st1⟩ := initO X0 hx hZ hown (hw _ (List.mem_of_getElem? (i := 109) rfl)) (hw _ (List.mem_of_getElem? (i := 16) rfl)) (hw _ (List.mem_of_getElem? (i := 17) rfl)) e0 (g := (mkF m 1 #[.val (.ref a1), .val (.double p2), .second, .val (.int p3), .val (.double (0 : UInt64)), .second, .unset, .unset, .unset, .unset] [(.ref a1)])) rfl (by rw [hml]; rfl) rfl (Jvm.hb hby d19_1) (by decide) (W := 0) (by show 2 * 0 + _ ≤ _; exact Nat.le_of_eq rfl) (by decide)
  refine own_go (t' := T1.setTop (mkF m 4 #[.val (.ref a1), .val (.double p2), .second, .val (.int p3), .val (.double (0 : UInt64)), .second, .unset, .unset, .unset, .unset] [])) st1 ?_
  have sn3 : Jvm.RoadKit.slotOf Z "com/example/libgate/libgate/BucketRate" "warmupNanos" "D" ≠ Jvm.RoadKit.slotOf Z "com/example/libgate/libgate/BucketRate" "intervalNanos" "D" := slot_ne (C := "com/example/libgate/libgate/BucketRate") (Or.inr (hw _ (List.mem_of_getElem? (i := 115) rfl))) (Or.inr (hw _ (List.mem_of_getElem? (i := 117) rfl))) (by decide) (t := .double) (t' := .double) (by decide) (by decide)
  have sn4 : Jvm.RoadKit.slotOf Z "com/example/libgate/libgate/BucketRate" "warmupNanos" "D" ≠ Jvm.RoadKit.slotOf Z "com/example/libgate/libgate/BucketRate" "thresholdPermits" "D" := slot_ne (C := "com/example/libgate/libgate/BucketRate") (Or.inr (hw _ (List.mem_of_getElem? (i := 115) rfl))) (Or.inr (hw _ (List.mem_of_getElem? (i := 119) rfl))) (by decide) (t := .double) (t' := .double) (by decide) (by decide)
  have sn5 : Jvm.RoadKit.slotOf Z "com/example/libgate/libgate/BucketRate" "warmupNanos" "D" ≠ Jvm.RoadKit.slotOf Z "com/example/libgate/libgate/BucketRate" "slopeNanos" "D" := slot_ne (C := "com/example/libgate/libgate/BucketRate") (Or.inr (hw _ (List.mem_of_getElem? (i := 115) rfl))) (Or.inr (hw _ (List.mem_of_getElem? (i := 121) rfl))) (by decide) (t := .double) (t' := .double) (by decide) (by decide)
  have sn6 : Jvm.RoadKit.slotOf Z "com/example/libgate/libgate/BucketRate" "warmupNanos" "D" ≠ Jvm.RoadKit.slotOf Z "com/example/libgate/libgate/BucketRate" "maxPermits" "D" := slot_ne (C := "com/example/libgate/libgate/BucketRate") (Or.inr (hw _ (List.mem_of_getElem? (i := 115) rfl))) (Or.inr (hw _ (List.mem_of_getElem? (i := 123) rfl))) (by decide) (t := .double) (t' := .double) (by decide) (by decide)
  refine own_go (t' := T1.setTop (mkF m 5 #[.val (.ref a1), .val (.double p2), .second, .val (.int p3), .val (.double (0 : UInt64)), .second, .unset, .unset, .unset, .unset] [(.ref a1)])) (fun _ k_ => XS.aloadN X1.here hx rfl (Jvm.hb hby d19_4) rfl rfl k_) ?_
  refine own_go (t' := T1.setTop (mkF m 6 #[.val (.ref a1), .val (.double p2), .second, .val (.int p3), .val (.double (0 : UInt64)), .second, .unset, .unset, .unset, .unset] [(.double p2), (.ref a1)])) (fun _ k_ => XS.dloadN X1.here hx rfl (Jvm.hb hby d19_5) rfl k_) ?_
  obtain ⟨T2, h2, X2, e2, W2, st2⟩ := putF X1 hx hZ hown (host := "") (Or.inl (hw _ (List.mem_of_getElem? (i := 110) rfl))) Via.refl e1 F0_0 E0 (Or.inr ⟨(hw _ (List.mem_of_getElem? (i := 111) rfl)), rfl, hnm⟩) (hw _ (List.mem_of_getElem? (i := 105) rfl)) (ty := .double) (by decide) rfl rfl (g := (mkF m 6 #[.val (.ref a1), .val (.double p2), .second, .val (.int p3), .val (.double (0 : UInt64)), .second, .unset, .unset, .unset, .unset] [(.double p2), (.ref a1)])) rfl rfl (Jvm.hb hby d19_6)
  refine own_go (t' := T2.setTop (mkF m 9 #[.val (.ref a1), .val (.double p2), .second, .val (.int p3), .val (.double (0 : UInt64)), .second, .unset, .unset, .unset, .unset] [])) st2 ?_
  have N2 := Fr.snoc X2 N0 g1
  have K2 : Keep h0 h2 [a1] := (Keep.refl _ _).wr W2 (Or.inl (List.mem_of_getElem? (i := 0) rfl))
  have Ex2 : Exa Z h2 a1 "com/example/libgate/libgate/BucketRate" := E0.wr W2
  obtain ⟨u1_2, F1_2⟩ := own_any W2 F1_0
  obtain ⟨u2_2, F2_2⟩ := own_any W2 F2_0
  obtain ⟨u3_2, F3_2⟩ := own_any W2 F3_0
  obtain ⟨u4_2, F4_2⟩ := own_any W2 F4_0
  obtain ⟨u5_2, F5_2⟩ := own_any W2 F5_0
  obtain ⟨u6_2, F6_2⟩ := own_any W2 F6_0
  refine own_go (t' := T2.setTop (mkF m 10 #[.val (.ref a1), .val (.double p2), .second, .val (.int p3), .val (.double (0 : UInt64)), .second, .unset, .unset, .unset, .unset] [(.ref a1)])) (fun _ k_ => XS.aloadN X2.here hx rfl (Jvm.hb hby d19_9) rfl rfl k_) ?_
  refine own_go (t' := T2.setTop (mkF m 11 #[.val (.ref a1), .val (.double p2), .second, .val (.int p3), .val (.double (0 : UInt64)), .second, .unset, .unset, .unset, .unset] [(.int p3), (.ref a1)])) (fun _ k_ => XS.iloadN X2.here hx rfl (Jvm.hb hby d19_10) rfl k_) ?_
  obtain ⟨T3, h3, X3, e3, W3, st3⟩ := putF X2 hx hZ hown (host := "") (Or.inl (hw _ (List.mem_of_getElem? (i := 112) rfl))) Via.refl e2 F1_2 Ex2 (Or.inr ⟨(hw _ (List.mem_of_getElem? (i := 113) rfl)), rfl, hnm⟩) (hw _ (List.mem_of_getElem? (i := 105) rfl)) (ty := .int) (by decide) rfl rfl (g := (mkF m 11 #[.val (.ref a1), .val (.double p2), .second, .val (.int p3), .val (.double (0 : UInt64)), .second, .unset, .unset, .unset, .unset] [(.int p3), (.ref a1)])) rfl rfl (Jvm.hb hby d19_11)
  refine own_go (t' := T3.setTop (mkF m 14 #[.val (.ref a1), .val (.double p2), .second, .val (.int p3), .val (.double (0 : UInt64)), .second, .unset, .unset, .unset, .unset] [])) st3 ?_
  have N3 := Fr.snoc X3 N2 g1
  have K3 : Keep h0 h3 [a1] := K2.wr W3 (Or.inl (List.mem_of_getElem? (i := 0) rfl))
  have Ex3 : Exa Z h3 a1 "com/example/libgate/libgate/BucketRate" := Ex2.wr W3
  obtain ⟨u2_3, F2_3⟩ := own_any W3 F2_2
  obtain ⟨u3_3, F3_3⟩ := own_any W3 F3_2
  obtain ⟨u4_3, F4_3⟩ := own_any W3 F4_2
  obtain ⟨u5_3, F5_3⟩ := own_any W3 F5_2
  obtain ⟨u6_3, F6_3⟩ := own_any W3 F6_2
  refine own_go (t' := T3.setTop (mkF m 15 #[.val (.ref a1), .val (.double p2), .second, .val (.int p3), .val (.double (0 : UInt64)), .second, .unset, .unset, .unset, .unset] [(.ref a1)])) (fun _ k_ => XS.aloadN X3.here hx rfl (Jvm.hb hby d19_14) rfl rfl k_) ?_
  refine own_go (t' := T3.setTop (mkF m 17 #[.val (.ref a1), .val (.double p2), .second, .val (.int p3), .val (.double (0 : UInt64)), .second, .unset, .unset, .unset, .unset] [(.double (0 : UInt64)), (.ref a1)])) (fun _ k_ => XS.dload X3.here hx rfl (Jvm.hb hby d19_15) rfl k_) ?_
  obtain ⟨T4, h4, X4, e4, W4, st4⟩ := putF X3 hx hZ hown (host := "") (Or.inl (hw _ (List.mem_of_getElem? (i := 114) rfl))) Via.refl e3 F2_3 Ex3 (Or.inr ⟨(hw _ (List.mem_of_getElem? (i := 115) rfl)), rfl, hnm⟩) (hw _ (List.mem_of_getElem? (i := 105) rfl)) (ty := .double) (by decide) rfl rfl (g := (mkF m 17 #[.val (.ref a1), .val (.double p2), .second, .val (.int p3), .val (.double (0 : UInt64)), .second, .unset, .unset, .unset, .unset] [(.double (0 : UInt64)), (.ref a1)])) rfl rfl (Jvm.hb hby d19_17)
  refine own_go (t' := T4.setTop (mkF m 20 #[.val (.ref a1), .val (.double p2), .second, .val (.int p3), .val (.double (0 : UInt64)), .second, .unset, .unset, .unset, .unset] [])) st4 ?_
  have N4 := Fr.snoc X4 N3 g1
  have K4 : Keep h0 h4 [a1] := K3.wr W4 (Or.inl (List.mem_of_getElem? (i := 0) rfl))
  have Ex4 : Exa Z h4 a1 "com/example/libgate/libgate/BucketRate" := Ex3.wr W4
  have F2_4 : Fld Z h4 a1 "com/example/libgate/libgate/BucketRate" "warmupNanos" "D" (.double 0) := F2_3.same W4
  obtain ⟨u3_4, F3_4⟩ := own_any W4 F3_3
  obtain ⟨u4_4, F4_4⟩ := own_any W4 F4_3
  obtain ⟨u5_4, F5_4⟩ := own_any W4 F5_3
  obtain ⟨u6_4, F6_4⟩ := own_any W4 F6_3
  refine own_go (t' := T4.setTop (mkF m 21 #[.val (.ref a1), .val (.double p2), .second, .val (.int p3), .val (.double (0 : UInt64)), .second, .unset, .unset, .unset, .unset] [(.ref a1)])) (fun _ k_ => XS.aloadN X4.here hx rfl (Jvm.hb hby d19_20) rfl rfl k_) ?_
  refine own_go (t' := T4.setTop (mkF m 24 #[.val (.ref a1), .val (.double p2), .second, .val (.int p3), .val (.double (0 : UInt64)), .second, .unset, .unset, .unset, .unset] [(.double (4741671816366391296 : UInt64)), (.ref a1)])) (X4.ldc2DoubleC hx (own := "com/example/libgate/libgate/BucketRate") (index := 20) (b := (4741671816366391296 : UInt64)) hown (mvT hZ (hw _ (List.mem_of_getElem? (i := 82) rfl))) (g := (mkF m 21 #[.val (.ref a1), .val (.double p2), .second, .val (.int p3), .val (.double (0 : UInt64)), .second, .unset, .unset, .unset, .unset] [(.ref a1)])) rfl (Jvm.hb hby d19_21)) ?_
  refine own_go (t' := T4.setTop (mkF m 25 #[.val (.ref a1), .val (.double p2), .second, .val (.int p3), .val (.double (0 : UInt64)), .second, .unset, .unset, .unset, .unset] [(.double p2), (.double (4741671816366391296 : UInt64)), (.ref a1)])) (fun _ k_ => XS.dloadN X4.here hx rfl (Jvm.hb hby d19_24) rfl k_) ?_
  refine own_go (t' := T4.setTop (mkF m 26 #[.val (.ref a1), .val (.double p2), .second, .val (.int p3), .val (.double (0 : UInt64)), .second, .unset, .unset, .unset, .unset] [(.double (FP.ddiv (4741671816366391296 : UInt64) p2)), (.ref a1)])) (fun _ k_ => XS.ddivS X4.here hx rfl (Jvm.hb hby d19_25) rfl hn rfl k_) ?_
  obtain ⟨T5, h5, X5, e5, W5, st5⟩ := putF X4 hx hZ hown (host := "") (Or.inl (hw _ (List.mem_of_getElem? (i := 116) rfl))) Via.refl e4 F3_4 Ex4 (Or.inr ⟨(hw _ (List.mem_of_getElem? (i := 117) rfl)), rfl, hnm⟩) (hw _ (List.mem_of_getElem? (i := 105) rfl)) (ty := .double) (by decide) rfl rfl (g := (mkF m 26 #[.val (.ref a1), .val (.double p2), .second, .val (.int p3), .val (.double (0 : UInt64)), .second, .unset, .unset, .unset, .unset] [(.double (FP.ddiv (4741671816366391296 : UInt64) p2)), (.ref a1)])) rfl rfl (Jvm.hb hby d19_26)
  refine own_go (t' := T5.setTop (mkF m 29 #[.val (.ref a1), .val (.double p2), .second, .val (.int p3), .val (.double (0 : UInt64)), .second, .unset, .unset, .unset, .unset] [])) st5 ?_
  have N5 := Fr.snoc X5 N4 g1
  have K5 : Keep h0 h5 [a1] := K4.wr W5 (Or.inl (List.mem_of_getElem? (i := 0) rfl))
  have Ex5 : Exa Z h5 a1 "com/example/libgate/libgate/BucketRate" := Ex4.wr W5
  have F2_5 : Fld Z h5 a1 "com/example/libgate/libgate/BucketRate" "warmupNanos" "D" (.double 0) := F2_4.other W5 (Or.inr sn3)
  obtain ⟨u4_5, F4_5⟩ := own_any W5 F4_4
  obtain ⟨u5_5, F5_5⟩ := own_any W5 F5_4
  obtain ⟨u6_5, F6_5⟩ := own_any W5 F6_4
  refine own_go (t' := T5.setTop (mkF m 31 #[.val (.ref a1), .val (.double p2), .second, .val (.int p3), .val (.double (0 : UInt64)), .second, .unset, .unset, .unset, .unset] [(.double (0 : UInt64))])) (fun _ k_ => XS.dload X5.here hx rfl (Jvm.hb hby d19_29) rfl k_) ?_
  refine own_go (t' := T5.setTop (mkF m 32 #[.val (.ref a1), .val (.double p2), .second, .val (.int p3), .val (.double (0 : UInt64)), .second, .unset, .unset, .unset, .unset] [(.double (0 : UInt64)), (.double (0 : UInt64))])) (fun _ k_ => XS.dconst0 X5.here hx rfl (Jvm.hb hby d19_31) rfl k_) ?_
  refine own_go (t' := T5.setTop (mkF m 33 #[.val (.ref a1), .val (.double p2), .second, .val (.int p3), .val (.double (0 : UInt64)), .second, .unset, .unset, .unset, .unset] [(.int (cmpValue (FP.dcmp (0 : UInt64) (0 : UInt64)) CmpOp.l))])) (fun _ k_ => XS.dcmpS X5.here hx rfl (Jvm.hb hby d19_32) rfl rfl k_) ?_
  refine own_go (t' := T5.setTop (mkF m 136 #[.val (.ref a1), .val (.double p2), .second, .val (.int p3), .val (.double (0 : UInt64)), .second, .unset, .unset, .unset, .unset] [])) (fun _ k_ => XS.ifYes X5.here hx rfl (pc0 := 33) (pc' := 136) rfl (Jvm.hb hby d19_33) rfl ((if0 _ _).trans (flt (OwnFp.zero_zero _)).2.2.2) (by decide) (by decide) k_) ?_
  refine own_go (t' := T5.setTop (mkF m 137 #[.val (.ref a1), .val (.double p2), .second, .val (.int p3), .val (.double (0 : UInt64)), .second, .unset, .unset, .unset, .unset] [(.ref a1)])) (fun _ k_ => XS.aloadN X5.here hx rfl (Jvm.hb hby d19_136) rfl rfl k_) ?_
  refine own_go (t' := T5.setTop (mkF m 138 #[.val (.ref a1), .val (.double p2), .second, .val (.int p3), .val (.double (0 : UInt64)), .second, .unset, .unset, .unset, .unset] [(.double (0 : UInt64)), (.ref a1)])) (fun _ k_ => XS.dconst0 X5.here hx rfl (Jvm.hb hby d19_137) rfl k_) ?_
  obtain ⟨T6, h6, X6, e6, W6, st6⟩ := putF X5 hx hZ hown (host := "") (Or.inl (hw _ (List.mem_of_getElem? (i := 118) rfl))) Via.refl e5 F4_5 Ex5 (Or.inr ⟨(hw _ (List.mem_of_getElem? (i := 119) rfl)), rfl, hnm⟩) (hw _ (List.mem_of_getElem? (i := 105) rfl)) (ty := .double) (by decide) rfl rfl (g := (mkF m 138 #[.val (.ref a1), .val (.double p2), .second, .val (.int p3), .val (.double (0 : UInt64)), .second, .unset, .unset, .unset, .unset] [(.double (0 : UInt64)), (.ref a1)])) rfl rfl (Jvm.hb hby d19_138)
  refine own_go (t' := T6.setTop (mkF m 141 #[.val (.ref a1), .val (.double p2), .second, .val (.int p3), .val (.double (0 : UInt64)), .second, .unset, .unset, .unset, .unset] [])) st6 ?_
  have N6 := Fr.snoc X6 N5 g1
  have K6 : Keep h0 h6 [a1] := K5.wr W6 (Or.inl (List.mem_of_getElem? (i := 0) rfl))
  have Ex6 : Exa Z h6 a1 "com/example/libgate/libgate/BucketRate" := Ex5.wr W6
  have F2_6 : Fld Z h6 a1 "com/example/libgate/libgate/BucketRate" "warmupNanos" "D" (.double 0) := F2_5.other W6 (Or.inr sn4)
  obtain ⟨u5_6, F5_6⟩ := own_any W6 F5_5
  obtain ⟨u6_6, F6_6⟩ := own_any W6 F6_5
  refine own_go (t' := T6.setTop (mkF m 142 #[.val (.ref a1), .val (.double p2), .second, .val (.int p3), .val (.double (0 : UInt64)), .second, .unset, .unset, .unset, .unset] [(.ref a1)])) (fun _ k_ => XS.aloadN X6.here hx rfl (Jvm.hb hby d19_141) rfl rfl k_) ?_
  refine own_go (t' := T6.setTop (mkF m 143 #[.val (.ref a1), .val (.double p2), .second, .val (.int p3), .val (.double (0 : UInt64)), .second, .unset, .unset, .unset, .unset] [(.double (0 : UInt64)), (.ref a1)])) (fun _ k_ => XS.dconst0 X6.here hx rfl (Jvm.hb hby d19_142) rfl k_) ?_
  obtain ⟨T7, h7, X7, e7, W7, st7⟩ := putF X6 hx hZ hown (host := "") (Or.inl (hw _ (List.mem_of_getElem? (i := 120) rfl))) Via.refl e6 F5_6 Ex6 (Or.inr ⟨(hw _ (List.mem_of_getElem? (i := 121) rfl)), rfl, hnm⟩) (hw _ (List.mem_of_getElem? (i := 105) rfl)) (ty := .double) (by decide) rfl rfl (g := (mkF m 143 #[.val (.ref a1), .val (.double p2), .second, .val (.int p3), .val (.double (0 : UInt64)), .second, .unset, .unset, .unset, .unset] [(.double (0 : UInt64)), (.ref a1)])) rfl rfl (Jvm.hb hby d19_143)
  refine own_go (t' := T7.setTop (mkF m 146 #[.val (.ref a1), .val (.double p2), .second, .val (.int p3), .val (.double (0 : UInt64)), .second, .unset, .unset, .unset, .unset] [])) st7 ?_
  have N7 := Fr.snoc X7 N6 g1
  have K7 : Keep h0 h7 [a1] := K6.wr W7 (Or.inl (List.mem_of_getElem? (i := 0) rfl))
  have Ex7 : Exa Z h7 a1 "com/example/libgate/libgate/BucketRate" := Ex6.wr W7
  have F2_7 : Fld Z h7 a1 "com/example/libgate/libgate/BucketRate" "warmupNanos" "D" (.double 0) := F2_6.other W7 (Or.inr sn5)
  obtain ⟨u6_7, F6_7⟩ := own_any W7 F6_6
  refine own_go (t' := T7.setTop (mkF m 147 #[.val (.ref a1), .val (.double p2), .second, .val (.int p3), .val (.double (0 : UInt64)), .second, .unset, .unset, .unset, .unset] [(.int p3)])) (fun _ k_ => XS.iloadN X7.here hx rfl (Jvm.hb hby d19_146) rfl k_) ?_
  refine own_go (t' := T7.setTop (mkF m 148 #[.val (.ref a1), .val (.double p2), .second, .val (.int p3), .val (.double (0 : UInt64)), .second, .unset, .unset, .unset, .unset] [(.int (-1 : Int32)), (.int p3)])) (fun _ k_ => XS.iconst X7.here hx rfl (Jvm.hb hby d19_147) k_) ?_
  refine own_go (t' := T7.setTop (mkF m 161 #[.val (.ref a1), .val (.double p2), .second, .val (.int p3), .val (.double (0 : UInt64)), .second, .unset, .unset, .unset, .unset] [])) (fun _ k_ => XS.icmpYes X7.here hx rfl (pc0 := 148) (pc' := 161) rfl (Jvm.hb hby d19_148) rfl (feq hq).2 (by decide) (by decide) k_) ?_
  refine own_go (t' := T7.setTop (mkF m 162 #[.val (.ref a1), .val (.double p2), .second, .val (.int p3), .val (.double (0 : UInt64)), .second, .unset, .unset, .unset, .unset] [(.ref a1)])) (fun _ k_ => XS.aloadN X7.here hx rfl (Jvm.hb hby d19_161) rfl rfl k_) ?_
  refine own_go (t' := T7.setTop (mkF m 163 #[.val (.ref a1), .val (.double p2), .second, .val (.int p3), .val (.double (0 : UInt64)), .second, .unset, .unset, .unset, .unset] [(.int p3), (.ref a1)])) (fun _ k_ => XS.iloadN X7.here hx rfl (Jvm.hb hby d19_162) rfl k_) ?_
  refine own_go (t' := T7.setTop (mkF m 164 #[.val (.ref a1), .val (.double p2), .second, .val (.int p3), .val (.double (0 : UInt64)), .second, .unset, .unset, .unset, .unset] [(.double (FP.i2d p3)), (.ref a1)])) (fun _ k_ => XS.i2dS X7.here hx rfl (Jvm.hb hby d19_163) rfl rfl k_) ?_
  obtain ⟨T8, h8, X8, e8, W8, st8⟩ := putF X7 hx hZ hown (host := "") (Or.inl (hw _ (List.mem_of_getElem? (i := 122) rfl))) Via.refl e7 F6_7 Ex7 (Or.inr ⟨(hw _ (List.mem_of_getElem? (i := 123) rfl)), rfl, hnm⟩) (hw _ (List.mem_of_getElem? (i := 105) rfl)) (ty := .double) (by decide) rfl rfl (g := (mkF m 164 #[.val (.ref a1), .val (.double p2), .second, .val (.int p3), .val (.double (0 : UInt64)), .second, .unset, .unset, .unset, .unset] [(.double (FP.i2d p3)), (.ref a1)])) rfl rfl (Jvm.hb hby d19_164)
  refine own_go (t' := T8.setTop (mkF m 167 #[.val (.ref a1), .val (.double p2), .second, .val (.int p3), .val (.double (0 : UInt64)), .second, .unset, .unset, .unset, .unset] [])) st8 ?_
  have N8 := Fr.snoc X8 N7 g1
  have K8 : Keep h0 h8 [a1] := K7.wr W8 (Or.inl (List.mem_of_getElem? (i := 0) rfl))
  have Ex8 : Exa Z h8 a1 "com/example/libgate/libgate/BucketRate" := Ex7.wr W8
  have F2_8 : Fld Z h8 a1 "com/example/libgate/libgate/BucketRate" "warmupNanos" "D" (.double 0) := F2_7.other W8 (Or.inr sn6)
  have F6_8 : Fld Z h8 a1 "com/example/libgate/libgate/BucketRate" "maxPermits" "D" (.double (FP.i2d p3)) := F6_7.same W8
  exact own_retV X8 hx Bd.returns (BodyLoose.notSynchronized Bd) (Jvm.hb hby d19_167) (by decide) (by decide) ⟨rfl, N8, by rw [e8]; exact K8, by rw [e8]; exact Ex8, by rw [e8]; exact F2_8, by rw [e8]; exact F6_8⟩
theorem ef_rm_wb (m : MethodId) (x0 : UInt64) (x1 : Int32) : entryFrame m #[(.double x0), (.int x1)] 3 = mkF m 0 #[.val (.double x0), .second, .val (.int x1)] [] := by first | (simp [entryFrame, mkF, argsToLocals, Value.category]; done) | rfl
set_option maxRecDepth 65536 in
set_option maxHeartbeats 40000000 in
theorem rm_wb (l : Launch) (Z : State) (a0 : Array Value) (hw : ∀ d ∈ tables_1, d.before a0 Z = true) (ws : List Jvm.Cond) (p0 : UInt64) (p1 : Int32) (h0 : Heap) (n0 : Nat) (Z0 : n0 ≤ h0.size) (hq : ¬ p1 = -1) (hn : Jvm.Free.Fl.NoNaN64 (FP.ddiv 4741671816366391296 p0)) :
    own_Ctr l Z (⟨"com/example/libgate/libgate/BucketRate", "withBurst", "(DI)Lcom/example/libgate/libgate/BucketRate;"⟩ : MethodName) prog_3_method_2_code 3 (some (.object "com/example/libgate/libgate/BucketRate")) ws ({ frames := 2, cells := 1, slots := 7, locals := 34 } : Room) #[(.double p0), (.int p1)] h0 (fun v h L => ∃ a : Addr, v = some (.ref a) ∧ Fr n0 L ∧ h0.size ≤ a ∧ Keep h0 h [] ∧ Exa Z h a "com/example/libgate/libgate/BucketRate" ∧ Fld Z h a "com/example/libgate/libgate/BucketRate" "warmupNanos" "D" (.double 0) ∧ Fld Z h a "com/example/libgate/libgate/BucketRate" "maxPermits" "D" (.double (FP.i2d p1))) := by
  refine own_enter (plainFor_of_name pn_d18) ?_
  intro p e s m below meth c s₁ Bd hZ hml X0 e0
  have hx := Bd.exec
  have hby := Bd.bytes
  have hown : s.vm.findClass "com/example/libgate/libgate/BucketRate" = some m.cls := findClass_of_methodNamed Bd.named
  have hnm := (name_of_methodNamed Bd.named Bd.method).1
  have N0 := Fr.nil n0
  refine own_go (t' := s₁.setTop (mkF m 0 #[.val (.double p0), .second, .val (.int p1)] [])) (fun _ k_ => castTop (ef_rm_wb m p0 p1) k_) ?_
  obtain ⟨T1, h1, X1, e1, E1, A1, D1, -, st1⟩ := newO X0 hx hZ hown (hw _ (List.mem_of_getElem? (i := 104) rfl)) (hw _ (List.mem_of_getElem? (i := 105) rfl)) (hw _ (List.mem_of_getElem? (i := 70) rfl)) e0 (g := (mkF m 0 #[.val (.double p0), .second, .val (.int p1)] [])) rfl (Jvm.hb hby d18_0) (by decide) (by decide)
  obtain ⟨a, g1⟩ : ∃ z, z = h0.size := ⟨_, rfl⟩
  rw [← g1] at A1 D1 st1
  refine own_go (t' := T1.setTop (mkF m 3 #[.val (.double p0), .second, .val (.int p1)] [(.ref a)])) st1 ?_
  refine own_go (t' := T1.setTop (mkF m 4 #[.val (.double p0), .second, .val (.int p1)] [(.ref a), (.ref a)])) (fun _ k_ => XS.dup X1.here hx rfl (Jvm.hb hby d18_3) rfl rfl k_) ?_
  refine own_go (t' := T1.setTop (mkF m 5 #[.val (.double p0), .second, .val (.int p1)] [(.double p0), (.ref a), (.ref a)])) (fun _ k_ => XS.dloadN X1.here hx rfl (Jvm.hb hby d18_4) rfl k_) ?_
  refine own_go (t' := T1.setTop (mkF m 6 #[.val (.double p0), .second, .val (.int p1)] [(.int p1), (.double p0), (.ref a), (.ref a)])) (fun _ k_ => XS.iloadN X1.here hx rfl (Jvm.hb hby d18_5) rfl k_) ?_
  refine own_go (t' := T1.setTop (mkF m 7 #[.val (.double p0), .second, .val (.int p1)] [(.double (0 : UInt64)), (.int p1), (.double p0), (.ref a), (.ref a)])) (fun _ k_ => XS.dconst0 X1.here hx rfl (Jvm.hb hby d18_6) rfl k_) ?_
  have Z1 : n0 ≤ h1.size := Nat.le_trans Z0 E1.1
  obtain ⟨T2, L2, v2, X2, hQ2, st2⟩ := own_special X1 hx hZ (y := (⟨"com/example/libgate/libgate/BucketRate", "<init>", "(DID)V"⟩ : MethodName)) rfl hown (hw _ (List.mem_of_getElem? (i := 106) rfl)) (hw _ (List.mem_of_getElem? (i := 107) rfl)) (hw _ (List.mem_of_getElem? (i := 108) rfl)) (hw _ (List.mem_of_getElem? (i := 70) rfl)) (by decide) (rm_ri l Z a0 hw [] a p0 p1 _ _ _ _ _ _ _ h1 n0 Z1 A1 (D1 (Or.inr (hw _ (List.mem_of_getElem? (i := 111) rfl))) (ty := .double) (by decide)) (D1 (Or.inr (hw _ (List.mem_of_getElem? (i := 113) rfl))) (ty := .int) (by decide)) (D1 (Or.inr (hw _ (List.mem_of_getElem? (i := 115) rfl))) (ty := .double) (by decide)) (D1 (Or.inr (hw _ (List.mem_of_getElem? (i := 117) rfl))) (ty := .double) (by decide)) (D1 (Or.inr (hw _ (List.mem_of_getElem? (i := 119) rfl))) (ty := .double) (by decide)) (D1 (Or.inr (hw _ (List.mem_of_getElem? (i := 121) rfl))) (ty := .double) (by decide)) (D1 (Or.inr (hw _ (List.mem_of_getElem? (i := 123) rfl))) (ty := .double) (by decide)) (Nat.le_trans Z0 (Nat.le_of_eq g1.symm)) hq hn) e1 (g := (mkF m 7 #[.val (.double p0), .second, .val (.int p1)] [(.double (0 : UInt64)), (.int p1), (.double p0), (.ref a), (.ref a)])) rfl (by rw [hml]; rfl) (argsL := [(.double p0), (.int p1), (.double (0 : UInt64))]) (rest := [(.ref a)]) (lenOf pd_d19 rfl) rfl (W := 1) (by show 2 * 0 + _ ≤ _; exact Nat.le_of_eq rfl) (Jvm.hb hby d18_7) (by decide) (by decide) (by decide) (by decide)
  obtain ⟨rfl, Nq2, K2, E2, G1, G2⟩ := hQ2
  have N2 := Fr.app N0 Nq2
  refine own_go (t' := T2.setTop (mkF m 10 #[.val (.double p0), .second, .val (.int p1)] [(.ref a)])) st2 ?_
  have KE : Keep h0 T2.heap [] := ((Keep.refl h0 []).ext E1).trans K2 (fun x hx => Or.inr (by cases List.mem_singleton.mp hx; exact Nat.le_of_eq g1.symm))
  exact own_retA X2 hx Bd.returns (BodyLoose.notSynchronized Bd) (Jvm.hb hby d18_10) rfl rfl (by decide) (by decide) ⟨a, rfl, N2, Nat.le_of_eq g1.symm, KE, E2, G1, G2⟩
theorem ef_rm_br (m : MethodId) (x0 : Addr) : entryFrame m #[(.ref x0)] 1 = mkF m 0 #[.val (.ref x0)] [] := by first | (simp [entryFrame, mkF, argsToLocals, Value.category]; done) | rfl
set_option maxRecDepth 65536 in
set_option maxHeartbeats 40000000 in
theorem rm_br (l : Launch) (Z : State) (a0 : Array Value) (hw : ∀ d ∈ tables_1, d.before a0 Z = true) (ws : List Jvm.Cond) (a1 : Addr) (r : UInt64) (q : Int32) (h0 : Heap) (n0 : Nat) (Z0 : n0 ≤ h0.size) (F1 : Fld Z h0 a1 "com/example/libgate/libgate/BucketBuilder" "burstPermits" "I" (.int q)) (F2 : Fld Z h0 a1 "com/example/libgate/libgate/BucketBuilder" "permitsPerSecond" "D" (.double r)) (hz : ¬ cmpValue (FP.dcmp r (0 : UInt64)) CmpOp.l = 0) (hq : ¬ q = -1) (hn : Jvm.Free.Fl.NoNaN64 (FP.ddiv 4741671816366391296 r)) :
    own_Ctr l Z (⟨"com/example/libgate/libgate/BucketBuilder", "bucketRate", "()Lcom/example/libgate/libgate/BucketRate;"⟩ : MethodName) prog_1_method_4_code 1 (some (.object "com/example/libgate/libgate/BucketRate")) ws ({ frames := 3, cells := 1, slots := 7, locals := 48 } : Room) #[(.ref a1)] h0 (fun v h L => ∃ a : Addr, v = some (.ref a) ∧ Fr n0 L ∧ h0.size ≤ a ∧ Keep h0 h [] ∧ Exa Z h a "com/example/libgate/libgate/BucketRate" ∧ Fld Z h a "com/example/libgate/libgate/BucketRate" "warmupNanos" "D" (.double 0) ∧ Fld Z h a "com/example/libgate/libgate/BucketRate" "maxPermits" "D" (.double (FP.i2d q))) := by
  refine own_enter (plainFor_of_name pn_d17) ?_
  intro p e s m below meth c s₁ Bd hZ hml X0 e0
  have hx := Bd.exec
  have hby := Bd.bytes
  have hown : s.vm.findClass "com/example/libgate/libgate/BucketBuilder" = some m.cls := findClass_of_methodNamed Bd.named
  have hnm := (name_of_methodNamed Bd.named Bd.method).1
  have N0 := Fr.nil n0
  refine own_go (t' := s₁.setTop (mkF m 0 #[.val (.ref a1)] [])) (fun _ k_ => castTop (ef_rm_br m a1) k_) ?_
  refine own_go (t' := s₁.setTop (mkF m 1 #[.val (.ref a1)] [(.ref a1)])) (fun _ k_ => XS.aloadN X0.here hx rfl (Jvm.hb hby d17_0) rfl rfl k_) ?_
  obtain ⟨T1, X1, e1, st1⟩ := getF X0 hx hZ hown (host := "") (Or.inl (hw _ (List.mem_of_getElem? (i := 83) rfl))) Via.refl e0 F2 (g := (mkF m 1 #[.val (.ref a1)] [(.ref a1)])) rfl rfl (Jvm.hb hby d17_1)
  refine own_go (t' := T1.setTop (mkF m 4 #[.val (.ref a1)] [(.double r)])) st1 ?_
  refine own_go (t' := T1.setTop (mkF m 5 #[.val (.ref a1)] [(.double (0 : UInt64)), (.double r)])) (fun _ k_ => XS.dconst0 X1.here hx rfl (Jvm.hb hby d17_4) rfl k_) ?_
  refine own_go (t' := T1.setTop (mkF m 6 #[.val (.ref a1)] [(.int (cmpValue (FP.dcmp r (0 : UInt64)) CmpOp.l))])) (fun _ k_ => XS.dcmpS X1.here hx rfl (Jvm.hb hby d17_5) rfl rfl k_) ?_
  refine own_go (t' := T1.setTop (mkF m 19 #[.val (.ref a1)] [])) (fun _ k_ => XS.ifYes X1.here hx rfl (pc0 := 6) (pc' := 19) rfl (Jvm.hb hby d17_6) rfl ((if0 _ _).trans (feq hz).2) (by decide) (by decide) k_) ?_
  refine own_go (t' := T1.setTop (mkF m 20 #[.val (.ref a1)] [(.ref a1)])) (fun _ k_ => XS.aloadN X1.here hx rfl (Jvm.hb hby d17_19) rfl rfl k_) ?_
  obtain ⟨T2, X2, e2, st2⟩ := getF X1 hx hZ hown (host := "") (Or.inl (hw _ (List.mem_of_getElem? (i := 83) rfl))) Via.refl e1 F2 (g := (mkF m 20 #[.val (.ref a1)] [(.ref a1)])) rfl rfl (Jvm.hb hby d17_20)
  refine own_go (t' := T2.setTop (mkF m 23 #[.val (.ref a1)] [(.double r)])) st2 ?_
  refine own_go (t' := T2.setTop (mkF m 24 #[.val (.ref a1)] [(.ref a1), (.double r)])) (fun _ k_ => XS.aloadN X2.here hx rfl (Jvm.hb hby d17_23) rfl rfl k_) ?_
  obtain ⟨T3, X3, e3, st3⟩ := getF X2 hx hZ hown (host := "") (Or.inl (hw _ (List.mem_of_getElem? (i := 34) rfl))) Via.refl e2 F1 (g := (mkF m 24 #[.val (.ref a1)] [(.ref a1), (.double r)])) rfl rfl (Jvm.hb hby d17_24)
  refine own_go (t' := T3.setTop (mkF m 27 #[.val (.ref a1)] [(.int q), (.double r)])) st3 ?_
  obtain ⟨T4, L4, v4, X4, hQ4, st4⟩ := own_static X3 hx hZ hown (hw _ (List.mem_of_getElem? (i := 101) rfl)) (hw _ (List.mem_of_getElem? (i := 102) rfl)) (hw _ (List.mem_of_getElem? (i := 70) rfl)) (hw _ (List.mem_of_getElem? (i := 103) rfl)) (by decide) (rm_wb l Z a0 hw [] r q h0 n0 Z0 hq hn) e3 (g := (mkF m 27 #[.val (.ref a1)] [(.int q), (.double r)])) rfl (by rw [hml]; rfl) (argsL := [(.double r), (.int q)]) (rest := []) (lenOf pd_d18 rfl) rfl (W := 0) (by show 2 * 0 + _ ≤ _; exact Nat.le_of_eq rfl) (Jvm.hb hby d17_27) (by decide) (by decide) (by decide) (by decide)
  obtain ⟨a, rfl, Nq4, hd, e4, E2, G1, G2⟩ := hQ4
  have N4 := Fr.app N0 Nq4
  refine own_go (t' := T4.setTop (mkF m 30 #[.val (.ref a1)] [(.ref a)])) st4 ?_
  exact own_retA X4 hx Bd.returns (BodyLoose.notSynchronized Bd) (Jvm.hb hby d17_30) rfl rfl (by decide) (by decide) ⟨a, rfl, N4, hd, e4, E2, G1, G2⟩
theorem ef_rm_mp (m : MethodId) (x0 : Addr) : entryFrame m #[(.ref x0)] 1 = mkF m 0 #[.val (.ref x0)] [] := by first | (simp [entryFrame, mkF, argsToLocals, Value.category]; done) | rfl
set_option maxRecDepth 65536 in
set_option maxHeartbeats 40000000 in
theorem rm_mp (l : Launch) (Z : State) (a0 : Array Value) (hw : ∀ d ∈ tables_1, d.before a0 Z = true) (ws : List Jvm.Cond) (a1 : Addr) (p2 : UInt64) (h0 : Heap) (n0 : Nat) (Z0 : n0 ≤ h0.size) (F1 : Fld Z h0 a1 "com/example/libgate/libgate/BucketRate" "maxPermits" "D" (.double p2)) :
    own_Ctr l Z (⟨"com/example/libgate/libgate/BucketRate", "maxPermits", "()D"⟩ : MethodName) prog_3_method_6_code 1 (some .double) ws ({ frames := 0, cells := 0, slots := 0, locals := 0 } : Room) #[(.ref a1)] h0 (fun v h L => v = some (.double p2) ∧ Fr n0 L ∧ h = h0) := by
  refine own_enter (plainFor_of_name pn_d20) ?_
  intro p e s m below meth c s₁ Bd hZ hml X0 e0
  have hx := Bd.exec
  have hby := Bd.bytes
  have hown : s.vm.findClass "com/example/libgate/libgate/BucketRate" = some m.cls := findClass_of_methodNamed Bd.named
  have hnm := (name_of_methodNamed Bd.named Bd.method).1
  have N0 := Fr.nil n0
  refine own_go (t' := s₁.setTop (mkF m 0 #[.val (.ref a1)] [])) (fun _ k_ => castTop (ef_rm_mp m a1) k_) ?_
  refine own_go (t' := s₁.setTop (mkF m 1 #[.val (.ref a1)] [(.ref a1)])) (fun _ k_ => XS.aloadN X0.here hx rfl (Jvm.hb hby d20_0) rfl rfl k_) ?_
  obtain ⟨T1, X1, e1, st1⟩ := getF X0 hx hZ hown (host := "") (Or.inl (hw _ (List.mem_of_getElem? (i := 122) rfl))) Via.refl e0 F1 (g := (mkF m 1 #[.val (.ref a1)] [(.ref a1)])) rfl rfl (Jvm.hb hby d20_1)
  refine own_go (t' := T1.setTop (mkF m 4 #[.val (.ref a1)] [(.double p2)])) st1 ?_
  exact own_retD X1 hx Bd.returns (BodyLoose.notSynchronized Bd) (Jvm.hb hby d20_4) (by decide) (by decide) ⟨rfl, N0, e1⟩
theorem ef_rm_wu (m : MethodId) (x0 : Addr) : entryFrame m #[(.ref x0)] 1 = mkF m 0 #[.val (.ref x0)] [] := by first | (simp [entryFrame, mkF, argsToLocals, Value.category]; done) | rfl
set_option maxRecDepth 65536 in
set_option maxHeartbeats 40000000 in
theorem rm_wu (l : Launch) (Z : State) (a0 : Array Value) (hw : ∀ d ∈ tables_1, d.before a0 Z = true) (ws : List Jvm.Cond) (a1 : Addr) (h0 : Heap) (n0 : Nat) (Z0 : n0 ≤ h0.size) (F1 : Fld Z h0 a1 "com/example/libgate/libgate/BucketRate" "warmupNanos" "D" (.double 0)) :
    own_Ctr l Z (⟨"com/example/libgate/libgate/BucketRate", "warmsUp", "()Z"⟩ : MethodName) prog_3_method_7_code 1 (some .boolean) ws ({ frames := 0, cells := 0, slots := 0, locals := 0 } : Room) #[(.ref a1)] h0 (fun v h L => v = some (.int 0) ∧ Fr n0 L ∧ h = h0) := by
  refine own_enter (plainFor_of_name pn_d21) ?_
  intro p e s m below meth c s₁ Bd hZ hml X0 e0
  have hx := Bd.exec
  have hby := Bd.bytes
  have hown : s.vm.findClass "com/example/libgate/libgate/BucketRate" = some m.cls := findClass_of_methodNamed Bd.named
  have hnm := (name_of_methodNamed Bd.named Bd.method).1
  have N0 := Fr.nil n0
  refine own_go (t' := s₁.setTop (mkF m 0 #[.val (.ref a1)] [])) (fun _ k_ => castTop (ef_rm_wu m a1) k_) ?_
  refine own_go (t' := s₁.setTop (mkF m 1 #[.val (.ref a1)] [(.ref a1)])) (fun _ k_ => XS.aloadN X0.here hx rfl (Jvm.hb hby d21_0) rfl rfl k_) ?_
  obtain ⟨T1, X1, e1, st1⟩ := getF X0 hx hZ hown (host := "") (Or.inl (hw _ (List.mem_of_getElem? (i := 114) rfl))) Via.refl e0 F1 (g := (mkF m 1 #[.val (.ref a1)] [(.ref a1)])) rfl rfl (Jvm.hb hby d21_1)
  refine own_go (t' := T1.setTop (mkF m 4 #[.val (.ref a1)] [(.double (0 : UInt64))])) st1 ?_
  refine own_go (t' := T1.setTop (mkF m 5 #[.val (.ref a1)] [(.double (0 : UInt64)), (.double (0 : UInt64))])) (fun _ k_ => XS.dconst0 X1.here hx rfl (Jvm.hb hby d21_4) rfl k_) ?_
  refine own_go (t' := T1.setTop (mkF m 6 #[.val (.ref a1)] [(.int (cmpValue (FP.dcmp (0 : UInt64) (0 : UInt64)) CmpOp.l))])) (fun _ k_ => XS.dcmpS X1.here hx rfl (Jvm.hb hby d21_5) rfl rfl k_) ?_
  refine own_go (t' := T1.setTop (mkF m 13 #[.val (.ref a1)] [])) (fun _ k_ => XS.ifYes X1.here hx rfl (pc0 := 6) (pc' := 13) rfl (Jvm.hb hby d21_6) rfl ((if0 _ _).trans (flt (OwnFp.zero_zero _)).2.2.2) (by decide) (by decide) k_) ?_
  refine own_go (t' := T1.setTop (mkF m 14 #[.val (.ref a1)] [(.int (0 : Int32))])) (fun _ k_ => XS.iconst X1.here hx rfl (Jvm.hb hby d21_13) k_) ?_
  exact own_retZ X1 hx Bd.returns (BodyLoose.notSynchronized Bd) rfl (Jvm.hb hby d21_14) (by decide) (by decide) ⟨rfl, N0, e1⟩
theorem own_mask (x : Int32) : 0 ≤ (x &&& (2147483647 : Int32)).toInt := (c_and x 2147483647 (by decide)).1
theorem own_perm (x : Int32) : 1 ≤ ((1 : Int32) + (x &&& (65535 : Int32))).toInt := by
  have h := c_and x 65535 (by decide)
  rw [show (65535 : Int32).toInt = 65535 by decide] at h
  have e := c_iadd 1 (x &&& (65535 : Int32))
  rw [show (1 : Int32).toInt = 1 by decide] at e
  have r := rng32 ((1 : Int32) + (x &&& (65535 : Int32)))
  omega
theorem own_nn {x : Int32} (h : 0 ≤ x.toInt) : ¬ x < 0 := fun q => by
  have := Int32.lt_iff_toInt_lt.mp q
  rw [show (0 : Int32).toInt = 0 by decide] at this
  omega
theorem own_ne {x : Int32} (h : 0 ≤ x.toInt) : ¬ x = -1 := fun q => by
  rw [q, show (-1 : Int32).toInt = -1 by decide] at h
  omega
theorem ef_rm_law (m : MethodId) (x0 : Int32) (x1 : Int32) (x2 : Int32) (x3 : Int32) : entryFrame m #[(.int x0), (.int x1), (.int x2), (.int x3)] maxLocals = mkF m 0 #[.val (.int x0), .val (.int x1), .val (.int x2), .val (.int x3), .unset, .unset, .unset, .unset, .unset, .unset, .unset, .unset, .unset, .unset] [] := by first | (simp [entryFrame, mkF, argsToLocals, Value.category, maxLocals]; done) | rfl
set_option maxRecDepth 65536 in
set_option maxHeartbeats 40000000 in
theorem rm_law (l : Launch) (Z : State) (a0 : Array Value) (hw : ∀ d ∈ tables_1, d.before a0 Z = true) (ws : List Jvm.Cond) (p0 p1 p2 p3 : Int32) (h0 : Heap) (n0 : Nat) (Z0 : n0 ≤ h0.size)  :
    own_CtrW l Z x code maxLocals ret ws room_1 #[(.int p0), (.int p1), (.int p2), (.int p3)] h0 (fun v h L => v = some (.int 1) ∧ Fr n0 L) := by
  refine own_enterW (plainFor_of_name pn_at) ?_
  intro p e s m below meth c s₁ Bd hZ hml X0 e0
  have hx := Bd.exec
  have hby := Bd.bytes
  have hown : s.vm.findClass "com/example/libgate/libgate/BucketBuilderBurstPinLaw" = some m.cls := findClass_of_methodNamed Bd.named
  have hnm := (name_of_methodNamed Bd.named Bd.method).1
  have N0 := Fr.nil n0
  refine own_go (t' := s₁.setTop (mkF m 0 #[.val (.int p0), .val (.int p1), .val (.int p2), .val (.int p3), .unset, .unset, .unset, .unset, .unset, .unset, .unset, .unset, .unset, .unset] [])) (fun _ k_ => castTop (ef_rm_law m p0 p1 p2 p3) k_) ?_
  have hS0 : s.Since s.vm h0.size := State.WarmedH.since (State.WarmedH.refl s) _
  refine own_go (t' := s₁.setTop (mkF m 1 #[.val (.int p0), .val (.int p1), .val (.int p2), .val (.int p3), .unset, .unset, .unset, .unset, .unset, .unset, .unset, .unset, .unset, .unset] [(.int p0)])) (fun _ k_ => XS.iloadN X0.here hx rfl (Jvm.hb hby at_0) rfl k_) ?_
  refine own_go (t' := s₁.setTop (mkF m 3 #[.val (.int p0), .val (.int p1), .val (.int p2), .val (.int p3), .unset, .unset, .unset, .unset, .unset, .unset, .unset, .unset, .unset, .unset] [(.int (2147483647 : Int32)), (.int p0)])) (fun _ k_ => X0.ldcI (own := "com/example/libgate/libgate/BucketBuilderBurstPinLaw") (index := 7) (v := (2147483647 : Int32)) hx hown (mvT hZ (hw _ (List.mem_of_getElem? (i := 0) rfl))) rfl (Jvm.hb hby at_1) k_) ?_
  refine own_go (t' := s₁.setTop (mkF m 4 #[.val (.int p0), .val (.int p1), .val (.int p2), .val (.int p3), .unset, .unset, .unset, .unset, .unset, .unset, .unset, .unset, .unset, .unset] [(.int (p0 &&& (2147483647 : Int32)))])) (fun _ k_ => XS.iand X0.here hx rfl (Jvm.hb hby at_3) rfl k_) ?_
  refine own_go (t' := s₁.setTop (mkF m 6 #[.val (.int p0), .val (.int p1), .val (.int p2), .val (.int p3), .val (.int (p0 &&& (2147483647 : Int32))), .unset, .unset, .unset, .unset, .unset, .unset, .unset, .unset, .unset] [])) (fun _ k_ => XS.istore X0.here hx rfl (Jvm.hb hby at_4) rfl (l' := #[.val (.int p0), .val (.int p1), .val (.int p2), .val (.int p3), .val (.int (p0 &&& (2147483647 : Int32))), .unset, .unset, .unset, .unset, .unset, .unset, .unset, .unset, .unset]) rfl k_) ?_
  refine own_go (t' := s₁.setTop (mkF m 7 #[.val (.int p0), .val (.int p1), .val (.int p2), .val (.int p3), .val (.int (p0 &&& (2147483647 : Int32))), .unset, .unset, .unset, .unset, .unset, .unset, .unset, .unset, .unset] [(.int p1)])) (fun _ k_ => XS.iloadN X0.here hx rfl (Jvm.hb hby at_6) rfl k_) ?_
  refine own_go (t' := s₁.setTop (mkF m 9 #[.val (.int p0), .val (.int p1), .val (.int p2), .val (.int p3), .val (.int (p0 &&& (2147483647 : Int32))), .unset, .unset, .unset, .unset, .unset, .unset, .unset, .unset, .unset] [(.int (2147483647 : Int32)), (.int p1)])) (fun _ k_ => X0.ldcI (own := "com/example/libgate/libgate/BucketBuilderBurstPinLaw") (index := 7) (v := (2147483647 : Int32)) hx hown (mvT hZ (hw _ (List.mem_of_getElem? (i := 0) rfl))) rfl (Jvm.hb hby at_7) k_) ?_
  refine own_go (t' := s₁.setTop (mkF m 10 #[.val (.int p0), .val (.int p1), .val (.int p2), .val (.int p3), .val (.int (p0 &&& (2147483647 : Int32))), .unset, .unset, .unset, .unset, .unset, .unset, .unset, .unset, .unset] [(.int (p1 &&& (2147483647 : Int32)))])) (fun _ k_ => XS.iand X0.here hx rfl (Jvm.hb hby at_9) rfl k_) ?_
  refine own_go (t' := s₁.setTop (mkF m 12 #[.val (.int p0), .val (.int p1), .val (.int p2), .val (.int p3), .val (.int (p0 &&& (2147483647 : Int32))), .val (.int (p1 &&& (2147483647 : Int32))), .unset, .unset, .unset, .unset, .unset, .unset, .unset, .unset] [])) (fun _ k_ => XS.istore X0.here hx rfl (Jvm.hb hby at_10) rfl (l' := #[.val (.int p0), .val (.int p1), .val (.int p2), .val (.int p3), .val (.int (p0 &&& (2147483647 : Int32))), .val (.int (p1 &&& (2147483647 : Int32))), .unset, .unset, .unset, .unset, .unset, .unset, .unset, .unset]) rfl k_) ?_
  refine own_go (t' := s₁.setTop (mkF m 13 #[.val (.int p0), .val (.int p1), .val (.int p2), .val (.int p3), .val (.int (p0 &&& (2147483647 : Int32))), .val (.int (p1 &&& (2147483647 : Int32))), .unset, .unset, .unset, .unset, .unset, .unset, .unset, .unset] [(.int (1 : Int32))])) (fun _ k_ => XS.iconst X0.here hx rfl (Jvm.hb hby at_12) k_) ?_
  refine own_go (t' := s₁.setTop (mkF m 14 #[.val (.int p0), .val (.int p1), .val (.int p2), .val (.int p3), .val (.int (p0 &&& (2147483647 : Int32))), .val (.int (p1 &&& (2147483647 : Int32))), .unset, .unset, .unset, .unset, .unset, .unset, .unset, .unset] [(.int p2), (.int (1 : Int32))])) (fun _ k_ => XS.iloadN X0.here hx rfl (Jvm.hb hby at_13) rfl k_) ?_
  refine own_go (t' := s₁.setTop (mkF m 16 #[.val (.int p0), .val (.int p1), .val (.int p2), .val (.int p3), .val (.int (p0 &&& (2147483647 : Int32))), .val (.int (p1 &&& (2147483647 : Int32))), .unset, .unset, .unset, .unset, .unset, .unset, .unset, .unset] [(.int (65535 : Int32)), (.int p2), (.int (1 : Int32))])) (fun _ k_ => X0.ldcI (own := "com/example/libgate/libgate/BucketBuilderBurstPinLaw") (index := 8) (v := (65535 : Int32)) hx hown (mvT hZ (hw _ (List.mem_of_getElem? (i := 1) rfl))) rfl (Jvm.hb hby at_14) k_) ?_
  refine own_go (t' := s₁.setTop (mkF m 17 #[.val (.int p0), .val (.int p1), .val (.int p2), .val (.int p3), .val (.int (p0 &&& (2147483647 : Int32))), .val (.int (p1 &&& (2147483647 : Int32))), .unset, .unset, .unset, .unset, .unset, .unset, .unset, .unset] [(.int (p2 &&& (65535 : Int32))), (.int (1 : Int32))])) (fun _ k_ => XS.iand X0.here hx rfl (Jvm.hb hby at_16) rfl k_) ?_
  refine own_go (t' := s₁.setTop (mkF m 18 #[.val (.int p0), .val (.int p1), .val (.int p2), .val (.int p3), .val (.int (p0 &&& (2147483647 : Int32))), .val (.int (p1 &&& (2147483647 : Int32))), .unset, .unset, .unset, .unset, .unset, .unset, .unset, .unset] [(.int ((1 : Int32) + (p2 &&& (65535 : Int32))))])) (fun _ k_ => XS.iadd X0.here hx rfl (Jvm.hb hby at_17) rfl k_) ?_
  refine own_go (t' := s₁.setTop (mkF m 20 #[.val (.int p0), .val (.int p1), .val (.int p2), .val (.int p3), .val (.int (p0 &&& (2147483647 : Int32))), .val (.int (p1 &&& (2147483647 : Int32))), .val (.int ((1 : Int32) + (p2 &&& (65535 : Int32)))), .unset, .unset, .unset, .unset, .unset, .unset, .unset] [])) (fun _ k_ => XS.istore X0.here hx rfl (Jvm.hb hby at_18) rfl (l' := #[.val (.int p0), .val (.int p1), .val (.int p2), .val (.int p3), .val (.int (p0 &&& (2147483647 : Int32))), .val (.int (p1 &&& (2147483647 : Int32))), .val (.int ((1 : Int32) + (p2 &&& (65535 : Int32)))), .unset, .unset, .unset, .unset, .unset, .unset, .unset]) rfl k_) ?_
  refine own_go (t' := s₁.setTop (mkF m 21 #[.val (.int p0), .val (.int p1), .val (.int p2), .val (.int p3), .val (.int (p0 &&& (2147483647 : Int32))), .val (.int (p1 &&& (2147483647 : Int32))), .val (.int ((1 : Int32) + (p2 &&& (65535 : Int32)))), .unset, .unset, .unset, .unset, .unset, .unset, .unset] [(.int p3)])) (fun _ k_ => XS.iloadN X0.here hx rfl (Jvm.hb hby at_20) rfl k_) ?_
  refine own_go (t' := s₁.setTop (mkF m 22 #[.val (.int p0), .val (.int p1), .val (.int p2), .val (.int p3), .val (.int (p0 &&& (2147483647 : Int32))), .val (.int (p1 &&& (2147483647 : Int32))), .val (.int ((1 : Int32) + (p2 &&& (65535 : Int32)))), .unset, .unset, .unset, .unset, .unset, .unset, .unset] [(.int (1 : Int32)), (.int p3)])) (fun _ k_ => XS.iconst X0.here hx rfl (Jvm.hb hby at_21) k_) ?_
  refine own_go (t' := s₁.setTop (mkF m 23 #[.val (.int p0), .val (.int p1), .val (.int p2), .val (.int p3), .val (.int (p0 &&& (2147483647 : Int32))), .val (.int (p1 &&& (2147483647 : Int32))), .val (.int ((1 : Int32) + (p2 &&& (65535 : Int32)))), .unset, .unset, .unset, .unset, .unset, .unset, .unset] [(.int (p3 &&& (1 : Int32)))])) (fun _ k_ => XS.iand X0.here hx rfl (Jvm.hb hby at_22) rfl k_) ?_
  have hB1 := own_mask p0
  generalize (p0 &&& (2147483647 : Int32)) = B1 at hB1 ⊢
  have hB2 := own_mask p1
  generalize (p1 &&& (2147483647 : Int32)) = B2 at hB2 ⊢
  have hU := own_perm p2
  generalize ((1 : Int32) + (p2 &&& (65535 : Int32))) = U at hU ⊢
  by_cases hc7 : (p3 &&& (1 : Int32)) = 0
  ·
    refine own_go (t' := s₁.setTop (mkF m 30 #[.val (.int p0), .val (.int p1), .val (.int p2), .val (.int p3), .val (.int B1), .val (.int B2), .val (.int U), .unset, .unset, .unset, .unset, .unset, .unset, .unset] [])) (fun _ k_ => XS.ifYes X0.here hx rfl (pc0 := 23) (pc' := 30) rfl (Jvm.hb hby at_23) rfl ((if0 _ _).trans (teq hc7).1) (by decide) (by decide) k_) ?_
    refine own_go (t' := s₁.setTop (mkF m 31 #[.val (.int p0), .val (.int p1), .val (.int p2), .val (.int p3), .val (.int B1), .val (.int B2), .val (.int U), .unset, .unset, .unset, .unset, .unset, .unset, .unset] [(.int (0 : Int32))])) (fun _ k_ => XS.iconst X0.here hx rfl (Jvm.hb hby at_30) k_) ?_
    refine own_go (t' := s₁.setTop (mkF m 33 #[.val (.int p0), .val (.int p1), .val (.int p2), .val (.int p3), .val (.int B1), .val (.int B2), .val (.int U), .val (.int (0 : Int32)), .unset, .unset, .unset, .unset, .unset, .unset] [])) (fun _ k_ => XS.istore X0.here hx rfl (Jvm.hb hby at_31) rfl (l' := #[.val (.int p0), .val (.int p1), .val (.int p2), .val (.int p3), .val (.int B1), .val (.int B2), .val (.int U), .val (.int (0 : Int32)), .unset, .unset, .unset, .unset, .unset, .unset]) rfl k_) ?_
    refine own_go (t' := s₁.setTop (mkF m 34 #[.val (.int p0), .val (.int p1), .val (.int p2), .val (.int p3), .val (.int B1), .val (.int B2), .val (.int U), .val (.int (0 : Int32)), .unset, .unset, .unset, .unset, .unset, .unset] [(.int p3)])) (fun _ k_ => XS.iloadN X0.here hx rfl (Jvm.hb hby at_33) rfl k_) ?_
    refine own_go (t' := s₁.setTop (mkF m 35 #[.val (.int p0), .val (.int p1), .val (.int p2), .val (.int p3), .val (.int B1), .val (.int B2), .val (.int U), .val (.int (0 : Int32)), .unset, .unset, .unset, .unset, .unset, .unset] [(.int (2 : Int32)), (.int p3)])) (fun _ k_ => XS.iconst X0.here hx rfl (Jvm.hb hby at_34) k_) ?_
    refine own_go (t' := s₁.setTop (mkF m 36 #[.val (.int p0), .val (.int p1), .val (.int p2), .val (.int p3), .val (.int B1), .val (.int B2), .val (.int U), .val (.int (0 : Int32)), .unset, .unset, .unset, .unset, .unset, .unset] [(.int (p3 &&& (2 : Int32)))])) (fun _ k_ => XS.iand X0.here hx rfl (Jvm.hb hby at_35) rfl k_) ?_
    by_cases hc8 : (p3 &&& (2 : Int32)) = 0
    ·
      refine own_go (t' := s₁.setTop (mkF m 43 #[.val (.int p0), .val (.int p1), .val (.int p2), .val (.int p3), .val (.int B1), .val (.int B2), .val (.int U), .val (.int (0 : Int32)), .unset, .unset, .unset, .unset, .unset, .unset] [])) (fun _ k_ => XS.ifYes X0.here hx rfl (pc0 := 36) (pc' := 43) rfl (Jvm.hb hby at_36) rfl ((if0 _ _).trans (teq hc8).1) (by decide) (by decide) k_) ?_
      refine own_go (t' := s₁.setTop (mkF m 44 #[.val (.int p0), .val (.int p1), .val (.int p2), .val (.int p3), .val (.int B1), .val (.int B2), .val (.int U), .val (.int (0 : Int32)), .unset, .unset, .unset, .unset, .unset, .unset] [(.int (0 : Int32))])) (fun _ k_ => XS.iconst X0.here hx rfl (Jvm.hb hby at_43) k_) ?_
      refine own_go (t' := s₁.setTop (mkF m 46 #[.val (.int p0), .val (.int p1), .val (.int p2), .val (.int p3), .val (.int B1), .val (.int B2), .val (.int U), .val (.int (0 : Int32)), .val (.int (0 : Int32)), .unset, .unset, .unset, .unset, .unset] [])) (fun _ k_ => XS.istore X0.here hx rfl (Jvm.hb hby at_44) rfl (l' := #[.val (.int p0), .val (.int p1), .val (.int p2), .val (.int p3), .val (.int B1), .val (.int B2), .val (.int U), .val (.int (0 : Int32)), .val (.int (0 : Int32)), .unset, .unset, .unset, .unset, .unset]) rfl k_) ?_
      refine own_go (t' := s₁.setTop (mkF m 47 #[.val (.int p0), .val (.int p1), .val (.int p2), .val (.int p3), .val (.int B1), .val (.int B2), .val (.int U), .val (.int (0 : Int32)), .val (.int (0 : Int32)), .unset, .unset, .unset, .unset, .unset] [(.long (1 : Int64))])) (fun _ k_ => XS.lconst X0.here hx rfl (Jvm.hb hby at_46) k_) ?_
      obtain ⟨T1, L1, v1, X1, hQ1, st1⟩ := own_static X0 hx hZ hown (hw _ (List.mem_of_getElem? (i := 2) rfl)) (hw _ (List.mem_of_getElem? (i := 3) rfl)) (hw _ (List.mem_of_getElem? (i := 4) rfl)) (hw _ (List.mem_of_getElem? (i := 5) rfl)) (by decide) (rm_of l Z a0 hw [] h0 n0 Z0) e0 (g := (mkF m 47 #[.val (.int p0), .val (.int p1), .val (.int p2), .val (.int p3), .val (.int B1), .val (.int B2), .val (.int U), .val (.int (0 : Int32)), .val (.int (0 : Int32)), .unset, .unset, .unset, .unset, .unset] [(.long (1 : Int64))])) rfl (by rw [hml]; rfl) (argsL := [(.long (1 : Int64))]) (rest := []) (lenOf pd_d1 rfl) rfl (W := 0) (by show 2 * 0 + _ ≤ _; exact Nat.le_of_eq rfl) (Jvm.hb hby at_47) (by decide) (by decide) (by decide) (by decide)
      obtain ⟨d, rfl, Nq1, hd, Kd, Ed, Ds1, Ds2⟩ := hQ1
      have N1 := Fr.app N0 Nq1
      refine own_go (t' := T1.setTop (mkF m 50 #[.val (.int p0), .val (.int p1), .val (.int p2), .val (.int p3), .val (.int B1), .val (.int B2), .val (.int U), .val (.int (0 : Int32)), .val (.int (0 : Int32)), .unset, .unset, .unset, .unset, .unset] [(.ref d)])) st1 ?_
      have Zd : n0 ≤ T1.heap.size := Nat.le_trans Z0 Kd.1
      refine own_go (t' := T1.setTop (mkF m 52 #[.val (.int p0), .val (.int p1), .val (.int p2), .val (.int p3), .val (.int B1), .val (.int B2), .val (.int U), .val (.int (0 : Int32)), .val (.int (0 : Int32)), .val (.ref d), .unset, .unset, .unset, .unset] [])) (fun _ k_ => XS.astore X1.here hx rfl (Jvm.hb hby at_50) rfl rfl (l' := #[.val (.int p0), .val (.int p1), .val (.int p2), .val (.int p3), .val (.int B1), .val (.int B2), .val (.int U), .val (.int (0 : Int32)), .val (.int (0 : Int32)), .val (.ref d), .unset, .unset, .unset, .unset]) rfl k_) ?_
      obtain ⟨T2, h2, X2, e2, E2, A2, D2, -, st2⟩ := newO X1 hx hZ hown (hw _ (List.mem_of_getElem? (i := 22) rfl)) (hw _ (List.mem_of_getElem? (i := 23) rfl)) (hw _ (List.mem_of_getElem? (i := 24) rfl)) (rfl : T1.heap = T1.heap) (g := (mkF m 52 #[.val (.int p0), .val (.int p1), .val (.int p2), .val (.int p3), .val (.int B1), .val (.int B2), .val (.int U), .val (.int (0 : Int32)), .val (.int (0 : Int32)), .val (.ref d), .unset, .unset, .unset, .unset] [])) rfl (Jvm.hb hby at_52) (by decide) (by decide)
      obtain ⟨b, g2⟩ : ∃ z, z = T1.heap.size := ⟨_, rfl⟩
      rw [← g2] at A2 D2 st2
      refine own_go (t' := T2.setTop (mkF m 55 #[.val (.int p0), .val (.int p1), .val (.int p2), .val (.int p3), .val (.int B1), .val (.int B2), .val (.int U), .val (.int (0 : Int32)), .val (.int (0 : Int32)), .val (.ref d), .unset, .unset, .unset, .unset] [(.ref b)])) st2 ?_
      refine own_go (t' := T2.setTop (mkF m 56 #[.val (.int p0), .val (.int p1), .val (.int p2), .val (.int p3), .val (.int B1), .val (.int B2), .val (.int U), .val (.int (0 : Int32)), .val (.int (0 : Int32)), .val (.ref d), .unset, .unset, .unset, .unset] [(.ref b), (.ref b)])) (fun _ k_ => XS.dup X2.here hx rfl (Jvm.hb hby at_55) rfl rfl k_) ?_
      have Z1 : n0 ≤ h2.size := Nat.le_trans Zd E2.1
      have gb : n0 ≤ b := Nat.le_trans Zd (Nat.le_of_eq g2.symm)
      have Ed := Ed.ext E2
      have Ds1 := Ds1.ext E2
      have Ds2 := Ds2.ext E2
      obtain ⟨T3, L3, v3, X3, hQ3, st3⟩ := own_special X2 hx hZ (y := (⟨"com/example/libgate/libgate/BucketBuilderBurstPinLaw", "<init>", "()V"⟩ : MethodName)) rfl hown (hw _ (List.mem_of_getElem? (i := 25) rfl)) (hw _ (List.mem_of_getElem? (i := 26) rfl)) (hw _ (List.mem_of_getElem? (i := 27) rfl)) (hw _ (List.mem_of_getElem? (i := 24) rfl)) (by decide) (rm_li l Z a0 hw [] b _ _ h2 n0 Z1 A2 (D2 (Or.inl (hw _ (List.mem_of_getElem? (i := 35) rfl))) (ty := .int) (by decide)) (D2 (Or.inl (hw _ (List.mem_of_getElem? (i := 84) rfl))) (ty := .double) (by decide)) gb) e2 (g := (mkF m 56 #[.val (.int p0), .val (.int p1), .val (.int p2), .val (.int p3), .val (.int B1), .val (.int B2), .val (.int U), .val (.int (0 : Int32)), .val (.int (0 : Int32)), .val (.ref d), .unset, .unset, .unset, .unset] [(.ref b), (.ref b)])) rfl (by rw [hml]; rfl) (argsL := []) (rest := [(.ref b)]) (lenOf pd_d5 rfl) rfl (W := 1) (by show 2 * 0 + _ ≤ _; exact Nat.le_of_eq rfl) (Jvm.hb hby at_56) (by decide) (by decide) (by decide) (by decide)
      obtain ⟨rfl, Nq3, K1, Eb, ⟨w1, F1⟩, ⟨w2, F2⟩⟩ := hQ3
      have N3 := Fr.app N1 Nq3
      refine own_go (t' := T3.setTop (mkF m 59 #[.val (.int p0), .val (.int p1), .val (.int p2), .val (.int p3), .val (.int B1), .val (.int B2), .val (.int U), .val (.int (0 : Int32)), .val (.int (0 : Int32)), .val (.ref d), .unset, .unset, .unset, .unset] [(.ref b)])) st3 ?_
      have hne : d ∉ [b] := fun q => ne_exa Ed A2 (by decide) (List.mem_singleton.mp q)
      have Ds1 := Ds1.keep K1 hne
      have Ds2 := Ds2.keep K1 hne
      have Ed := Ed.keep K1
      have Zc : n0 ≤ T3.heap.size := Nat.le_trans Z1 K1.1
      have hkc : h0.size ≤ T3.heap.size := Nat.le_trans (Nat.le_trans Kd.1 E2.1) K1.1
      refine own_go (t' := T3.setTop (mkF m 61 #[.val (.int p0), .val (.int p1), .val (.int p2), .val (.int p3), .val (.int B1), .val (.int B2), .val (.int U), .val (.int (0 : Int32)), .val (.int (0 : Int32)), .val (.ref d), .val (.ref b), .unset, .unset, .unset] [])) (fun _ k_ => XS.astore X3.here hx rfl (Jvm.hb hby at_59) rfl rfl (l' := #[.val (.int p0), .val (.int p1), .val (.int p2), .val (.int p3), .val (.int B1), .val (.int B2), .val (.int U), .val (.int (0 : Int32)), .val (.int (0 : Int32)), .val (.ref d), .val (.ref b), .unset, .unset, .unset]) rfl k_) ?_
      refine own_go (t' := T3.setTop (mkF m 63 #[.val (.int p0), .val (.int p1), .val (.int p2), .val (.int p3), .val (.int B1), .val (.int B2), .val (.int U), .val (.int (0 : Int32)), .val (.int (0 : Int32)), .val (.ref d), .val (.ref b), .unset, .unset, .unset] [(.int (0 : Int32))])) (fun _ k_ => XS.iload X3.here hx rfl (Jvm.hb hby at_61) rfl k_) ?_
      refine own_go (t' := T3.setTop (mkF m 76 #[.val (.int p0), .val (.int p1), .val (.int p2), .val (.int p3), .val (.int B1), .val (.int B2), .val (.int U), .val (.int (0 : Int32)), .val (.int (0 : Int32)), .val (.ref d), .val (.ref b), .unset, .unset, .unset] [])) (fun _ k_ => XS.ifYes X3.here hx rfl (pc0 := 63) (pc' := 76) rfl (Jvm.hb hby at_63) rfl ((if0 _ _).trans (teq rfl).1) (by decide) (by decide) k_) ?_
      refine own_go (t' := T3.setTop (mkF m 78 #[.val (.int p0), .val (.int p1), .val (.int p2), .val (.int p3), .val (.int B1), .val (.int B2), .val (.int U), .val (.int (0 : Int32)), .val (.int (0 : Int32)), .val (.ref d), .val (.ref b), .unset, .unset, .unset] [(.ref b)])) (fun _ k_ => XS.aload X3.here hx rfl (Jvm.hb hby at_76) rfl rfl k_) ?_
      refine own_go (t' := T3.setTop (mkF m 80 #[.val (.int p0), .val (.int p1), .val (.int p2), .val (.int p3), .val (.int B1), .val (.int B2), .val (.int U), .val (.int (0 : Int32)), .val (.int (0 : Int32)), .val (.ref d), .val (.ref b), .unset, .unset, .unset] [(.int B1), (.ref b)])) (fun _ k_ => XS.iload X3.here hx rfl (Jvm.hb hby at_78) rfl k_) ?_
      obtain ⟨T4, L4, v4, X4, hQ4, st4⟩ := own_virtualUp X3 hx hZ (owner := "com/example/libgate/libgate/BucketBuilder") (x0 := (⟨"com/example/libgate/libgate/BucketBuilderBurstPinLaw", "burst", "(I)Lcom/example/libgate/libgate/BucketBuilder;"⟩ : MethodName)) (y := (⟨"com/example/libgate/libgate/BucketBuilder", "burst", "(I)Lcom/example/libgate/libgate/BucketBuilder;"⟩ : MethodName)) hown (hw _ (List.mem_of_getElem? (i := 89) rfl)) (hw _ (List.mem_of_getElem? (i := 90) rfl)) (hw _ (List.mem_of_getElem? (i := 91) rfl)) (by decide) (hw _ (List.mem_of_getElem? (i := 93) rfl)) (hw _ (List.mem_of_getElem? (i := 92) rfl)) (hw _ (List.mem_of_getElem? (i := 94) rfl)) (hw _ (List.mem_of_getElem? (i := 31) rfl)) Eb (rm_bu l Z a0 hw [] b B1 _ _ T3.heap n0 Zc Eb F1 F2 gb (own_nn hB1)) (rfl : T3.heap = T3.heap) (g := (mkF m 80 #[.val (.int p0), .val (.int p1), .val (.int p2), .val (.int p3), .val (.int B1), .val (.int B2), .val (.int U), .val (.int (0 : Int32)), .val (.int (0 : Int32)), .val (.ref d), .val (.ref b), .unset, .unset, .unset] [(.int B1), (.ref b)])) rfl (by rw [hml]; rfl) (argsL := [(.int B1)]) (rest := []) (lenOf pd_d16 rfl) rfl (W := 0) (by show 2 * 0 + _ ≤ _; exact Nat.le_of_eq rfl) (Jvm.hb hby at_80) (by decide) (by decide) (by decide) (by decide)
      obtain ⟨rfl, Nq4, K4, Eb, F1, F2⟩ := hQ4
      have N4 := Fr.app N3 Nq4
      refine own_go (t' := T4.setTop (mkF m 83 #[.val (.int p0), .val (.int p1), .val (.int p2), .val (.int p3), .val (.int B1), .val (.int B2), .val (.int U), .val (.int (0 : Int32)), .val (.int (0 : Int32)), .val (.ref d), .val (.ref b), .unset, .unset, .unset] [(.ref b)])) st4 ?_
      have Zc : n0 ≤ T4.heap.size := Nat.le_trans Zc K4.1
      have hkc := Nat.le_trans hkc K4.1
      have Ds1 := Ds1.keep K4 hne
      have Ds2 := Ds2.keep K4 hne
      have Ed := Ed.keep K4
      refine own_go (t' := T4.setTop (mkF m 85 #[.val (.int p0), .val (.int p1), .val (.int p2), .val (.int p3), .val (.int B1), .val (.int B2), .val (.int U), .val (.int (0 : Int32)), .val (.int (0 : Int32)), .val (.ref d), .val (.ref b), .unset, .unset, .unset] [(.ref b), (.ref b)])) (fun _ k_ => XS.aload X4.here hx rfl (Jvm.hb hby at_83) rfl rfl k_) ?_
      refine own_go (t' := T4.setTop (mkF m 88 #[.val (.int p0), .val (.int p1), .val (.int p2), .val (.int p3), .val (.int B1), .val (.int B2), .val (.int U), .val (.int (0 : Int32)), .val (.int (0 : Int32)), .val (.ref d), .val (.ref b), .unset, .unset, .unset] [])) (fun _ k_ => Jvm.RoadKit.acmp (g := (mkF m 85 #[.val (.int p0), .val (.int p1), .val (.int p2), .val (.int p3), .val (.int B1), .val (.int B2), .val (.int U), .val (.int (0 : Int32)), .val (.int (0 : Int32)), .val (.ref d), .val (.ref b), .unset, .unset, .unset] [(.ref b), (.ref b)])) X4 hx rfl rfl rfl (pc0 := 85) (pc' := 88) (same := true) rfl (Jvm.hb hby at_85) rfl (decide_eq_true rfl) (by decide) (by decide) k_) ?_
      refine own_go (t' := T4.setTop (mkF m 89 #[.val (.int p0), .val (.int p1), .val (.int p2), .val (.int p3), .val (.int B1), .val (.int B2), .val (.int U), .val (.int (0 : Int32)), .val (.int (0 : Int32)), .val (.ref d), .val (.ref b), .unset, .unset, .unset] [(.int (1 : Int32))])) (fun _ k_ => XS.iconst X4.here hx rfl (Jvm.hb hby at_88) k_) ?_
      refine own_go (t' := T4.setTop (mkF m 93 #[.val (.int p0), .val (.int p1), .val (.int p2), .val (.int p3), .val (.int B1), .val (.int B2), .val (.int U), .val (.int (0 : Int32)), .val (.int (0 : Int32)), .val (.ref d), .val (.ref b), .unset, .unset, .unset] [(.int (1 : Int32))])) (fun _ k_ => XS.goto X4.here hx rfl (pc0 := 89) (pc' := 93) rfl (Jvm.hb hby at_89) (by decide) (by decide) k_) ?_
      refine own_go (t' := T4.setTop (mkF m 95 #[.val (.int p0), .val (.int p1), .val (.int p2), .val (.int p3), .val (.int B1), .val (.int B2), .val (.int U), .val (.int (0 : Int32)), .val (.int (0 : Int32)), .val (.ref d), .val (.ref b), .val (.int (1 : Int32)), .unset, .unset] [])) (fun _ k_ => XS.istore X4.here hx rfl (Jvm.hb hby at_93) rfl (l' := #[.val (.int p0), .val (.int p1), .val (.int p2), .val (.int p3), .val (.int B1), .val (.int B2), .val (.int U), .val (.int (0 : Int32)), .val (.int (0 : Int32)), .val (.ref d), .val (.ref b), .val (.int (1 : Int32)), .unset, .unset]) rfl k_) ?_
      refine own_go (t' := T4.setTop (mkF m 97 #[.val (.int p0), .val (.int p1), .val (.int p2), .val (.int p3), .val (.int B1), .val (.int B2), .val (.int U), .val (.int (0 : Int32)), .val (.int (0 : Int32)), .val (.ref d), .val (.ref b), .val (.int (1 : Int32)), .unset, .unset] [(.int B1)])) (fun _ k_ => XS.iload X4.here hx rfl (Jvm.hb hby at_95) rfl k_) ?_
      refine own_go (t' := T4.setTop (mkF m 99 #[.val (.int p0), .val (.int p1), .val (.int p2), .val (.int p3), .val (.int B1), .val (.int B2), .val (.int U), .val (.int (0 : Int32)), .val (.int (0 : Int32)), .val (.ref d), .val (.ref b), .val (.int (1 : Int32)), .val (.int B1), .unset] [])) (fun _ k_ => XS.istore X4.here hx rfl (Jvm.hb hby at_97) rfl (l' := #[.val (.int p0), .val (.int p1), .val (.int p2), .val (.int p3), .val (.int B1), .val (.int B2), .val (.int U), .val (.int (0 : Int32)), .val (.int (0 : Int32)), .val (.ref d), .val (.ref b), .val (.int (1 : Int32)), .val (.int B1), .unset]) rfl k_) ?_
      refine own_go (t' := T4.setTop (mkF m 101 #[.val (.int p0), .val (.int p1), .val (.int p2), .val (.int p3), .val (.int B1), .val (.int B2), .val (.int U), .val (.int (0 : Int32)), .val (.int (0 : Int32)), .val (.ref d), .val (.ref b), .val (.int (1 : Int32)), .val (.int B1), .unset] [(.int (0 : Int32))])) (fun _ k_ => XS.iload X4.here hx rfl (Jvm.hb hby at_99) rfl k_) ?_
      refine own_go (t' := T4.setTop (mkF m 132 #[.val (.int p0), .val (.int p1), .val (.int p2), .val (.int p3), .val (.int B1), .val (.int B2), .val (.int U), .val (.int (0 : Int32)), .val (.int (0 : Int32)), .val (.ref d), .val (.ref b), .val (.int (1 : Int32)), .val (.int B1), .unset] [])) (fun _ k_ => XS.ifYes X4.here hx rfl (pc0 := 101) (pc' := 132) rfl (Jvm.hb hby at_101) rfl ((if0 _ _).trans (teq rfl).1) (by decide) (by decide) k_) ?_
      refine own_go (t' := T4.setTop (mkF m 134 #[.val (.int p0), .val (.int p1), .val (.int p2), .val (.int p3), .val (.int B1), .val (.int B2), .val (.int U), .val (.int (0 : Int32)), .val (.int (0 : Int32)), .val (.ref d), .val (.ref b), .val (.int (1 : Int32)), .val (.int B1), .unset] [(.int (0 : Int32))])) (fun _ k_ => XS.iload X4.here hx rfl (Jvm.hb hby at_132) rfl k_) ?_
      refine own_go (t' := T4.setTop (mkF m 137 #[.val (.int p0), .val (.int p1), .val (.int p2), .val (.int p3), .val (.int B1), .val (.int B2), .val (.int U), .val (.int (0 : Int32)), .val (.int (0 : Int32)), .val (.ref d), .val (.ref b), .val (.int (1 : Int32)), .val (.int B1), .unset] [])) (fun _ k_ => XS.ifNo X4.here hx rfl (Jvm.hb hby at_134) rfl ((if0 _ _).trans (teq rfl).2) k_) ?_
      refine own_go (t' := T4.setTop (mkF m 139 #[.val (.int p0), .val (.int p1), .val (.int p2), .val (.int p3), .val (.int B1), .val (.int B2), .val (.int U), .val (.int (0 : Int32)), .val (.int (0 : Int32)), .val (.ref d), .val (.ref b), .val (.int (1 : Int32)), .val (.int B1), .unset] [(.ref b)])) (fun _ k_ => XS.aload X4.here hx rfl (Jvm.hb hby at_137) rfl rfl k_) ?_
      refine own_go (t' := T4.setTop (mkF m 141 #[.val (.int p0), .val (.int p1), .val (.int p2), .val (.int p3), .val (.int B1), .val (.int B2), .val (.int U), .val (.int (0 : Int32)), .val (.int (0 : Int32)), .val (.ref d), .val (.ref b), .val (.int (1 : Int32)), .val (.int B1), .unset] [(.int U), (.ref b)])) (fun _ k_ => XS.iload X4.here hx rfl (Jvm.hb hby at_139) rfl k_) ?_
      refine own_go (t' := T4.setTop (mkF m 143 #[.val (.int p0), .val (.int p1), .val (.int p2), .val (.int p3), .val (.int B1), .val (.int B2), .val (.int U), .val (.int (0 : Int32)), .val (.int (0 : Int32)), .val (.ref d), .val (.ref b), .val (.int (1 : Int32)), .val (.int B1), .unset] [(.ref d), (.int U), (.ref b)])) (fun _ k_ => XS.aload X4.here hx rfl (Jvm.hb hby at_141) rfl rfl k_) ?_
      obtain ⟨T5, L5, v5, X5, hS5, hZ, hown, hQ5, st5⟩ := own_virtualUpW (s := s) (vm0 := s.vm) X4 hx hZ hS0 hkc (owner := "com/example/libgate/libgate/BucketBuilder") (x0 := (⟨"com/example/libgate/libgate/BucketBuilderBurstPinLaw", "rate", "(ILjava/time/Duration;)Lcom/example/libgate/libgate/BucketBuilder;"⟩ : MethodName)) (y := (⟨"com/example/libgate/libgate/BucketBuilder", "rate", "(ILjava/time/Duration;)Lcom/example/libgate/libgate/BucketBuilder;"⟩ : MethodName)) hown (hw _ (List.mem_of_getElem? (i := 36) rfl)) (hw _ (List.mem_of_getElem? (i := 37) rfl)) (hw _ (List.mem_of_getElem? (i := 38) rfl)) (by decide) (hw _ (List.mem_of_getElem? (i := 40) rfl)) (hw _ (List.mem_of_getElem? (i := 39) rfl)) (hw _ (List.mem_of_getElem? (i := 41) rfl)) (hw _ (List.mem_of_getElem? (i := 31) rfl)) Eb (rm_ra l Z a0 hw [] b U d _ _ T4.heap n0 Zc Eb F1 F2 Ed Ds1 Ds2 gb hU) (rfl : T4.heap = T4.heap) (g := (mkF m 143 #[.val (.int p0), .val (.int p1), .val (.int p2), .val (.int p3), .val (.int B1), .val (.int B2), .val (.int U), .val (.int (0 : Int32)), .val (.int (0 : Int32)), .val (.ref d), .val (.ref b), .val (.int (1 : Int32)), .val (.int B1), .unset] [(.ref d), (.int U), (.ref b)])) rfl (by rw [hml]; rfl) (argsL := [(.int U), (.ref d)]) (rest := []) (lenOf pd_d7 rfl) rfl (W := 0) (by show 2 * 0 + _ ≤ _; exact Nat.le_of_eq rfl) (Jvm.hb hby at_143) (by decide) (by decide) (by decide) (by decide)
      obtain ⟨rfl, Nq5, K5, Eb, F1, F2⟩ := hQ5
      have N5 := Fr.app N4 Nq5
      refine own_go (t' := T5.setTop (mkF m 146 #[.val (.int p0), .val (.int p1), .val (.int p2), .val (.int p3), .val (.int B1), .val (.int B2), .val (.int U), .val (.int (0 : Int32)), .val (.int (0 : Int32)), .val (.ref d), .val (.ref b), .val (.int (1 : Int32)), .val (.int B1), .unset] [(.ref b)])) st5 ?_
      have Zc : n0 ≤ T5.heap.size := Nat.le_trans Zc K5.1
      have hkc : T5.heap.size ≤ T5.heap.size := Nat.le_refl _
      refine own_go (t' := T5.setTop (mkF m 147 #[.val (.int p0), .val (.int p1), .val (.int p2), .val (.int p3), .val (.int B1), .val (.int B2), .val (.int U), .val (.int (0 : Int32)), .val (.int (0 : Int32)), .val (.ref d), .val (.ref b), .val (.int (1 : Int32)), .val (.int B1), .unset] [])) (fun _ k_ => XS.pop X5.here hx rfl (Jvm.hb hby at_146) rfl rfl k_) ?_
      refine own_go (t' := T5.setTop (mkF m 149 #[.val (.int p0), .val (.int p1), .val (.int p2), .val (.int p3), .val (.int B1), .val (.int B2), .val (.int U), .val (.int (0 : Int32)), .val (.int (0 : Int32)), .val (.ref d), .val (.ref b), .val (.int (1 : Int32)), .val (.int B1), .unset] [(.ref b)])) (fun _ k_ => XS.aload X5.here hx rfl (Jvm.hb hby at_147) rfl rfl k_) ?_
      obtain ⟨T6, L6, v6, X6, hQ6, st6⟩ := own_virtualUp X5 hx hZ (owner := "com/example/libgate/libgate/BucketBuilder") (x0 := (⟨"com/example/libgate/libgate/BucketBuilderBurstPinLaw", "bucketRate", "()Lcom/example/libgate/libgate/BucketRate;"⟩ : MethodName)) (y := (⟨"com/example/libgate/libgate/BucketBuilder", "bucketRate", "()Lcom/example/libgate/libgate/BucketRate;"⟩ : MethodName)) hown (hw _ (List.mem_of_getElem? (i := 95) rfl)) (hw _ (List.mem_of_getElem? (i := 96) rfl)) (hw _ (List.mem_of_getElem? (i := 97) rfl)) (by decide) (hw _ (List.mem_of_getElem? (i := 99) rfl)) (hw _ (List.mem_of_getElem? (i := 98) rfl)) (hw _ (List.mem_of_getElem? (i := 100) rfl)) (hw _ (List.mem_of_getElem? (i := 31) rfl)) Eb (rm_br l Z a0 hw [] b (FP.ddiv (FP.i2d U) (FP.dadd (FP.l2d (1 : Int64)) (FP.ddiv (FP.i2d (0 : Int32)) (4741671816366391296 : UInt64)))) B1 T5.heap n0 Zc F1 F2 (OwnFp.rate_nz hU _) (own_ne hB1) (OwnFp.rate_inv hU)) (rfl : T5.heap = T5.heap) (g := (mkF m 149 #[.val (.int p0), .val (.int p1), .val (.int p2), .val (.int p3), .val (.int B1), .val (.int B2), .val (.int U), .val (.int (0 : Int32)), .val (.int (0 : Int32)), .val (.ref d), .val (.ref b), .val (.int (1 : Int32)), .val (.int B1), .unset] [(.ref b)])) rfl (by rw [hml]; rfl) (argsL := []) (rest := []) (lenOf pd_d17 rfl) rfl (W := 0) (by show 2 * 0 + _ ≤ _; exact Nat.le_of_eq rfl) (Jvm.hb hby at_149) (by decide) (by decide) (by decide) (by decide)
      obtain ⟨a, rfl, Nq6, ha, Ka, Ea, G1, G2⟩ := hQ6
      have N6 := Fr.app N5 Nq6
      refine own_go (t' := T6.setTop (mkF m 152 #[.val (.int p0), .val (.int p1), .val (.int p2), .val (.int p3), .val (.int B1), .val (.int B2), .val (.int U), .val (.int (0 : Int32)), .val (.int (0 : Int32)), .val (.ref d), .val (.ref b), .val (.int (1 : Int32)), .val (.int B1), .unset] [(.ref a)])) st6 ?_
      have Zc : n0 ≤ T6.heap.size := Nat.le_trans Zc Ka.1
      have hkc := Nat.le_trans hkc Ka.1
      refine own_go (t' := T6.setTop (mkF m 154 #[.val (.int p0), .val (.int p1), .val (.int p2), .val (.int p3), .val (.int B1), .val (.int B2), .val (.int U), .val (.int (0 : Int32)), .val (.int (0 : Int32)), .val (.ref d), .val (.ref b), .val (.int (1 : Int32)), .val (.int B1), .val (.ref a)] [])) (fun _ k_ => XS.astore X6.here hx rfl (Jvm.hb hby at_152) rfl rfl (l' := #[.val (.int p0), .val (.int p1), .val (.int p2), .val (.int p3), .val (.int B1), .val (.int B2), .val (.int U), .val (.int (0 : Int32)), .val (.int (0 : Int32)), .val (.ref d), .val (.ref b), .val (.int (1 : Int32)), .val (.int B1), .val (.ref a)]) rfl k_) ?_
      refine own_go (t' := T6.setTop (mkF m 156 #[.val (.int p0), .val (.int p1), .val (.int p2), .val (.int p3), .val (.int B1), .val (.int B2), .val (.int U), .val (.int (0 : Int32)), .val (.int (0 : Int32)), .val (.ref d), .val (.ref b), .val (.int (1 : Int32)), .val (.int B1), .val (.ref a)] [(.int (1 : Int32))])) (fun _ k_ => XS.iload X6.here hx rfl (Jvm.hb hby at_154) rfl k_) ?_
      refine own_go (t' := T6.setTop (mkF m 159 #[.val (.int p0), .val (.int p1), .val (.int p2), .val (.int p3), .val (.int B1), .val (.int B2), .val (.int U), .val (.int (0 : Int32)), .val (.int (0 : Int32)), .val (.ref d), .val (.ref b), .val (.int (1 : Int32)), .val (.int B1), .val (.ref a)] [])) (fun _ k_ => XS.ifNo X6.here hx rfl (Jvm.hb hby at_156) rfl ((if0 _ _).trans (feq (by decide)).1) k_) ?_
      refine own_go (t' := T6.setTop (mkF m 161 #[.val (.int p0), .val (.int p1), .val (.int p2), .val (.int p3), .val (.int B1), .val (.int B2), .val (.int U), .val (.int (0 : Int32)), .val (.int (0 : Int32)), .val (.ref d), .val (.ref b), .val (.int (1 : Int32)), .val (.int B1), .val (.ref a)] [(.ref a)])) (fun _ k_ => XS.aload X6.here hx rfl (Jvm.hb hby at_159) rfl rfl k_) ?_
      obtain ⟨T7, L7, v7, X7, hQ7, st7⟩ := own_virtual X6 hx hZ (y := (⟨"com/example/libgate/libgate/BucketRate", "maxPermits", "()D"⟩ : MethodName)) hown (hw _ (List.mem_of_getElem? (i := 124) rfl)) (hw _ (List.mem_of_getElem? (i := 125) rfl)) (hw _ (List.mem_of_getElem? (i := 127) rfl)) (hw _ (List.mem_of_getElem? (i := 126) rfl)) (hw _ (List.mem_of_getElem? (i := 128) rfl)) (hw _ (List.mem_of_getElem? (i := 70) rfl)) (by decide) Ea (rm_mp l Z a0 hw [] a (FP.i2d B1) T6.heap n0 Zc G2) (rfl : T6.heap = T6.heap) (g := (mkF m 161 #[.val (.int p0), .val (.int p1), .val (.int p2), .val (.int p3), .val (.int B1), .val (.int B2), .val (.int U), .val (.int (0 : Int32)), .val (.int (0 : Int32)), .val (.ref d), .val (.ref b), .val (.int (1 : Int32)), .val (.int B1), .val (.ref a)] [(.ref a)])) rfl (by rw [hml]; rfl) (argsL := []) (rest := []) (lenOf pd_d20 rfl) rfl (W := 0) (by show 2 * 0 + _ ≤ _; exact Nat.le_of_eq rfl) (Jvm.hb hby at_161) (by decide) (by decide) (by decide) (by decide)
      obtain ⟨rfl, Nq7, e7⟩ := hQ7
      have N7 := Fr.app N6 Nq7
      refine own_go (t' := T7.setTop (mkF m 164 #[.val (.int p0), .val (.int p1), .val (.int p2), .val (.int p3), .val (.int B1), .val (.int B2), .val (.int U), .val (.int (0 : Int32)), .val (.int (0 : Int32)), .val (.ref d), .val (.ref b), .val (.int (1 : Int32)), .val (.int B1), .val (.ref a)] [(.double (FP.i2d B1))])) st7 ?_
      refine own_go (t' := T7.setTop (mkF m 166 #[.val (.int p0), .val (.int p1), .val (.int p2), .val (.int p3), .val (.int B1), .val (.int B2), .val (.int U), .val (.int (0 : Int32)), .val (.int (0 : Int32)), .val (.ref d), .val (.ref b), .val (.int (1 : Int32)), .val (.int B1), .val (.ref a)] [(.int B1), (.double (FP.i2d B1))])) (fun _ k_ => XS.iload X7.here hx rfl (Jvm.hb hby at_164) rfl k_) ?_
      refine own_go (t' := T7.setTop (mkF m 167 #[.val (.int p0), .val (.int p1), .val (.int p2), .val (.int p3), .val (.int B1), .val (.int B2), .val (.int U), .val (.int (0 : Int32)), .val (.int (0 : Int32)), .val (.ref d), .val (.ref b), .val (.int (1 : Int32)), .val (.int B1), .val (.ref a)] [(.double (FP.i2d B1)), (.double (FP.i2d B1))])) (fun _ k_ => XS.i2dS X7.here hx rfl (Jvm.hb hby at_166) rfl rfl k_) ?_
      refine own_go (t' := T7.setTop (mkF m 168 #[.val (.int p0), .val (.int p1), .val (.int p2), .val (.int p3), .val (.int B1), .val (.int B2), .val (.int U), .val (.int (0 : Int32)), .val (.int (0 : Int32)), .val (.ref d), .val (.ref b), .val (.int (1 : Int32)), .val (.int B1), .val (.ref a)] [(.int (cmpValue (FP.dcmp (FP.i2d B1) (FP.i2d B1)) CmpOp.l))])) (fun _ k_ => XS.dcmpS X7.here hx rfl (Jvm.hb hby at_167) rfl rfl k_) ?_
      refine own_go (t' := T7.setTop (mkF m 171 #[.val (.int p0), .val (.int p1), .val (.int p2), .val (.int p3), .val (.int B1), .val (.int B2), .val (.int U), .val (.int (0 : Int32)), .val (.int (0 : Int32)), .val (.ref d), .val (.ref b), .val (.int (1 : Int32)), .val (.int B1), .val (.ref a)] [])) (fun _ k_ => XS.ifNo X7.here hx rfl (Jvm.hb hby at_168) rfl ((if0 _ _).trans (teq (OwnFp.same_int _ _)).2) k_) ?_
      refine own_go (t' := T7.setTop (mkF m 173 #[.val (.int p0), .val (.int p1), .val (.int p2), .val (.int p3), .val (.int B1), .val (.int B2), .val (.int U), .val (.int (0 : Int32)), .val (.int (0 : Int32)), .val (.ref d), .val (.ref b), .val (.int (1 : Int32)), .val (.int B1), .val (.ref a)] [(.ref a)])) (fun _ k_ => XS.aload X7.here hx rfl (Jvm.hb hby at_171) rfl rfl k_) ?_
      obtain ⟨T8, L8, v8, X8, hQ8, st8⟩ := own_virtual X7 hx hZ (y := (⟨"com/example/libgate/libgate/BucketRate", "warmsUp", "()Z"⟩ : MethodName)) hown (hw _ (List.mem_of_getElem? (i := 129) rfl)) (hw _ (List.mem_of_getElem? (i := 130) rfl)) (hw _ (List.mem_of_getElem? (i := 132) rfl)) (hw _ (List.mem_of_getElem? (i := 131) rfl)) (hw _ (List.mem_of_getElem? (i := 133) rfl)) (hw _ (List.mem_of_getElem? (i := 70) rfl)) (by decide) Ea (rm_wu l Z a0 hw [] a T6.heap n0 Zc G1) e7 (g := (mkF m 173 #[.val (.int p0), .val (.int p1), .val (.int p2), .val (.int p3), .val (.int B1), .val (.int B2), .val (.int U), .val (.int (0 : Int32)), .val (.int (0 : Int32)), .val (.ref d), .val (.ref b), .val (.int (1 : Int32)), .val (.int B1), .val (.ref a)] [(.ref a)])) rfl (by rw [hml]; rfl) (argsL := []) (rest := []) (lenOf pd_d21 rfl) rfl (W := 0) (by show 2 * 0 + _ ≤ _; exact Nat.le_of_eq rfl) (Jvm.hb hby at_173) (by decide) (by decide) (by decide) (by decide)
      obtain ⟨rfl, Nq8, e8⟩ := hQ8
      have N8 := Fr.app N7 Nq8
      refine own_go (t' := T8.setTop (mkF m 176 #[.val (.int p0), .val (.int p1), .val (.int p2), .val (.int p3), .val (.int B1), .val (.int B2), .val (.int U), .val (.int (0 : Int32)), .val (.int (0 : Int32)), .val (.ref d), .val (.ref b), .val (.int (1 : Int32)), .val (.int B1), .val (.ref a)] [(.int (0 : Int32))])) st8 ?_
      refine own_go (t' := T8.setTop (mkF m 179 #[.val (.int p0), .val (.int p1), .val (.int p2), .val (.int p3), .val (.int B1), .val (.int B2), .val (.int U), .val (.int (0 : Int32)), .val (.int (0 : Int32)), .val (.ref d), .val (.ref b), .val (.int (1 : Int32)), .val (.int B1), .val (.ref a)] [])) (fun _ k_ => XS.ifNo X8.here hx rfl (Jvm.hb hby at_176) rfl ((if0 _ _).trans (teq rfl).2) k_) ?_
      refine own_go (t' := T8.setTop (mkF m 180 #[.val (.int p0), .val (.int p1), .val (.int p2), .val (.int p3), .val (.int B1), .val (.int B2), .val (.int U), .val (.int (0 : Int32)), .val (.int (0 : Int32)), .val (.ref d), .val (.ref b), .val (.int (1 : Int32)), .val (.int B1), .val (.ref a)] [(.int (1 : Int32))])) (fun _ k_ => XS.iconst X8.here hx rfl (Jvm.hb hby at_179) k_) ?_
      refine own_go (t' := T8.setTop (mkF m 184 #[.val (.int p0), .val (.int p1), .val (.int p2), .val (.int p3), .val (.int B1), .val (.int B2), .val (.int U), .val (.int (0 : Int32)), .val (.int (0 : Int32)), .val (.ref d), .val (.ref b), .val (.int (1 : Int32)), .val (.int B1), .val (.ref a)] [(.int (1 : Int32))])) (fun _ k_ => XS.goto X8.here hx rfl (pc0 := 180) (pc' := 184) rfl (Jvm.hb hby at_180) (by decide) (by decide) k_) ?_
      exact own_retZW (s := s) X8 hS5 (by rw [e8]; exact hkc) hx Bd.returns (BodyLoose.notSynchronized Bd) rfl (Jvm.hb hby at_184) (by decide) (by decide) ⟨rfl, N8⟩
    ·
      refine own_go (t' := s₁.setTop (mkF m 39 #[.val (.int p0), .val (.int p1), .val (.int p2), .val (.int p3), .val (.int B1), .val (.int B2), .val (.int U), .val (.int (0 : Int32)), .unset, .unset, .unset, .unset, .unset, .unset] [])) (fun _ k_ => XS.ifNo X0.here hx rfl (Jvm.hb hby at_36) rfl ((if0 _ _).trans (feq hc8).1) k_) ?_
      refine own_go (t' := s₁.setTop (mkF m 40 #[.val (.int p0), .val (.int p1), .val (.int p2), .val (.int p3), .val (.int B1), .val (.int B2), .val (.int U), .val (.int (0 : Int32)), .unset, .unset, .unset, .unset, .unset, .unset] [(.int (1 : Int32))])) (fun _ k_ => XS.iconst X0.here hx rfl (Jvm.hb hby at_39) k_) ?_
      refine own_go (t' := s₁.setTop (mkF m 44 #[.val (.int p0), .val (.int p1), .val (.int p2), .val (.int p3), .val (.int B1), .val (.int B2), .val (.int U), .val (.int (0 : Int32)), .unset, .unset, .unset, .unset, .unset, .unset] [(.int (1 : Int32))])) (fun _ k_ => XS.goto X0.here hx rfl (pc0 := 40) (pc' := 44) rfl (Jvm.hb hby at_40) (by decide) (by decide) k_) ?_
      refine own_go (t' := s₁.setTop (mkF m 46 #[.val (.int p0), .val (.int p1), .val (.int p2), .val (.int p3), .val (.int B1), .val (.int B2), .val (.int U), .val (.int (0 : Int32)), .val (.int (1 : Int32)), .unset, .unset, .unset, .unset, .unset] [])) (fun _ k_ => XS.istore X0.here hx rfl (Jvm.hb hby at_44) rfl (l' := #[.val (.int p0), .val (.int p1), .val (.int p2), .val (.int p3), .val (.int B1), .val (.int B2), .val (.int U), .val (.int (0 : Int32)), .val (.int (1 : Int32)), .unset, .unset, .unset, .unset, .unset]) rfl k_) ?_
      refine own_go (t' := s₁.setTop (mkF m 47 #[.val (.int p0), .val (.int p1), .val (.int p2), .val (.int p3), .val (.int B1), .val (.int B2), .val (.int U), .val (.int (0 : Int32)), .val (.int (1 : Int32)), .unset, .unset, .unset, .unset, .unset] [(.long (1 : Int64))])) (fun _ k_ => XS.lconst X0.here hx rfl (Jvm.hb hby at_46) k_) ?_
      obtain ⟨T9, L9, v9, X9, hQ9, st9⟩ := own_static X0 hx hZ hown (hw _ (List.mem_of_getElem? (i := 2) rfl)) (hw _ (List.mem_of_getElem? (i := 3) rfl)) (hw _ (List.mem_of_getElem? (i := 4) rfl)) (hw _ (List.mem_of_getElem? (i := 5) rfl)) (by decide) (rm_of l Z a0 hw [] h0 n0 Z0) e0 (g := (mkF m 47 #[.val (.int p0), .val (.int p1), .val (.int p2), .val (.int p3), .val (.int B1), .val (.int B2), .val (.int U), .val (.int (0 : Int32)), .val (.int (1 : Int32)), .unset, .unset, .unset, .unset, .unset] [(.long (1 : Int64))])) rfl (by rw [hml]; rfl) (argsL := [(.long (1 : Int64))]) (rest := []) (lenOf pd_d1 rfl) rfl (W := 0) (by show 2 * 0 + _ ≤ _; exact Nat.le_of_eq rfl) (Jvm.hb hby at_47) (by decide) (by decide) (by decide) (by decide)
      obtain ⟨d, rfl, Nq9, hd, Kd, Ed, Ds1, Ds2⟩ := hQ9
      have N9 := Fr.app N0 Nq9
      refine own_go (t' := T9.setTop (mkF m 50 #[.val (.int p0), .val (.int p1), .val (.int p2), .val (.int p3), .val (.int B1), .val (.int B2), .val (.int U), .val (.int (0 : Int32)), .val (.int (1 : Int32)), .unset, .unset, .unset, .unset, .unset] [(.ref d)])) st9 ?_
      have Zd : n0 ≤ T9.heap.size := Nat.le_trans Z0 Kd.1
      refine own_go (t' := T9.setTop (mkF m 52 #[.val (.int p0), .val (.int p1), .val (.int p2), .val (.int p3), .val (.int B1), .val (.int B2), .val (.int U), .val (.int (0 : Int32)), .val (.int (1 : Int32)), .val (.ref d), .unset, .unset, .unset, .unset] [])) (fun _ k_ => XS.astore X9.here hx rfl (Jvm.hb hby at_50) rfl rfl (l' := #[.val (.int p0), .val (.int p1), .val (.int p2), .val (.int p3), .val (.int B1), .val (.int B2), .val (.int U), .val (.int (0 : Int32)), .val (.int (1 : Int32)), .val (.ref d), .unset, .unset, .unset, .unset]) rfl k_) ?_
      obtain ⟨T10, h10, X10, e10, E10, A10, D10, -, st10⟩ := newO X9 hx hZ hown (hw _ (List.mem_of_getElem? (i := 22) rfl)) (hw _ (List.mem_of_getElem? (i := 23) rfl)) (hw _ (List.mem_of_getElem? (i := 24) rfl)) (rfl : T9.heap = T9.heap) (g := (mkF m 52 #[.val (.int p0), .val (.int p1), .val (.int p2), .val (.int p3), .val (.int B1), .val (.int B2), .val (.int U), .val (.int (0 : Int32)), .val (.int (1 : Int32)), .val (.ref d), .unset, .unset, .unset, .unset] [])) rfl (Jvm.hb hby at_52) (by decide) (by decide)
      obtain ⟨b, g10⟩ : ∃ z, z = T9.heap.size := ⟨_, rfl⟩
      rw [← g10] at A10 D10 st10
      refine own_go (t' := T10.setTop (mkF m 55 #[.val (.int p0), .val (.int p1), .val (.int p2), .val (.int p3), .val (.int B1), .val (.int B2), .val (.int U), .val (.int (0 : Int32)), .val (.int (1 : Int32)), .val (.ref d), .unset, .unset, .unset, .unset] [(.ref b)])) st10 ?_
      refine own_go (t' := T10.setTop (mkF m 56 #[.val (.int p0), .val (.int p1), .val (.int p2), .val (.int p3), .val (.int B1), .val (.int B2), .val (.int U), .val (.int (0 : Int32)), .val (.int (1 : Int32)), .val (.ref d), .unset, .unset, .unset, .unset] [(.ref b), (.ref b)])) (fun _ k_ => XS.dup X10.here hx rfl (Jvm.hb hby at_55) rfl rfl k_) ?_
      have Z1 : n0 ≤ h10.size := Nat.le_trans Zd E10.1
      have gb : n0 ≤ b := Nat.le_trans Zd (Nat.le_of_eq g10.symm)
      have Ed := Ed.ext E10
      have Ds1 := Ds1.ext E10
      have Ds2 := Ds2.ext E10
      obtain ⟨T11, L11, v11, X11, hQ11, st11⟩ := own_special X10 hx hZ (y := (⟨"com/example/libgate/libgate/BucketBuilderBurstPinLaw", "<init>", "()V"⟩ : MethodName)) rfl hown (hw _ (List.mem_of_getElem? (i := 25) rfl)) (hw _ (List.mem_of_getElem? (i := 26) rfl)) (hw _ (List.mem_of_getElem? (i := 27) rfl)) (hw _ (List.mem_of_getElem? (i := 24) rfl)) (by decide) (rm_li l Z a0 hw [] b _ _ h10 n0 Z1 A10 (D10 (Or.inl (hw _ (List.mem_of_getElem? (i := 35) rfl))) (ty := .int) (by decide)) (D10 (Or.inl (hw _ (List.mem_of_getElem? (i := 84) rfl))) (ty := .double) (by decide)) gb) e10 (g := (mkF m 56 #[.val (.int p0), .val (.int p1), .val (.int p2), .val (.int p3), .val (.int B1), .val (.int B2), .val (.int U), .val (.int (0 : Int32)), .val (.int (1 : Int32)), .val (.ref d), .unset, .unset, .unset, .unset] [(.ref b), (.ref b)])) rfl (by rw [hml]; rfl) (argsL := []) (rest := [(.ref b)]) (lenOf pd_d5 rfl) rfl (W := 1) (by show 2 * 0 + _ ≤ _; exact Nat.le_of_eq rfl) (Jvm.hb hby at_56) (by decide) (by decide) (by decide) (by decide)
      obtain ⟨rfl, Nq11, K1, Eb, ⟨w1, F1⟩, ⟨w2, F2⟩⟩ := hQ11
      have N11 := Fr.app N9 Nq11
      refine own_go (t' := T11.setTop (mkF m 59 #[.val (.int p0), .val (.int p1), .val (.int p2), .val (.int p3), .val (.int B1), .val (.int B2), .val (.int U), .val (.int (0 : Int32)), .val (.int (1 : Int32)), .val (.ref d), .unset, .unset, .unset, .unset] [(.ref b)])) st11 ?_
      have hne : d ∉ [b] := fun q => ne_exa Ed A10 (by decide) (List.mem_singleton.mp q)
      have Ds1 := Ds1.keep K1 hne
      have Ds2 := Ds2.keep K1 hne
      have Ed := Ed.keep K1
      have Zc : n0 ≤ T11.heap.size := Nat.le_trans Z1 K1.1
      have hkc : h0.size ≤ T11.heap.size := Nat.le_trans (Nat.le_trans Kd.1 E10.1) K1.1
      refine own_go (t' := T11.setTop (mkF m 61 #[.val (.int p0), .val (.int p1), .val (.int p2), .val (.int p3), .val (.int B1), .val (.int B2), .val (.int U), .val (.int (0 : Int32)), .val (.int (1 : Int32)), .val (.ref d), .val (.ref b), .unset, .unset, .unset] [])) (fun _ k_ => XS.astore X11.here hx rfl (Jvm.hb hby at_59) rfl rfl (l' := #[.val (.int p0), .val (.int p1), .val (.int p2), .val (.int p3), .val (.int B1), .val (.int B2), .val (.int U), .val (.int (0 : Int32)), .val (.int (1 : Int32)), .val (.ref d), .val (.ref b), .unset, .unset, .unset]) rfl k_) ?_
      refine own_go (t' := T11.setTop (mkF m 63 #[.val (.int p0), .val (.int p1), .val (.int p2), .val (.int p3), .val (.int B1), .val (.int B2), .val (.int U), .val (.int (0 : Int32)), .val (.int (1 : Int32)), .val (.ref d), .val (.ref b), .unset, .unset, .unset] [(.int (0 : Int32))])) (fun _ k_ => XS.iload X11.here hx rfl (Jvm.hb hby at_61) rfl k_) ?_
      refine own_go (t' := T11.setTop (mkF m 76 #[.val (.int p0), .val (.int p1), .val (.int p2), .val (.int p3), .val (.int B1), .val (.int B2), .val (.int U), .val (.int (0 : Int32)), .val (.int (1 : Int32)), .val (.ref d), .val (.ref b), .unset, .unset, .unset] [])) (fun _ k_ => XS.ifYes X11.here hx rfl (pc0 := 63) (pc' := 76) rfl (Jvm.hb hby at_63) rfl ((if0 _ _).trans (teq rfl).1) (by decide) (by decide) k_) ?_
      refine own_go (t' := T11.setTop (mkF m 78 #[.val (.int p0), .val (.int p1), .val (.int p2), .val (.int p3), .val (.int B1), .val (.int B2), .val (.int U), .val (.int (0 : Int32)), .val (.int (1 : Int32)), .val (.ref d), .val (.ref b), .unset, .unset, .unset] [(.ref b)])) (fun _ k_ => XS.aload X11.here hx rfl (Jvm.hb hby at_76) rfl rfl k_) ?_
      refine own_go (t' := T11.setTop (mkF m 80 #[.val (.int p0), .val (.int p1), .val (.int p2), .val (.int p3), .val (.int B1), .val (.int B2), .val (.int U), .val (.int (0 : Int32)), .val (.int (1 : Int32)), .val (.ref d), .val (.ref b), .unset, .unset, .unset] [(.int B1), (.ref b)])) (fun _ k_ => XS.iload X11.here hx rfl (Jvm.hb hby at_78) rfl k_) ?_
      obtain ⟨T12, L12, v12, X12, hQ12, st12⟩ := own_virtualUp X11 hx hZ (owner := "com/example/libgate/libgate/BucketBuilder") (x0 := (⟨"com/example/libgate/libgate/BucketBuilderBurstPinLaw", "burst", "(I)Lcom/example/libgate/libgate/BucketBuilder;"⟩ : MethodName)) (y := (⟨"com/example/libgate/libgate/BucketBuilder", "burst", "(I)Lcom/example/libgate/libgate/BucketBuilder;"⟩ : MethodName)) hown (hw _ (List.mem_of_getElem? (i := 89) rfl)) (hw _ (List.mem_of_getElem? (i := 90) rfl)) (hw _ (List.mem_of_getElem? (i := 91) rfl)) (by decide) (hw _ (List.mem_of_getElem? (i := 93) rfl)) (hw _ (List.mem_of_getElem? (i := 92) rfl)) (hw _ (List.mem_of_getElem? (i := 94) rfl)) (hw _ (List.mem_of_getElem? (i := 31) rfl)) Eb (rm_bu l Z a0 hw [] b B1 _ _ T11.heap n0 Zc Eb F1 F2 gb (own_nn hB1)) (rfl : T11.heap = T11.heap) (g := (mkF m 80 #[.val (.int p0), .val (.int p1), .val (.int p2), .val (.int p3), .val (.int B1), .val (.int B2), .val (.int U), .val (.int (0 : Int32)), .val (.int (1 : Int32)), .val (.ref d), .val (.ref b), .unset, .unset, .unset] [(.int B1), (.ref b)])) rfl (by rw [hml]; rfl) (argsL := [(.int B1)]) (rest := []) (lenOf pd_d16 rfl) rfl (W := 0) (by show 2 * 0 + _ ≤ _; exact Nat.le_of_eq rfl) (Jvm.hb hby at_80) (by decide) (by decide) (by decide) (by decide)
      obtain ⟨rfl, Nq12, K12, Eb, F1, F2⟩ := hQ12
      have N12 := Fr.app N11 Nq12
      refine own_go (t' := T12.setTop (mkF m 83 #[.val (.int p0), .val (.int p1), .val (.int p2), .val (.int p3), .val (.int B1), .val (.int B2), .val (.int U), .val (.int (0 : Int32)), .val (.int (1 : Int32)), .val (.ref d), .val (.ref b), .unset, .unset, .unset] [(.ref b)])) st12 ?_
      have Zc : n0 ≤ T12.heap.size := Nat.le_trans Zc K12.1
      have hkc := Nat.le_trans hkc K12.1
      have Ds1 := Ds1.keep K12 hne
      have Ds2 := Ds2.keep K12 hne
      have Ed := Ed.keep K12
      refine own_go (t' := T12.setTop (mkF m 85 #[.val (.int p0), .val (.int p1), .val (.int p2), .val (.int p3), .val (.int B1), .val (.int B2), .val (.int U), .val (.int (0 : Int32)), .val (.int (1 : Int32)), .val (.ref d), .val (.ref b), .unset, .unset, .unset] [(.ref b), (.ref b)])) (fun _ k_ => XS.aload X12.here hx rfl (Jvm.hb hby at_83) rfl rfl k_) ?_
      refine own_go (t' := T12.setTop (mkF m 88 #[.val (.int p0), .val (.int p1), .val (.int p2), .val (.int p3), .val (.int B1), .val (.int B2), .val (.int U), .val (.int (0 : Int32)), .val (.int (1 : Int32)), .val (.ref d), .val (.ref b), .unset, .unset, .unset] [])) (fun _ k_ => Jvm.RoadKit.acmp (g := (mkF m 85 #[.val (.int p0), .val (.int p1), .val (.int p2), .val (.int p3), .val (.int B1), .val (.int B2), .val (.int U), .val (.int (0 : Int32)), .val (.int (1 : Int32)), .val (.ref d), .val (.ref b), .unset, .unset, .unset] [(.ref b), (.ref b)])) X12 hx rfl rfl rfl (pc0 := 85) (pc' := 88) (same := true) rfl (Jvm.hb hby at_85) rfl (decide_eq_true rfl) (by decide) (by decide) k_) ?_
      refine own_go (t' := T12.setTop (mkF m 89 #[.val (.int p0), .val (.int p1), .val (.int p2), .val (.int p3), .val (.int B1), .val (.int B2), .val (.int U), .val (.int (0 : Int32)), .val (.int (1 : Int32)), .val (.ref d), .val (.ref b), .unset, .unset, .unset] [(.int (1 : Int32))])) (fun _ k_ => XS.iconst X12.here hx rfl (Jvm.hb hby at_88) k_) ?_
      refine own_go (t' := T12.setTop (mkF m 93 #[.val (.int p0), .val (.int p1), .val (.int p2), .val (.int p3), .val (.int B1), .val (.int B2), .val (.int U), .val (.int (0 : Int32)), .val (.int (1 : Int32)), .val (.ref d), .val (.ref b), .unset, .unset, .unset] [(.int (1 : Int32))])) (fun _ k_ => XS.goto X12.here hx rfl (pc0 := 89) (pc' := 93) rfl (Jvm.hb hby at_89) (by decide) (by decide) k_) ?_
      refine own_go (t' := T12.setTop (mkF m 95 #[.val (.int p0), .val (.int p1), .val (.int p2), .val (.int p3), .val (.int B1), .val (.int B2), .val (.int U), .val (.int (0 : Int32)), .val (.int (1 : Int32)), .val (.ref d), .val (.ref b), .val (.int (1 : Int32)), .unset, .unset] [])) (fun _ k_ => XS.istore X12.here hx rfl (Jvm.hb hby at_93) rfl (l' := #[.val (.int p0), .val (.int p1), .val (.int p2), .val (.int p3), .val (.int B1), .val (.int B2), .val (.int U), .val (.int (0 : Int32)), .val (.int (1 : Int32)), .val (.ref d), .val (.ref b), .val (.int (1 : Int32)), .unset, .unset]) rfl k_) ?_
      refine own_go (t' := T12.setTop (mkF m 97 #[.val (.int p0), .val (.int p1), .val (.int p2), .val (.int p3), .val (.int B1), .val (.int B2), .val (.int U), .val (.int (0 : Int32)), .val (.int (1 : Int32)), .val (.ref d), .val (.ref b), .val (.int (1 : Int32)), .unset, .unset] [(.int B1)])) (fun _ k_ => XS.iload X12.here hx rfl (Jvm.hb hby at_95) rfl k_) ?_
      refine own_go (t' := T12.setTop (mkF m 99 #[.val (.int p0), .val (.int p1), .val (.int p2), .val (.int p3), .val (.int B1), .val (.int B2), .val (.int U), .val (.int (0 : Int32)), .val (.int (1 : Int32)), .val (.ref d), .val (.ref b), .val (.int (1 : Int32)), .val (.int B1), .unset] [])) (fun _ k_ => XS.istore X12.here hx rfl (Jvm.hb hby at_97) rfl (l' := #[.val (.int p0), .val (.int p1), .val (.int p2), .val (.int p3), .val (.int B1), .val (.int B2), .val (.int U), .val (.int (0 : Int32)), .val (.int (1 : Int32)), .val (.ref d), .val (.ref b), .val (.int (1 : Int32)), .val (.int B1), .unset]) rfl k_) ?_
      refine own_go (t' := T12.setTop (mkF m 101 #[.val (.int p0), .val (.int p1), .val (.int p2), .val (.int p3), .val (.int B1), .val (.int B2), .val (.int U), .val (.int (0 : Int32)), .val (.int (1 : Int32)), .val (.ref d), .val (.ref b), .val (.int (1 : Int32)), .val (.int B1), .unset] [(.int (1 : Int32))])) (fun _ k_ => XS.iload X12.here hx rfl (Jvm.hb hby at_99) rfl k_) ?_
      refine own_go (t' := T12.setTop (mkF m 104 #[.val (.int p0), .val (.int p1), .val (.int p2), .val (.int p3), .val (.int B1), .val (.int B2), .val (.int U), .val (.int (0 : Int32)), .val (.int (1 : Int32)), .val (.ref d), .val (.ref b), .val (.int (1 : Int32)), .val (.int B1), .unset] [])) (fun _ k_ => XS.ifNo X12.here hx rfl (Jvm.hb hby at_101) rfl ((if0 _ _).trans (feq (by decide)).1) k_) ?_
      refine own_go (t' := T12.setTop (mkF m 106 #[.val (.int p0), .val (.int p1), .val (.int p2), .val (.int p3), .val (.int B1), .val (.int B2), .val (.int U), .val (.int (0 : Int32)), .val (.int (1 : Int32)), .val (.ref d), .val (.ref b), .val (.int (1 : Int32)), .val (.int B1), .unset] [(.int (1 : Int32))])) (fun _ k_ => XS.iload X12.here hx rfl (Jvm.hb hby at_104) rfl k_) ?_
      refine own_go (t' := T12.setTop (mkF m 109 #[.val (.int p0), .val (.int p1), .val (.int p2), .val (.int p3), .val (.int B1), .val (.int B2), .val (.int U), .val (.int (0 : Int32)), .val (.int (1 : Int32)), .val (.ref d), .val (.ref b), .val (.int (1 : Int32)), .val (.int B1), .unset] [])) (fun _ k_ => XS.ifNo X12.here hx rfl (Jvm.hb hby at_106) rfl ((if0 _ _).trans (feq (by decide)).1) k_) ?_
      refine own_go (t' := T12.setTop (mkF m 111 #[.val (.int p0), .val (.int p1), .val (.int p2), .val (.int p3), .val (.int B1), .val (.int B2), .val (.int U), .val (.int (0 : Int32)), .val (.int (1 : Int32)), .val (.ref d), .val (.ref b), .val (.int (1 : Int32)), .val (.int B1), .unset] [(.ref b)])) (fun _ k_ => XS.aload X12.here hx rfl (Jvm.hb hby at_109) rfl rfl k_) ?_
      refine own_go (t' := T12.setTop (mkF m 113 #[.val (.int p0), .val (.int p1), .val (.int p2), .val (.int p3), .val (.int B1), .val (.int B2), .val (.int U), .val (.int (0 : Int32)), .val (.int (1 : Int32)), .val (.ref d), .val (.ref b), .val (.int (1 : Int32)), .val (.int B1), .unset] [(.int B2), (.ref b)])) (fun _ k_ => XS.iload X12.here hx rfl (Jvm.hb hby at_111) rfl k_) ?_
      obtain ⟨T13, L13, v13, X13, hQ13, st13⟩ := own_virtualUp X12 hx hZ (owner := "com/example/libgate/libgate/BucketBuilder") (x0 := (⟨"com/example/libgate/libgate/BucketBuilderBurstPinLaw", "burst", "(I)Lcom/example/libgate/libgate/BucketBuilder;"⟩ : MethodName)) (y := (⟨"com/example/libgate/libgate/BucketBuilder", "burst", "(I)Lcom/example/libgate/libgate/BucketBuilder;"⟩ : MethodName)) hown (hw _ (List.mem_of_getElem? (i := 89) rfl)) (hw _ (List.mem_of_getElem? (i := 90) rfl)) (hw _ (List.mem_of_getElem? (i := 91) rfl)) (by decide) (hw _ (List.mem_of_getElem? (i := 93) rfl)) (hw _ (List.mem_of_getElem? (i := 92) rfl)) (hw _ (List.mem_of_getElem? (i := 94) rfl)) (hw _ (List.mem_of_getElem? (i := 31) rfl)) Eb (rm_bu l Z a0 hw [] b B2 _ _ T12.heap n0 Zc Eb F1 F2 gb (own_nn hB2)) (rfl : T12.heap = T12.heap) (g := (mkF m 113 #[.val (.int p0), .val (.int p1), .val (.int p2), .val (.int p3), .val (.int B1), .val (.int B2), .val (.int U), .val (.int (0 : Int32)), .val (.int (1 : Int32)), .val (.ref d), .val (.ref b), .val (.int (1 : Int32)), .val (.int B1), .unset] [(.int B2), (.ref b)])) rfl (by rw [hml]; rfl) (argsL := [(.int B2)]) (rest := []) (lenOf pd_d16 rfl) rfl (W := 0) (by show 2 * 0 + _ ≤ _; exact Nat.le_of_eq rfl) (Jvm.hb hby at_113) (by decide) (by decide) (by decide) (by decide)
      obtain ⟨rfl, Nq13, K13, Eb, F1, F2⟩ := hQ13
      have N13 := Fr.app N12 Nq13
      refine own_go (t' := T13.setTop (mkF m 116 #[.val (.int p0), .val (.int p1), .val (.int p2), .val (.int p3), .val (.int B1), .val (.int B2), .val (.int U), .val (.int (0 : Int32)), .val (.int (1 : Int32)), .val (.ref d), .val (.ref b), .val (.int (1 : Int32)), .val (.int B1), .unset] [(.ref b)])) st13 ?_
      have Zc : n0 ≤ T13.heap.size := Nat.le_trans Zc K13.1
      have hkc := Nat.le_trans hkc K13.1
      have Ds1 := Ds1.keep K13 hne
      have Ds2 := Ds2.keep K13 hne
      have Ed := Ed.keep K13
      refine own_go (t' := T13.setTop (mkF m 118 #[.val (.int p0), .val (.int p1), .val (.int p2), .val (.int p3), .val (.int B1), .val (.int B2), .val (.int U), .val (.int (0 : Int32)), .val (.int (1 : Int32)), .val (.ref d), .val (.ref b), .val (.int (1 : Int32)), .val (.int B1), .unset] [(.ref b), (.ref b)])) (fun _ k_ => XS.aload X13.here hx rfl (Jvm.hb hby at_116) rfl rfl k_) ?_
      refine own_go (t' := T13.setTop (mkF m 121 #[.val (.int p0), .val (.int p1), .val (.int p2), .val (.int p3), .val (.int B1), .val (.int B2), .val (.int U), .val (.int (0 : Int32)), .val (.int (1 : Int32)), .val (.ref d), .val (.ref b), .val (.int (1 : Int32)), .val (.int B1), .unset] [])) (fun _ k_ => Jvm.RoadKit.acmp (g := (mkF m 118 #[.val (.int p0), .val (.int p1), .val (.int p2), .val (.int p3), .val (.int B1), .val (.int B2), .val (.int U), .val (.int (0 : Int32)), .val (.int (1 : Int32)), .val (.ref d), .val (.ref b), .val (.int (1 : Int32)), .val (.int B1), .unset] [(.ref b), (.ref b)])) X13 hx rfl rfl rfl (pc0 := 118) (pc' := 121) (same := true) rfl (Jvm.hb hby at_118) rfl (decide_eq_true rfl) (by decide) (by decide) k_) ?_
      refine own_go (t' := T13.setTop (mkF m 122 #[.val (.int p0), .val (.int p1), .val (.int p2), .val (.int p3), .val (.int B1), .val (.int B2), .val (.int U), .val (.int (0 : Int32)), .val (.int (1 : Int32)), .val (.ref d), .val (.ref b), .val (.int (1 : Int32)), .val (.int B1), .unset] [(.int (1 : Int32))])) (fun _ k_ => XS.iconst X13.here hx rfl (Jvm.hb hby at_121) k_) ?_
      refine own_go (t' := T13.setTop (mkF m 126 #[.val (.int p0), .val (.int p1), .val (.int p2), .val (.int p3), .val (.int B1), .val (.int B2), .val (.int U), .val (.int (0 : Int32)), .val (.int (1 : Int32)), .val (.ref d), .val (.ref b), .val (.int (1 : Int32)), .val (.int B1), .unset] [(.int (1 : Int32))])) (fun _ k_ => XS.goto X13.here hx rfl (pc0 := 122) (pc' := 126) rfl (Jvm.hb hby at_122) (by decide) (by decide) k_) ?_
      refine own_go (t' := T13.setTop (mkF m 128 #[.val (.int p0), .val (.int p1), .val (.int p2), .val (.int p3), .val (.int B1), .val (.int B2), .val (.int U), .val (.int (0 : Int32)), .val (.int (1 : Int32)), .val (.ref d), .val (.ref b), .val (.int (1 : Int32)), .val (.int B1), .unset] [])) (fun _ k_ => XS.istore X13.here hx rfl (Jvm.hb hby at_126) rfl (l' := #[.val (.int p0), .val (.int p1), .val (.int p2), .val (.int p3), .val (.int B1), .val (.int B2), .val (.int U), .val (.int (0 : Int32)), .val (.int (1 : Int32)), .val (.ref d), .val (.ref b), .val (.int (1 : Int32)), .val (.int B1), .unset]) rfl k_) ?_
      refine own_go (t' := T13.setTop (mkF m 130 #[.val (.int p0), .val (.int p1), .val (.int p2), .val (.int p3), .val (.int B1), .val (.int B2), .val (.int U), .val (.int (0 : Int32)), .val (.int (1 : Int32)), .val (.ref d), .val (.ref b), .val (.int (1 : Int32)), .val (.int B1), .unset] [(.int B2)])) (fun _ k_ => XS.iload X13.here hx rfl (Jvm.hb hby at_128) rfl k_) ?_
      refine own_go (t' := T13.setTop (mkF m 132 #[.val (.int p0), .val (.int p1), .val (.int p2), .val (.int p3), .val (.int B1), .val (.int B2), .val (.int U), .val (.int (0 : Int32)), .val (.int (1 : Int32)), .val (.ref d), .val (.ref b), .val (.int (1 : Int32)), .val (.int B2), .unset] [])) (fun _ k_ => XS.istore X13.here hx rfl (Jvm.hb hby at_130) rfl (l' := #[.val (.int p0), .val (.int p1), .val (.int p2), .val (.int p3), .val (.int B1), .val (.int B2), .val (.int U), .val (.int (0 : Int32)), .val (.int (1 : Int32)), .val (.ref d), .val (.ref b), .val (.int (1 : Int32)), .val (.int B2), .unset]) rfl k_) ?_
      refine own_go (t' := T13.setTop (mkF m 134 #[.val (.int p0), .val (.int p1), .val (.int p2), .val (.int p3), .val (.int B1), .val (.int B2), .val (.int U), .val (.int (0 : Int32)), .val (.int (1 : Int32)), .val (.ref d), .val (.ref b), .val (.int (1 : Int32)), .val (.int B2), .unset] [(.int (0 : Int32))])) (fun _ k_ => XS.iload X13.here hx rfl (Jvm.hb hby at_132) rfl k_) ?_
      refine own_go (t' := T13.setTop (mkF m 137 #[.val (.int p0), .val (.int p1), .val (.int p2), .val (.int p3), .val (.int B1), .val (.int B2), .val (.int U), .val (.int (0 : Int32)), .val (.int (1 : Int32)), .val (.ref d), .val (.ref b), .val (.int (1 : Int32)), .val (.int B2), .unset] [])) (fun _ k_ => XS.ifNo X13.here hx rfl (Jvm.hb hby at_134) rfl ((if0 _ _).trans (teq rfl).2) k_) ?_
      refine own_go (t' := T13.setTop (mkF m 139 #[.val (.int p0), .val (.int p1), .val (.int p2), .val (.int p3), .val (.int B1), .val (.int B2), .val (.int U), .val (.int (0 : Int32)), .val (.int (1 : Int32)), .val (.ref d), .val (.ref b), .val (.int (1 : Int32)), .val (.int B2), .unset] [(.ref b)])) (fun _ k_ => XS.aload X13.here hx rfl (Jvm.hb hby at_137) rfl rfl k_) ?_
      refine own_go (t' := T13.setTop (mkF m 141 #[.val (.int p0), .val (.int p1), .val (.int p2), .val (.int p3), .val (.int B1), .val (.int B2), .val (.int U), .val (.int (0 : Int32)), .val (.int (1 : Int32)), .val (.ref d), .val (.ref b), .val (.int (1 : Int32)), .val (.int B2), .unset] [(.int U), (.ref b)])) (fun _ k_ => XS.iload X13.here hx rfl (Jvm.hb hby at_139) rfl k_) ?_
      refine own_go (t' := T13.setTop (mkF m 143 #[.val (.int p0), .val (.int p1), .val (.int p2), .val (.int p3), .val (.int B1), .val (.int B2), .val (.int U), .val (.int (0 : Int32)), .val (.int (1 : Int32)), .val (.ref d), .val (.ref b), .val (.int (1 : Int32)), .val (.int B2), .unset] [(.ref d), (.int U), (.ref b)])) (fun _ k_ => XS.aload X13.here hx rfl (Jvm.hb hby at_141) rfl rfl k_) ?_
      obtain ⟨T14, L14, v14, X14, hS14, hZ, hown, hQ14, st14⟩ := own_virtualUpW (s := s) (vm0 := s.vm) X13 hx hZ hS0 hkc (owner := "com/example/libgate/libgate/BucketBuilder") (x0 := (⟨"com/example/libgate/libgate/BucketBuilderBurstPinLaw", "rate", "(ILjava/time/Duration;)Lcom/example/libgate/libgate/BucketBuilder;"⟩ : MethodName)) (y := (⟨"com/example/libgate/libgate/BucketBuilder", "rate", "(ILjava/time/Duration;)Lcom/example/libgate/libgate/BucketBuilder;"⟩ : MethodName)) hown (hw _ (List.mem_of_getElem? (i := 36) rfl)) (hw _ (List.mem_of_getElem? (i := 37) rfl)) (hw _ (List.mem_of_getElem? (i := 38) rfl)) (by decide) (hw _ (List.mem_of_getElem? (i := 40) rfl)) (hw _ (List.mem_of_getElem? (i := 39) rfl)) (hw _ (List.mem_of_getElem? (i := 41) rfl)) (hw _ (List.mem_of_getElem? (i := 31) rfl)) Eb (rm_ra l Z a0 hw [] b U d _ _ T13.heap n0 Zc Eb F1 F2 Ed Ds1 Ds2 gb hU) (rfl : T13.heap = T13.heap) (g := (mkF m 143 #[.val (.int p0), .val (.int p1), .val (.int p2), .val (.int p3), .val (.int B1), .val (.int B2), .val (.int U), .val (.int (0 : Int32)), .val (.int (1 : Int32)), .val (.ref d), .val (.ref b), .val (.int (1 : Int32)), .val (.int B2), .unset] [(.ref d), (.int U), (.ref b)])) rfl (by rw [hml]; rfl) (argsL := [(.int U), (.ref d)]) (rest := []) (lenOf pd_d7 rfl) rfl (W := 0) (by show 2 * 0 + _ ≤ _; exact Nat.le_of_eq rfl) (Jvm.hb hby at_143) (by decide) (by decide) (by decide) (by decide)
      obtain ⟨rfl, Nq14, K14, Eb, F1, F2⟩ := hQ14
      have N14 := Fr.app N13 Nq14
      refine own_go (t' := T14.setTop (mkF m 146 #[.val (.int p0), .val (.int p1), .val (.int p2), .val (.int p3), .val (.int B1), .val (.int B2), .val (.int U), .val (.int (0 : Int32)), .val (.int (1 : Int32)), .val (.ref d), .val (.ref b), .val (.int (1 : Int32)), .val (.int B2), .unset] [(.ref b)])) st14 ?_
      have Zc : n0 ≤ T14.heap.size := Nat.le_trans Zc K14.1
      have hkc : T14.heap.size ≤ T14.heap.size := Nat.le_refl _
      refine own_go (t' := T14.setTop (mkF m 147 #[.val (.int p0), .val (.int p1), .val (.int p2), .val (.int p3), .val (.int B1), .val (.int B2), .val (.int U), .val (.int (0 : Int32)), .val (.int (1 : Int32)), .val (.ref d), .val (.ref b), .val (.int (1 : Int32)), .val (.int B2), .unset] [])) (fun _ k_ => XS.pop X14.here hx rfl (Jvm.hb hby at_146) rfl rfl k_) ?_
      refine own_go (t' := T14.setTop (mkF m 149 #[.val (.int p0), .val (.int p1), .val (.int p2), .val (.int p3), .val (.int B1), .val (.int B2), .val (.int U), .val (.int (0 : Int32)), .val (.int (1 : Int32)), .val (.ref d), .val (.ref b), .val (.int (1 : Int32)), .val (.int B2), .unset] [(.ref b)])) (fun _ k_ => XS.aload X14.here hx rfl (Jvm.hb hby at_147) rfl rfl k_) ?_
      obtain ⟨T15, L15, v15, X15, hQ15, st15⟩ := own_virtualUp X14 hx hZ (owner := "com/example/libgate/libgate/BucketBuilder") (x0 := (⟨"com/example/libgate/libgate/BucketBuilderBurstPinLaw", "bucketRate", "()Lcom/example/libgate/libgate/BucketRate;"⟩ : MethodName)) (y := (⟨"com/example/libgate/libgate/BucketBuilder", "bucketRate", "()Lcom/example/libgate/libgate/BucketRate;"⟩ : MethodName)) hown (hw _ (List.mem_of_getElem? (i := 95) rfl)) (hw _ (List.mem_of_getElem? (i := 96) rfl)) (hw _ (List.mem_of_getElem? (i := 97) rfl)) (by decide) (hw _ (List.mem_of_getElem? (i := 99) rfl)) (hw _ (List.mem_of_getElem? (i := 98) rfl)) (hw _ (List.mem_of_getElem? (i := 100) rfl)) (hw _ (List.mem_of_getElem? (i := 31) rfl)) Eb (rm_br l Z a0 hw [] b (FP.ddiv (FP.i2d U) (FP.dadd (FP.l2d (1 : Int64)) (FP.ddiv (FP.i2d (0 : Int32)) (4741671816366391296 : UInt64)))) B2 T14.heap n0 Zc F1 F2 (OwnFp.rate_nz hU _) (own_ne hB2) (OwnFp.rate_inv hU)) (rfl : T14.heap = T14.heap) (g := (mkF m 149 #[.val (.int p0), .val (.int p1), .val (.int p2), .val (.int p3), .val (.int B1), .val (.int B2), .val (.int U), .val (.int (0 : Int32)), .val (.int (1 : Int32)), .val (.ref d), .val (.ref b), .val (.int (1 : Int32)), .val (.int B2), .unset] [(.ref b)])) rfl (by rw [hml]; rfl) (argsL := []) (rest := []) (lenOf pd_d17 rfl) rfl (W := 0) (by show 2 * 0 + _ ≤ _; exact Nat.le_of_eq rfl) (Jvm.hb hby at_149) (by decide) (by decide) (by decide) (by decide)
      obtain ⟨a, rfl, Nq15, ha, Ka, Ea, G1, G2⟩ := hQ15
      have N15 := Fr.app N14 Nq15
      refine own_go (t' := T15.setTop (mkF m 152 #[.val (.int p0), .val (.int p1), .val (.int p2), .val (.int p3), .val (.int B1), .val (.int B2), .val (.int U), .val (.int (0 : Int32)), .val (.int (1 : Int32)), .val (.ref d), .val (.ref b), .val (.int (1 : Int32)), .val (.int B2), .unset] [(.ref a)])) st15 ?_
      have Zc : n0 ≤ T15.heap.size := Nat.le_trans Zc Ka.1
      have hkc := Nat.le_trans hkc Ka.1
      refine own_go (t' := T15.setTop (mkF m 154 #[.val (.int p0), .val (.int p1), .val (.int p2), .val (.int p3), .val (.int B1), .val (.int B2), .val (.int U), .val (.int (0 : Int32)), .val (.int (1 : Int32)), .val (.ref d), .val (.ref b), .val (.int (1 : Int32)), .val (.int B2), .val (.ref a)] [])) (fun _ k_ => XS.astore X15.here hx rfl (Jvm.hb hby at_152) rfl rfl (l' := #[.val (.int p0), .val (.int p1), .val (.int p2), .val (.int p3), .val (.int B1), .val (.int B2), .val (.int U), .val (.int (0 : Int32)), .val (.int (1 : Int32)), .val (.ref d), .val (.ref b), .val (.int (1 : Int32)), .val (.int B2), .val (.ref a)]) rfl k_) ?_
      refine own_go (t' := T15.setTop (mkF m 156 #[.val (.int p0), .val (.int p1), .val (.int p2), .val (.int p3), .val (.int B1), .val (.int B2), .val (.int U), .val (.int (0 : Int32)), .val (.int (1 : Int32)), .val (.ref d), .val (.ref b), .val (.int (1 : Int32)), .val (.int B2), .val (.ref a)] [(.int (1 : Int32))])) (fun _ k_ => XS.iload X15.here hx rfl (Jvm.hb hby at_154) rfl k_) ?_
      refine own_go (t' := T15.setTop (mkF m 159 #[.val (.int p0), .val (.int p1), .val (.int p2), .val (.int p3), .val (.int B1), .val (.int B2), .val (.int U), .val (.int (0 : Int32)), .val (.int (1 : Int32)), .val (.ref d), .val (.ref b), .val (.int (1 : Int32)), .val (.int B2), .val (.ref a)] [])) (fun _ k_ => XS.ifNo X15.here hx rfl (Jvm.hb hby at_156) rfl ((if0 _ _).trans (feq (by decide)).1) k_) ?_
      refine own_go (t' := T15.setTop (mkF m 161 #[.val (.int p0), .val (.int p1), .val (.int p2), .val (.int p3), .val (.int B1), .val (.int B2), .val (.int U), .val (.int (0 : Int32)), .val (.int (1 : Int32)), .val (.ref d), .val (.ref b), .val (.int (1 : Int32)), .val (.int B2), .val (.ref a)] [(.ref a)])) (fun _ k_ => XS.aload X15.here hx rfl (Jvm.hb hby at_159) rfl rfl k_) ?_
      obtain ⟨T16, L16, v16, X16, hQ16, st16⟩ := own_virtual X15 hx hZ (y := (⟨"com/example/libgate/libgate/BucketRate", "maxPermits", "()D"⟩ : MethodName)) hown (hw _ (List.mem_of_getElem? (i := 124) rfl)) (hw _ (List.mem_of_getElem? (i := 125) rfl)) (hw _ (List.mem_of_getElem? (i := 127) rfl)) (hw _ (List.mem_of_getElem? (i := 126) rfl)) (hw _ (List.mem_of_getElem? (i := 128) rfl)) (hw _ (List.mem_of_getElem? (i := 70) rfl)) (by decide) Ea (rm_mp l Z a0 hw [] a (FP.i2d B2) T15.heap n0 Zc G2) (rfl : T15.heap = T15.heap) (g := (mkF m 161 #[.val (.int p0), .val (.int p1), .val (.int p2), .val (.int p3), .val (.int B1), .val (.int B2), .val (.int U), .val (.int (0 : Int32)), .val (.int (1 : Int32)), .val (.ref d), .val (.ref b), .val (.int (1 : Int32)), .val (.int B2), .val (.ref a)] [(.ref a)])) rfl (by rw [hml]; rfl) (argsL := []) (rest := []) (lenOf pd_d20 rfl) rfl (W := 0) (by show 2 * 0 + _ ≤ _; exact Nat.le_of_eq rfl) (Jvm.hb hby at_161) (by decide) (by decide) (by decide) (by decide)
      obtain ⟨rfl, Nq16, e16⟩ := hQ16
      have N16 := Fr.app N15 Nq16
      refine own_go (t' := T16.setTop (mkF m 164 #[.val (.int p0), .val (.int p1), .val (.int p2), .val (.int p3), .val (.int B1), .val (.int B2), .val (.int U), .val (.int (0 : Int32)), .val (.int (1 : Int32)), .val (.ref d), .val (.ref b), .val (.int (1 : Int32)), .val (.int B2), .val (.ref a)] [(.double (FP.i2d B2))])) st16 ?_
      refine own_go (t' := T16.setTop (mkF m 166 #[.val (.int p0), .val (.int p1), .val (.int p2), .val (.int p3), .val (.int B1), .val (.int B2), .val (.int U), .val (.int (0 : Int32)), .val (.int (1 : Int32)), .val (.ref d), .val (.ref b), .val (.int (1 : Int32)), .val (.int B2), .val (.ref a)] [(.int B2), (.double (FP.i2d B2))])) (fun _ k_ => XS.iload X16.here hx rfl (Jvm.hb hby at_164) rfl k_) ?_
      refine own_go (t' := T16.setTop (mkF m 167 #[.val (.int p0), .val (.int p1), .val (.int p2), .val (.int p3), .val (.int B1), .val (.int B2), .val (.int U), .val (.int (0 : Int32)), .val (.int (1 : Int32)), .val (.ref d), .val (.ref b), .val (.int (1 : Int32)), .val (.int B2), .val (.ref a)] [(.double (FP.i2d B2)), (.double (FP.i2d B2))])) (fun _ k_ => XS.i2dS X16.here hx rfl (Jvm.hb hby at_166) rfl rfl k_) ?_
      refine own_go (t' := T16.setTop (mkF m 168 #[.val (.int p0), .val (.int p1), .val (.int p2), .val (.int p3), .val (.int B1), .val (.int B2), .val (.int U), .val (.int (0 : Int32)), .val (.int (1 : Int32)), .val (.ref d), .val (.ref b), .val (.int (1 : Int32)), .val (.int B2), .val (.ref a)] [(.int (cmpValue (FP.dcmp (FP.i2d B2) (FP.i2d B2)) CmpOp.l))])) (fun _ k_ => XS.dcmpS X16.here hx rfl (Jvm.hb hby at_167) rfl rfl k_) ?_
      refine own_go (t' := T16.setTop (mkF m 171 #[.val (.int p0), .val (.int p1), .val (.int p2), .val (.int p3), .val (.int B1), .val (.int B2), .val (.int U), .val (.int (0 : Int32)), .val (.int (1 : Int32)), .val (.ref d), .val (.ref b), .val (.int (1 : Int32)), .val (.int B2), .val (.ref a)] [])) (fun _ k_ => XS.ifNo X16.here hx rfl (Jvm.hb hby at_168) rfl ((if0 _ _).trans (teq (OwnFp.same_int _ _)).2) k_) ?_
      refine own_go (t' := T16.setTop (mkF m 173 #[.val (.int p0), .val (.int p1), .val (.int p2), .val (.int p3), .val (.int B1), .val (.int B2), .val (.int U), .val (.int (0 : Int32)), .val (.int (1 : Int32)), .val (.ref d), .val (.ref b), .val (.int (1 : Int32)), .val (.int B2), .val (.ref a)] [(.ref a)])) (fun _ k_ => XS.aload X16.here hx rfl (Jvm.hb hby at_171) rfl rfl k_) ?_
      obtain ⟨T17, L17, v17, X17, hQ17, st17⟩ := own_virtual X16 hx hZ (y := (⟨"com/example/libgate/libgate/BucketRate", "warmsUp", "()Z"⟩ : MethodName)) hown (hw _ (List.mem_of_getElem? (i := 129) rfl)) (hw _ (List.mem_of_getElem? (i := 130) rfl)) (hw _ (List.mem_of_getElem? (i := 132) rfl)) (hw _ (List.mem_of_getElem? (i := 131) rfl)) (hw _ (List.mem_of_getElem? (i := 133) rfl)) (hw _ (List.mem_of_getElem? (i := 70) rfl)) (by decide) Ea (rm_wu l Z a0 hw [] a T15.heap n0 Zc G1) e16 (g := (mkF m 173 #[.val (.int p0), .val (.int p1), .val (.int p2), .val (.int p3), .val (.int B1), .val (.int B2), .val (.int U), .val (.int (0 : Int32)), .val (.int (1 : Int32)), .val (.ref d), .val (.ref b), .val (.int (1 : Int32)), .val (.int B2), .val (.ref a)] [(.ref a)])) rfl (by rw [hml]; rfl) (argsL := []) (rest := []) (lenOf pd_d21 rfl) rfl (W := 0) (by show 2 * 0 + _ ≤ _; exact Nat.le_of_eq rfl) (Jvm.hb hby at_173) (by decide) (by decide) (by decide) (by decide)
      obtain ⟨rfl, Nq17, e17⟩ := hQ17
      have N17 := Fr.app N16 Nq17
      refine own_go (t' := T17.setTop (mkF m 176 #[.val (.int p0), .val (.int p1), .val (.int p2), .val (.int p3), .val (.int B1), .val (.int B2), .val (.int U), .val (.int (0 : Int32)), .val (.int (1 : Int32)), .val (.ref d), .val (.ref b), .val (.int (1 : Int32)), .val (.int B2), .val (.ref a)] [(.int (0 : Int32))])) st17 ?_
      refine own_go (t' := T17.setTop (mkF m 179 #[.val (.int p0), .val (.int p1), .val (.int p2), .val (.int p3), .val (.int B1), .val (.int B2), .val (.int U), .val (.int (0 : Int32)), .val (.int (1 : Int32)), .val (.ref d), .val (.ref b), .val (.int (1 : Int32)), .val (.int B2), .val (.ref a)] [])) (fun _ k_ => XS.ifNo X17.here hx rfl (Jvm.hb hby at_176) rfl ((if0 _ _).trans (teq rfl).2) k_) ?_
      refine own_go (t' := T17.setTop (mkF m 180 #[.val (.int p0), .val (.int p1), .val (.int p2), .val (.int p3), .val (.int B1), .val (.int B2), .val (.int U), .val (.int (0 : Int32)), .val (.int (1 : Int32)), .val (.ref d), .val (.ref b), .val (.int (1 : Int32)), .val (.int B2), .val (.ref a)] [(.int (1 : Int32))])) (fun _ k_ => XS.iconst X17.here hx rfl (Jvm.hb hby at_179) k_) ?_
      refine own_go (t' := T17.setTop (mkF m 184 #[.val (.int p0), .val (.int p1), .val (.int p2), .val (.int p3), .val (.int B1), .val (.int B2), .val (.int U), .val (.int (0 : Int32)), .val (.int (1 : Int32)), .val (.ref d), .val (.ref b), .val (.int (1 : Int32)), .val (.int B2), .val (.ref a)] [(.int (1 : Int32))])) (fun _ k_ => XS.goto X17.here hx rfl (pc0 := 180) (pc' := 184) rfl (Jvm.hb hby at_180) (by decide) (by decide) k_) ?_
      exact own_retZW (s := s) X17 hS14 (by rw [e17]; exact hkc) hx Bd.returns (BodyLoose.notSynchronized Bd) rfl (Jvm.hb hby at_184) (by decide) (by decide) ⟨rfl, N17⟩
  ·
    refine own_go (t' := s₁.setTop (mkF m 26 #[.val (.int p0), .val (.int p1), .val (.int p2), .val (.int p3), .val (.int B1), .val (.int B2), .val (.int U), .unset, .unset, .unset, .unset, .unset, .unset, .unset] [])) (fun _ k_ => XS.ifNo X0.here hx rfl (Jvm.hb hby at_23) rfl ((if0 _ _).trans (feq hc7).1) k_) ?_
    refine own_go (t' := s₁.setTop (mkF m 27 #[.val (.int p0), .val (.int p1), .val (.int p2), .val (.int p3), .val (.int B1), .val (.int B2), .val (.int U), .unset, .unset, .unset, .unset, .unset, .unset, .unset] [(.int (1 : Int32))])) (fun _ k_ => XS.iconst X0.here hx rfl (Jvm.hb hby at_26) k_) ?_
    refine own_go (t' := s₁.setTop (mkF m 31 #[.val (.int p0), .val (.int p1), .val (.int p2), .val (.int p3), .val (.int B1), .val (.int B2), .val (.int U), .unset, .unset, .unset, .unset, .unset, .unset, .unset] [(.int (1 : Int32))])) (fun _ k_ => XS.goto X0.here hx rfl (pc0 := 27) (pc' := 31) rfl (Jvm.hb hby at_27) (by decide) (by decide) k_) ?_
    refine own_go (t' := s₁.setTop (mkF m 33 #[.val (.int p0), .val (.int p1), .val (.int p2), .val (.int p3), .val (.int B1), .val (.int B2), .val (.int U), .val (.int (1 : Int32)), .unset, .unset, .unset, .unset, .unset, .unset] [])) (fun _ k_ => XS.istore X0.here hx rfl (Jvm.hb hby at_31) rfl (l' := #[.val (.int p0), .val (.int p1), .val (.int p2), .val (.int p3), .val (.int B1), .val (.int B2), .val (.int U), .val (.int (1 : Int32)), .unset, .unset, .unset, .unset, .unset, .unset]) rfl k_) ?_
    refine own_go (t' := s₁.setTop (mkF m 34 #[.val (.int p0), .val (.int p1), .val (.int p2), .val (.int p3), .val (.int B1), .val (.int B2), .val (.int U), .val (.int (1 : Int32)), .unset, .unset, .unset, .unset, .unset, .unset] [(.int p3)])) (fun _ k_ => XS.iloadN X0.here hx rfl (Jvm.hb hby at_33) rfl k_) ?_
    refine own_go (t' := s₁.setTop (mkF m 35 #[.val (.int p0), .val (.int p1), .val (.int p2), .val (.int p3), .val (.int B1), .val (.int B2), .val (.int U), .val (.int (1 : Int32)), .unset, .unset, .unset, .unset, .unset, .unset] [(.int (2 : Int32)), (.int p3)])) (fun _ k_ => XS.iconst X0.here hx rfl (Jvm.hb hby at_34) k_) ?_
    refine own_go (t' := s₁.setTop (mkF m 36 #[.val (.int p0), .val (.int p1), .val (.int p2), .val (.int p3), .val (.int B1), .val (.int B2), .val (.int U), .val (.int (1 : Int32)), .unset, .unset, .unset, .unset, .unset, .unset] [(.int (p3 &&& (2 : Int32)))])) (fun _ k_ => XS.iand X0.here hx rfl (Jvm.hb hby at_35) rfl k_) ?_
    by_cases hc8 : (p3 &&& (2 : Int32)) = 0
    ·
      refine own_go (t' := s₁.setTop (mkF m 43 #[.val (.int p0), .val (.int p1), .val (.int p2), .val (.int p3), .val (.int B1), .val (.int B2), .val (.int U), .val (.int (1 : Int32)), .unset, .unset, .unset, .unset, .unset, .unset] [])) (fun _ k_ => XS.ifYes X0.here hx rfl (pc0 := 36) (pc' := 43) rfl (Jvm.hb hby at_36) rfl ((if0 _ _).trans (teq hc8).1) (by decide) (by decide) k_) ?_
      refine own_go (t' := s₁.setTop (mkF m 44 #[.val (.int p0), .val (.int p1), .val (.int p2), .val (.int p3), .val (.int B1), .val (.int B2), .val (.int U), .val (.int (1 : Int32)), .unset, .unset, .unset, .unset, .unset, .unset] [(.int (0 : Int32))])) (fun _ k_ => XS.iconst X0.here hx rfl (Jvm.hb hby at_43) k_) ?_
      refine own_go (t' := s₁.setTop (mkF m 46 #[.val (.int p0), .val (.int p1), .val (.int p2), .val (.int p3), .val (.int B1), .val (.int B2), .val (.int U), .val (.int (1 : Int32)), .val (.int (0 : Int32)), .unset, .unset, .unset, .unset, .unset] [])) (fun _ k_ => XS.istore X0.here hx rfl (Jvm.hb hby at_44) rfl (l' := #[.val (.int p0), .val (.int p1), .val (.int p2), .val (.int p3), .val (.int B1), .val (.int B2), .val (.int U), .val (.int (1 : Int32)), .val (.int (0 : Int32)), .unset, .unset, .unset, .unset, .unset]) rfl k_) ?_
      refine own_go (t' := s₁.setTop (mkF m 47 #[.val (.int p0), .val (.int p1), .val (.int p2), .val (.int p3), .val (.int B1), .val (.int B2), .val (.int U), .val (.int (1 : Int32)), .val (.int (0 : Int32)), .unset, .unset, .unset, .unset, .unset] [(.long (1 : Int64))])) (fun _ k_ => XS.lconst X0.here hx rfl (Jvm.hb hby at_46) k_) ?_
      obtain ⟨T18, L18, v18, X18, hQ18, st18⟩ := own_static X0 hx hZ hown (hw _ (List.mem_of_getElem? (i := 2) rfl)) (hw _ (List.mem_of_getElem? (i := 3) rfl)) (hw _ (List.mem_of_getElem? (i := 4) rfl)) (hw _ (List.mem_of_getElem? (i := 5) rfl)) (by decide) (rm_of l Z a0 hw [] h0 n0 Z0) e0 (g := (mkF m 47 #[.val (.int p0), .val (.int p1), .val (.int p2), .val (.int p3), .val (.int B1), .val (.int B2), .val (.int U), .val (.int (1 : Int32)), .val (.int (0 : Int32)), .unset, .unset, .unset, .unset, .unset] [(.long (1 : Int64))])) rfl (by rw [hml]; rfl) (argsL := [(.long (1 : Int64))]) (rest := []) (lenOf pd_d1 rfl) rfl (W := 0) (by show 2 * 0 + _ ≤ _; exact Nat.le_of_eq rfl) (Jvm.hb hby at_47) (by decide) (by decide) (by decide) (by decide)
      obtain ⟨d, rfl, Nq18, hd, Kd, Ed, Ds1, Ds2⟩ := hQ18
      have N18 := Fr.app N0 Nq18
      refine own_go (t' := T18.setTop (mkF m 50 #[.val (.int p0), .val (.int p1), .val (.int p2), .val (.int p3), .val (.int B1), .val (.int B2), .val (.int U), .val (.int (1 : Int32)), .val (.int (0 : Int32)), .unset, .unset, .unset, .unset, .unset] [(.ref d)])) st18 ?_
      have Zd : n0 ≤ T18.heap.size := Nat.le_trans Z0 Kd.1
      refine own_go (t' := T18.setTop (mkF m 52 #[.val (.int p0), .val (.int p1), .val (.int p2), .val (.int p3), .val (.int B1), .val (.int B2), .val (.int U), .val (.int (1 : Int32)), .val (.int (0 : Int32)), .val (.ref d), .unset, .unset, .unset, .unset] [])) (fun _ k_ => XS.astore X18.here hx rfl (Jvm.hb hby at_50) rfl rfl (l' := #[.val (.int p0), .val (.int p1), .val (.int p2), .val (.int p3), .val (.int B1), .val (.int B2), .val (.int U), .val (.int (1 : Int32)), .val (.int (0 : Int32)), .val (.ref d), .unset, .unset, .unset, .unset]) rfl k_) ?_
      obtain ⟨T19, h19, X19, e19, E19, A19, D19, -, st19⟩ := newO X18 hx hZ hown (hw _ (List.mem_of_getElem? (i := 22) rfl)) (hw _ (List.mem_of_getElem? (i := 23) rfl)) (hw _ (List.mem_of_getElem? (i := 24) rfl)) (rfl : T18.heap = T18.heap) (g := (mkF m 52 #[.val (.int p0), .val (.int p1), .val (.int p2), .val (.int p3), .val (.int B1), .val (.int B2), .val (.int U), .val (.int (1 : Int32)), .val (.int (0 : Int32)), .val (.ref d), .unset, .unset, .unset, .unset] [])) rfl (Jvm.hb hby at_52) (by decide) (by decide)
      obtain ⟨b, g19⟩ : ∃ z, z = T18.heap.size := ⟨_, rfl⟩
      rw [← g19] at A19 D19 st19
      refine own_go (t' := T19.setTop (mkF m 55 #[.val (.int p0), .val (.int p1), .val (.int p2), .val (.int p3), .val (.int B1), .val (.int B2), .val (.int U), .val (.int (1 : Int32)), .val (.int (0 : Int32)), .val (.ref d), .unset, .unset, .unset, .unset] [(.ref b)])) st19 ?_
      refine own_go (t' := T19.setTop (mkF m 56 #[.val (.int p0), .val (.int p1), .val (.int p2), .val (.int p3), .val (.int B1), .val (.int B2), .val (.int U), .val (.int (1 : Int32)), .val (.int (0 : Int32)), .val (.ref d), .unset, .unset, .unset, .unset] [(.ref b), (.ref b)])) (fun _ k_ => XS.dup X19.here hx rfl (Jvm.hb hby at_55) rfl rfl k_) ?_
      have Z1 : n0 ≤ h19.size := Nat.le_trans Zd E19.1
      have gb : n0 ≤ b := Nat.le_trans Zd (Nat.le_of_eq g19.symm)
      have Ed := Ed.ext E19
      have Ds1 := Ds1.ext E19
      have Ds2 := Ds2.ext E19
      obtain ⟨T20, L20, v20, X20, hQ20, st20⟩ := own_special X19 hx hZ (y := (⟨"com/example/libgate/libgate/BucketBuilderBurstPinLaw", "<init>", "()V"⟩ : MethodName)) rfl hown (hw _ (List.mem_of_getElem? (i := 25) rfl)) (hw _ (List.mem_of_getElem? (i := 26) rfl)) (hw _ (List.mem_of_getElem? (i := 27) rfl)) (hw _ (List.mem_of_getElem? (i := 24) rfl)) (by decide) (rm_li l Z a0 hw [] b _ _ h19 n0 Z1 A19 (D19 (Or.inl (hw _ (List.mem_of_getElem? (i := 35) rfl))) (ty := .int) (by decide)) (D19 (Or.inl (hw _ (List.mem_of_getElem? (i := 84) rfl))) (ty := .double) (by decide)) gb) e19 (g := (mkF m 56 #[.val (.int p0), .val (.int p1), .val (.int p2), .val (.int p3), .val (.int B1), .val (.int B2), .val (.int U), .val (.int (1 : Int32)), .val (.int (0 : Int32)), .val (.ref d), .unset, .unset, .unset, .unset] [(.ref b), (.ref b)])) rfl (by rw [hml]; rfl) (argsL := []) (rest := [(.ref b)]) (lenOf pd_d5 rfl) rfl (W := 1) (by show 2 * 0 + _ ≤ _; exact Nat.le_of_eq rfl) (Jvm.hb hby at_56) (by decide) (by decide) (by decide) (by decide)
      obtain ⟨rfl, Nq20, K1, Eb, ⟨w1, F1⟩, ⟨w2, F2⟩⟩ := hQ20
      have N20 := Fr.app N18 Nq20
      refine own_go (t' := T20.setTop (mkF m 59 #[.val (.int p0), .val (.int p1), .val (.int p2), .val (.int p3), .val (.int B1), .val (.int B2), .val (.int U), .val (.int (1 : Int32)), .val (.int (0 : Int32)), .val (.ref d), .unset, .unset, .unset, .unset] [(.ref b)])) st20 ?_
      have hne : d ∉ [b] := fun q => ne_exa Ed A19 (by decide) (List.mem_singleton.mp q)
      have Ds1 := Ds1.keep K1 hne
      have Ds2 := Ds2.keep K1 hne
      have Ed := Ed.keep K1
      have Zc : n0 ≤ T20.heap.size := Nat.le_trans Z1 K1.1
      have hkc : h0.size ≤ T20.heap.size := Nat.le_trans (Nat.le_trans Kd.1 E19.1) K1.1
      refine own_go (t' := T20.setTop (mkF m 61 #[.val (.int p0), .val (.int p1), .val (.int p2), .val (.int p3), .val (.int B1), .val (.int B2), .val (.int U), .val (.int (1 : Int32)), .val (.int (0 : Int32)), .val (.ref d), .val (.ref b), .unset, .unset, .unset] [])) (fun _ k_ => XS.astore X20.here hx rfl (Jvm.hb hby at_59) rfl rfl (l' := #[.val (.int p0), .val (.int p1), .val (.int p2), .val (.int p3), .val (.int B1), .val (.int B2), .val (.int U), .val (.int (1 : Int32)), .val (.int (0 : Int32)), .val (.ref d), .val (.ref b), .unset, .unset, .unset]) rfl k_) ?_
      refine own_go (t' := T20.setTop (mkF m 63 #[.val (.int p0), .val (.int p1), .val (.int p2), .val (.int p3), .val (.int B1), .val (.int B2), .val (.int U), .val (.int (1 : Int32)), .val (.int (0 : Int32)), .val (.ref d), .val (.ref b), .unset, .unset, .unset] [(.int (1 : Int32))])) (fun _ k_ => XS.iload X20.here hx rfl (Jvm.hb hby at_61) rfl k_) ?_
      refine own_go (t' := T20.setTop (mkF m 66 #[.val (.int p0), .val (.int p1), .val (.int p2), .val (.int p3), .val (.int B1), .val (.int B2), .val (.int U), .val (.int (1 : Int32)), .val (.int (0 : Int32)), .val (.ref d), .val (.ref b), .unset, .unset, .unset] [])) (fun _ k_ => XS.ifNo X20.here hx rfl (Jvm.hb hby at_63) rfl ((if0 _ _).trans (feq (by decide)).1) k_) ?_
      refine own_go (t' := T20.setTop (mkF m 68 #[.val (.int p0), .val (.int p1), .val (.int p2), .val (.int p3), .val (.int B1), .val (.int B2), .val (.int U), .val (.int (1 : Int32)), .val (.int (0 : Int32)), .val (.ref d), .val (.ref b), .unset, .unset, .unset] [(.ref b)])) (fun _ k_ => XS.aload X20.here hx rfl (Jvm.hb hby at_66) rfl rfl k_) ?_
      refine own_go (t' := T20.setTop (mkF m 70 #[.val (.int p0), .val (.int p1), .val (.int p2), .val (.int p3), .val (.int B1), .val (.int B2), .val (.int U), .val (.int (1 : Int32)), .val (.int (0 : Int32)), .val (.ref d), .val (.ref b), .unset, .unset, .unset] [(.int U), (.ref b)])) (fun _ k_ => XS.iload X20.here hx rfl (Jvm.hb hby at_68) rfl k_) ?_
      refine own_go (t' := T20.setTop (mkF m 72 #[.val (.int p0), .val (.int p1), .val (.int p2), .val (.int p3), .val (.int B1), .val (.int B2), .val (.int U), .val (.int (1 : Int32)), .val (.int (0 : Int32)), .val (.ref d), .val (.ref b), .unset, .unset, .unset] [(.ref d), (.int U), (.ref b)])) (fun _ k_ => XS.aload X20.here hx rfl (Jvm.hb hby at_70) rfl rfl k_) ?_
      obtain ⟨T21, L21, v21, X21, hS21, hZ, hown, hQ21, st21⟩ := own_virtualUpW (s := s) (vm0 := s.vm) X20 hx hZ hS0 hkc (owner := "com/example/libgate/libgate/BucketBuilder") (x0 := (⟨"com/example/libgate/libgate/BucketBuilderBurstPinLaw", "rate", "(ILjava/time/Duration;)Lcom/example/libgate/libgate/BucketBuilder;"⟩ : MethodName)) (y := (⟨"com/example/libgate/libgate/BucketBuilder", "rate", "(ILjava/time/Duration;)Lcom/example/libgate/libgate/BucketBuilder;"⟩ : MethodName)) hown (hw _ (List.mem_of_getElem? (i := 36) rfl)) (hw _ (List.mem_of_getElem? (i := 37) rfl)) (hw _ (List.mem_of_getElem? (i := 38) rfl)) (by decide) (hw _ (List.mem_of_getElem? (i := 40) rfl)) (hw _ (List.mem_of_getElem? (i := 39) rfl)) (hw _ (List.mem_of_getElem? (i := 41) rfl)) (hw _ (List.mem_of_getElem? (i := 31) rfl)) Eb (rm_ra l Z a0 hw [] b U d _ _ T20.heap n0 Zc Eb F1 F2 Ed Ds1 Ds2 gb hU) (rfl : T20.heap = T20.heap) (g := (mkF m 72 #[.val (.int p0), .val (.int p1), .val (.int p2), .val (.int p3), .val (.int B1), .val (.int B2), .val (.int U), .val (.int (1 : Int32)), .val (.int (0 : Int32)), .val (.ref d), .val (.ref b), .unset, .unset, .unset] [(.ref d), (.int U), (.ref b)])) rfl (by rw [hml]; rfl) (argsL := [(.int U), (.ref d)]) (rest := []) (lenOf pd_d7 rfl) rfl (W := 0) (by show 2 * 0 + _ ≤ _; exact Nat.le_of_eq rfl) (Jvm.hb hby at_72) (by decide) (by decide) (by decide) (by decide)
      obtain ⟨rfl, Nq21, K21, Eb, F1, F2⟩ := hQ21
      have N21 := Fr.app N20 Nq21
      refine own_go (t' := T21.setTop (mkF m 75 #[.val (.int p0), .val (.int p1), .val (.int p2), .val (.int p3), .val (.int B1), .val (.int B2), .val (.int U), .val (.int (1 : Int32)), .val (.int (0 : Int32)), .val (.ref d), .val (.ref b), .unset, .unset, .unset] [(.ref b)])) st21 ?_
      have Zc : n0 ≤ T21.heap.size := Nat.le_trans Zc K21.1
      have hkc : T21.heap.size ≤ T21.heap.size := Nat.le_refl _
      refine own_go (t' := T21.setTop (mkF m 76 #[.val (.int p0), .val (.int p1), .val (.int p2), .val (.int p3), .val (.int B1), .val (.int B2), .val (.int U), .val (.int (1 : Int32)), .val (.int (0 : Int32)), .val (.ref d), .val (.ref b), .unset, .unset, .unset] [])) (fun _ k_ => XS.pop X21.here hx rfl (Jvm.hb hby at_75) rfl rfl k_) ?_
      refine own_go (t' := T21.setTop (mkF m 78 #[.val (.int p0), .val (.int p1), .val (.int p2), .val (.int p3), .val (.int B1), .val (.int B2), .val (.int U), .val (.int (1 : Int32)), .val (.int (0 : Int32)), .val (.ref d), .val (.ref b), .unset, .unset, .unset] [(.ref b)])) (fun _ k_ => XS.aload X21.here hx rfl (Jvm.hb hby at_76) rfl rfl k_) ?_
      refine own_go (t' := T21.setTop (mkF m 80 #[.val (.int p0), .val (.int p1), .val (.int p2), .val (.int p3), .val (.int B1), .val (.int B2), .val (.int U), .val (.int (1 : Int32)), .val (.int (0 : Int32)), .val (.ref d), .val (.ref b), .unset, .unset, .unset] [(.int B1), (.ref b)])) (fun _ k_ => XS.iload X21.here hx rfl (Jvm.hb hby at_78) rfl k_) ?_
      obtain ⟨T22, L22, v22, X22, hQ22, st22⟩ := own_virtualUp X21 hx hZ (owner := "com/example/libgate/libgate/BucketBuilder") (x0 := (⟨"com/example/libgate/libgate/BucketBuilderBurstPinLaw", "burst", "(I)Lcom/example/libgate/libgate/BucketBuilder;"⟩ : MethodName)) (y := (⟨"com/example/libgate/libgate/BucketBuilder", "burst", "(I)Lcom/example/libgate/libgate/BucketBuilder;"⟩ : MethodName)) hown (hw _ (List.mem_of_getElem? (i := 89) rfl)) (hw _ (List.mem_of_getElem? (i := 90) rfl)) (hw _ (List.mem_of_getElem? (i := 91) rfl)) (by decide) (hw _ (List.mem_of_getElem? (i := 93) rfl)) (hw _ (List.mem_of_getElem? (i := 92) rfl)) (hw _ (List.mem_of_getElem? (i := 94) rfl)) (hw _ (List.mem_of_getElem? (i := 31) rfl)) Eb (rm_bu l Z a0 hw [] b B1 _ _ T21.heap n0 Zc Eb F1 F2 gb (own_nn hB1)) (rfl : T21.heap = T21.heap) (g := (mkF m 80 #[.val (.int p0), .val (.int p1), .val (.int p2), .val (.int p3), .val (.int B1), .val (.int B2), .val (.int U), .val (.int (1 : Int32)), .val (.int (0 : Int32)), .val (.ref d), .val (.ref b), .unset, .unset, .unset] [(.int B1), (.ref b)])) rfl (by rw [hml]; rfl) (argsL := [(.int B1)]) (rest := []) (lenOf pd_d16 rfl) rfl (W := 0) (by show 2 * 0 + _ ≤ _; exact Nat.le_of_eq rfl) (Jvm.hb hby at_80) (by decide) (by decide) (by decide) (by decide)
      obtain ⟨rfl, Nq22, K22, Eb, F1, F2⟩ := hQ22
      have N22 := Fr.app N21 Nq22
      refine own_go (t' := T22.setTop (mkF m 83 #[.val (.int p0), .val (.int p1), .val (.int p2), .val (.int p3), .val (.int B1), .val (.int B2), .val (.int U), .val (.int (1 : Int32)), .val (.int (0 : Int32)), .val (.ref d), .val (.ref b), .unset, .unset, .unset] [(.ref b)])) st22 ?_
      have Zc : n0 ≤ T22.heap.size := Nat.le_trans Zc K22.1
      have hkc := Nat.le_trans hkc K22.1
      refine own_go (t' := T22.setTop (mkF m 85 #[.val (.int p0), .val (.int p1), .val (.int p2), .val (.int p3), .val (.int B1), .val (.int B2), .val (.int U), .val (.int (1 : Int32)), .val (.int (0 : Int32)), .val (.ref d), .val (.ref b), .unset, .unset, .unset] [(.ref b), (.ref b)])) (fun _ k_ => XS.aload X22.here hx rfl (Jvm.hb hby at_83) rfl rfl k_) ?_
      refine own_go (t' := T22.setTop (mkF m 88 #[.val (.int p0), .val (.int p1), .val (.int p2), .val (.int p3), .val (.int B1), .val (.int B2), .val (.int U), .val (.int (1 : Int32)), .val (.int (0 : Int32)), .val (.ref d), .val (.ref b), .unset, .unset, .unset] [])) (fun _ k_ => Jvm.RoadKit.acmp (g := (mkF m 85 #[.val (.int p0), .val (.int p1), .val (.int p2), .val (.int p3), .val (.int B1), .val (.int B2), .val (.int U), .val (.int (1 : Int32)), .val (.int (0 : Int32)), .val (.ref d), .val (.ref b), .unset, .unset, .unset] [(.ref b), (.ref b)])) X22 hx rfl rfl rfl (pc0 := 85) (pc' := 88) (same := true) rfl (Jvm.hb hby at_85) rfl (decide_eq_true rfl) (by decide) (by decide) k_) ?_
      refine own_go (t' := T22.setTop (mkF m 89 #[.val (.int p0), .val (.int p1), .val (.int p2), .val (.int p3), .val (.int B1), .val (.int B2), .val (.int U), .val (.int (1 : Int32)), .val (.int (0 : Int32)), .val (.ref d), .val (.ref b), .unset, .unset, .unset] [(.int (1 : Int32))])) (fun _ k_ => XS.iconst X22.here hx rfl (Jvm.hb hby at_88) k_) ?_
      refine own_go (t' := T22.setTop (mkF m 93 #[.val (.int p0), .val (.int p1), .val (.int p2), .val (.int p3), .val (.int B1), .val (.int B2), .val (.int U), .val (.int (1 : Int32)), .val (.int (0 : Int32)), .val (.ref d), .val (.ref b), .unset, .unset, .unset] [(.int (1 : Int32))])) (fun _ k_ => XS.goto X22.here hx rfl (pc0 := 89) (pc' := 93) rfl (Jvm.hb hby at_89) (by decide) (by decide) k_) ?_
      refine own_go (t' := T22.setTop (mkF m 95 #[.val (.int p0), .val (.int p1), .val (.int p2), .val (.int p3), .val (.int B1), .val (.int B2), .val (.int U), .val (.int (1 : Int32)), .val (.int (0 : Int32)), .val (.ref d), .val (.ref b), .val (.int (1 : Int32)), .unset, .unset] [])) (fun _ k_ => XS.istore X22.here hx rfl (Jvm.hb hby at_93) rfl (l' := #[.val (.int p0), .val (.int p1), .val (.int p2), .val (.int p3), .val (.int B1), .val (.int B2), .val (.int U), .val (.int (1 : Int32)), .val (.int (0 : Int32)), .val (.ref d), .val (.ref b), .val (.int (1 : Int32)), .unset, .unset]) rfl k_) ?_
      refine own_go (t' := T22.setTop (mkF m 97 #[.val (.int p0), .val (.int p1), .val (.int p2), .val (.int p3), .val (.int B1), .val (.int B2), .val (.int U), .val (.int (1 : Int32)), .val (.int (0 : Int32)), .val (.ref d), .val (.ref b), .val (.int (1 : Int32)), .unset, .unset] [(.int B1)])) (fun _ k_ => XS.iload X22.here hx rfl (Jvm.hb hby at_95) rfl k_) ?_
      refine own_go (t' := T22.setTop (mkF m 99 #[.val (.int p0), .val (.int p1), .val (.int p2), .val (.int p3), .val (.int B1), .val (.int B2), .val (.int U), .val (.int (1 : Int32)), .val (.int (0 : Int32)), .val (.ref d), .val (.ref b), .val (.int (1 : Int32)), .val (.int B1), .unset] [])) (fun _ k_ => XS.istore X22.here hx rfl (Jvm.hb hby at_97) rfl (l' := #[.val (.int p0), .val (.int p1), .val (.int p2), .val (.int p3), .val (.int B1), .val (.int B2), .val (.int U), .val (.int (1 : Int32)), .val (.int (0 : Int32)), .val (.ref d), .val (.ref b), .val (.int (1 : Int32)), .val (.int B1), .unset]) rfl k_) ?_
      refine own_go (t' := T22.setTop (mkF m 101 #[.val (.int p0), .val (.int p1), .val (.int p2), .val (.int p3), .val (.int B1), .val (.int B2), .val (.int U), .val (.int (1 : Int32)), .val (.int (0 : Int32)), .val (.ref d), .val (.ref b), .val (.int (1 : Int32)), .val (.int B1), .unset] [(.int (0 : Int32))])) (fun _ k_ => XS.iload X22.here hx rfl (Jvm.hb hby at_99) rfl k_) ?_
      refine own_go (t' := T22.setTop (mkF m 132 #[.val (.int p0), .val (.int p1), .val (.int p2), .val (.int p3), .val (.int B1), .val (.int B2), .val (.int U), .val (.int (1 : Int32)), .val (.int (0 : Int32)), .val (.ref d), .val (.ref b), .val (.int (1 : Int32)), .val (.int B1), .unset] [])) (fun _ k_ => XS.ifYes X22.here hx rfl (pc0 := 101) (pc' := 132) rfl (Jvm.hb hby at_101) rfl ((if0 _ _).trans (teq rfl).1) (by decide) (by decide) k_) ?_
      refine own_go (t' := T22.setTop (mkF m 134 #[.val (.int p0), .val (.int p1), .val (.int p2), .val (.int p3), .val (.int B1), .val (.int B2), .val (.int U), .val (.int (1 : Int32)), .val (.int (0 : Int32)), .val (.ref d), .val (.ref b), .val (.int (1 : Int32)), .val (.int B1), .unset] [(.int (1 : Int32))])) (fun _ k_ => XS.iload X22.here hx rfl (Jvm.hb hby at_132) rfl k_) ?_
      refine own_go (t' := T22.setTop (mkF m 147 #[.val (.int p0), .val (.int p1), .val (.int p2), .val (.int p3), .val (.int B1), .val (.int B2), .val (.int U), .val (.int (1 : Int32)), .val (.int (0 : Int32)), .val (.ref d), .val (.ref b), .val (.int (1 : Int32)), .val (.int B1), .unset] [])) (fun _ k_ => XS.ifYes X22.here hx rfl (pc0 := 134) (pc' := 147) rfl (Jvm.hb hby at_134) rfl ((if0 _ _).trans (feq (by decide)).2) (by decide) (by decide) k_) ?_
      refine own_go (t' := T22.setTop (mkF m 149 #[.val (.int p0), .val (.int p1), .val (.int p2), .val (.int p3), .val (.int B1), .val (.int B2), .val (.int U), .val (.int (1 : Int32)), .val (.int (0 : Int32)), .val (.ref d), .val (.ref b), .val (.int (1 : Int32)), .val (.int B1), .unset] [(.ref b)])) (fun _ k_ => XS.aload X22.here hx rfl (Jvm.hb hby at_147) rfl rfl k_) ?_
      obtain ⟨T23, L23, v23, X23, hQ23, st23⟩ := own_virtualUp X22 hx hZ (owner := "com/example/libgate/libgate/BucketBuilder") (x0 := (⟨"com/example/libgate/libgate/BucketBuilderBurstPinLaw", "bucketRate", "()Lcom/example/libgate/libgate/BucketRate;"⟩ : MethodName)) (y := (⟨"com/example/libgate/libgate/BucketBuilder", "bucketRate", "()Lcom/example/libgate/libgate/BucketRate;"⟩ : MethodName)) hown (hw _ (List.mem_of_getElem? (i := 95) rfl)) (hw _ (List.mem_of_getElem? (i := 96) rfl)) (hw _ (List.mem_of_getElem? (i := 97) rfl)) (by decide) (hw _ (List.mem_of_getElem? (i := 99) rfl)) (hw _ (List.mem_of_getElem? (i := 98) rfl)) (hw _ (List.mem_of_getElem? (i := 100) rfl)) (hw _ (List.mem_of_getElem? (i := 31) rfl)) Eb (rm_br l Z a0 hw [] b (FP.ddiv (FP.i2d U) (FP.dadd (FP.l2d (1 : Int64)) (FP.ddiv (FP.i2d (0 : Int32)) (4741671816366391296 : UInt64)))) B1 T22.heap n0 Zc F1 F2 (OwnFp.rate_nz hU _) (own_ne hB1) (OwnFp.rate_inv hU)) (rfl : T22.heap = T22.heap) (g := (mkF m 149 #[.val (.int p0), .val (.int p1), .val (.int p2), .val (.int p3), .val (.int B1), .val (.int B2), .val (.int U), .val (.int (1 : Int32)), .val (.int (0 : Int32)), .val (.ref d), .val (.ref b), .val (.int (1 : Int32)), .val (.int B1), .unset] [(.ref b)])) rfl (by rw [hml]; rfl) (argsL := []) (rest := []) (lenOf pd_d17 rfl) rfl (W := 0) (by show 2 * 0 + _ ≤ _; exact Nat.le_of_eq rfl) (Jvm.hb hby at_149) (by decide) (by decide) (by decide) (by decide)
      obtain ⟨a, rfl, Nq23, ha, Ka, Ea, G1, G2⟩ := hQ23
      have N23 := Fr.app N22 Nq23
      refine own_go (t' := T23.setTop (mkF m 152 #[.val (.int p0), .val (.int p1), .val (.int p2), .val (.int p3), .val (.int B1), .val (.int B2), .val (.int U), .val (.int (1 : Int32)), .val (.int (0 : Int32)), .val (.ref d), .val (.ref b), .val (.int (1 : Int32)), .val (.int B1), .unset] [(.ref a)])) st23 ?_
      have Zc : n0 ≤ T23.heap.size := Nat.le_trans Zc Ka.1
      have hkc := Nat.le_trans hkc Ka.1
      refine own_go (t' := T23.setTop (mkF m 154 #[.val (.int p0), .val (.int p1), .val (.int p2), .val (.int p3), .val (.int B1), .val (.int B2), .val (.int U), .val (.int (1 : Int32)), .val (.int (0 : Int32)), .val (.ref d), .val (.ref b), .val (.int (1 : Int32)), .val (.int B1), .val (.ref a)] [])) (fun _ k_ => XS.astore X23.here hx rfl (Jvm.hb hby at_152) rfl rfl (l' := #[.val (.int p0), .val (.int p1), .val (.int p2), .val (.int p3), .val (.int B1), .val (.int B2), .val (.int U), .val (.int (1 : Int32)), .val (.int (0 : Int32)), .val (.ref d), .val (.ref b), .val (.int (1 : Int32)), .val (.int B1), .val (.ref a)]) rfl k_) ?_
      refine own_go (t' := T23.setTop (mkF m 156 #[.val (.int p0), .val (.int p1), .val (.int p2), .val (.int p3), .val (.int B1), .val (.int B2), .val (.int U), .val (.int (1 : Int32)), .val (.int (0 : Int32)), .val (.ref d), .val (.ref b), .val (.int (1 : Int32)), .val (.int B1), .val (.ref a)] [(.int (1 : Int32))])) (fun _ k_ => XS.iload X23.here hx rfl (Jvm.hb hby at_154) rfl k_) ?_
      refine own_go (t' := T23.setTop (mkF m 159 #[.val (.int p0), .val (.int p1), .val (.int p2), .val (.int p3), .val (.int B1), .val (.int B2), .val (.int U), .val (.int (1 : Int32)), .val (.int (0 : Int32)), .val (.ref d), .val (.ref b), .val (.int (1 : Int32)), .val (.int B1), .val (.ref a)] [])) (fun _ k_ => XS.ifNo X23.here hx rfl (Jvm.hb hby at_156) rfl ((if0 _ _).trans (feq (by decide)).1) k_) ?_
      refine own_go (t' := T23.setTop (mkF m 161 #[.val (.int p0), .val (.int p1), .val (.int p2), .val (.int p3), .val (.int B1), .val (.int B2), .val (.int U), .val (.int (1 : Int32)), .val (.int (0 : Int32)), .val (.ref d), .val (.ref b), .val (.int (1 : Int32)), .val (.int B1), .val (.ref a)] [(.ref a)])) (fun _ k_ => XS.aload X23.here hx rfl (Jvm.hb hby at_159) rfl rfl k_) ?_
      obtain ⟨T24, L24, v24, X24, hQ24, st24⟩ := own_virtual X23 hx hZ (y := (⟨"com/example/libgate/libgate/BucketRate", "maxPermits", "()D"⟩ : MethodName)) hown (hw _ (List.mem_of_getElem? (i := 124) rfl)) (hw _ (List.mem_of_getElem? (i := 125) rfl)) (hw _ (List.mem_of_getElem? (i := 127) rfl)) (hw _ (List.mem_of_getElem? (i := 126) rfl)) (hw _ (List.mem_of_getElem? (i := 128) rfl)) (hw _ (List.mem_of_getElem? (i := 70) rfl)) (by decide) Ea (rm_mp l Z a0 hw [] a (FP.i2d B1) T23.heap n0 Zc G2) (rfl : T23.heap = T23.heap) (g := (mkF m 161 #[.val (.int p0), .val (.int p1), .val (.int p2), .val (.int p3), .val (.int B1), .val (.int B2), .val (.int U), .val (.int (1 : Int32)), .val (.int (0 : Int32)), .val (.ref d), .val (.ref b), .val (.int (1 : Int32)), .val (.int B1), .val (.ref a)] [(.ref a)])) rfl (by rw [hml]; rfl) (argsL := []) (rest := []) (lenOf pd_d20 rfl) rfl (W := 0) (by show 2 * 0 + _ ≤ _; exact Nat.le_of_eq rfl) (Jvm.hb hby at_161) (by decide) (by decide) (by decide) (by decide)
      obtain ⟨rfl, Nq24, e24⟩ := hQ24
      have N24 := Fr.app N23 Nq24
      refine own_go (t' := T24.setTop (mkF m 164 #[.val (.int p0), .val (.int p1), .val (.int p2), .val (.int p3), .val (.int B1), .val (.int B2), .val (.int U), .val (.int (1 : Int32)), .val (.int (0 : Int32)), .val (.ref d), .val (.ref b), .val (.int (1 : Int32)), .val (.int B1), .val (.ref a)] [(.double (FP.i2d B1))])) st24 ?_
      refine own_go (t' := T24.setTop (mkF m 166 #[.val (.int p0), .val (.int p1), .val (.int p2), .val (.int p3), .val (.int B1), .val (.int B2), .val (.int U), .val (.int (1 : Int32)), .val (.int (0 : Int32)), .val (.ref d), .val (.ref b), .val (.int (1 : Int32)), .val (.int B1), .val (.ref a)] [(.int B1), (.double (FP.i2d B1))])) (fun _ k_ => XS.iload X24.here hx rfl (Jvm.hb hby at_164) rfl k_) ?_
      refine own_go (t' := T24.setTop (mkF m 167 #[.val (.int p0), .val (.int p1), .val (.int p2), .val (.int p3), .val (.int B1), .val (.int B2), .val (.int U), .val (.int (1 : Int32)), .val (.int (0 : Int32)), .val (.ref d), .val (.ref b), .val (.int (1 : Int32)), .val (.int B1), .val (.ref a)] [(.double (FP.i2d B1)), (.double (FP.i2d B1))])) (fun _ k_ => XS.i2dS X24.here hx rfl (Jvm.hb hby at_166) rfl rfl k_) ?_
      refine own_go (t' := T24.setTop (mkF m 168 #[.val (.int p0), .val (.int p1), .val (.int p2), .val (.int p3), .val (.int B1), .val (.int B2), .val (.int U), .val (.int (1 : Int32)), .val (.int (0 : Int32)), .val (.ref d), .val (.ref b), .val (.int (1 : Int32)), .val (.int B1), .val (.ref a)] [(.int (cmpValue (FP.dcmp (FP.i2d B1) (FP.i2d B1)) CmpOp.l))])) (fun _ k_ => XS.dcmpS X24.here hx rfl (Jvm.hb hby at_167) rfl rfl k_) ?_
      refine own_go (t' := T24.setTop (mkF m 171 #[.val (.int p0), .val (.int p1), .val (.int p2), .val (.int p3), .val (.int B1), .val (.int B2), .val (.int U), .val (.int (1 : Int32)), .val (.int (0 : Int32)), .val (.ref d), .val (.ref b), .val (.int (1 : Int32)), .val (.int B1), .val (.ref a)] [])) (fun _ k_ => XS.ifNo X24.here hx rfl (Jvm.hb hby at_168) rfl ((if0 _ _).trans (teq (OwnFp.same_int _ _)).2) k_) ?_
      refine own_go (t' := T24.setTop (mkF m 173 #[.val (.int p0), .val (.int p1), .val (.int p2), .val (.int p3), .val (.int B1), .val (.int B2), .val (.int U), .val (.int (1 : Int32)), .val (.int (0 : Int32)), .val (.ref d), .val (.ref b), .val (.int (1 : Int32)), .val (.int B1), .val (.ref a)] [(.ref a)])) (fun _ k_ => XS.aload X24.here hx rfl (Jvm.hb hby at_171) rfl rfl k_) ?_
      obtain ⟨T25, L25, v25, X25, hQ25, st25⟩ := own_virtual X24 hx hZ (y := (⟨"com/example/libgate/libgate/BucketRate", "warmsUp", "()Z"⟩ : MethodName)) hown (hw _ (List.mem_of_getElem? (i := 129) rfl)) (hw _ (List.mem_of_getElem? (i := 130) rfl)) (hw _ (List.mem_of_getElem? (i := 132) rfl)) (hw _ (List.mem_of_getElem? (i := 131) rfl)) (hw _ (List.mem_of_getElem? (i := 133) rfl)) (hw _ (List.mem_of_getElem? (i := 70) rfl)) (by decide) Ea (rm_wu l Z a0 hw [] a T23.heap n0 Zc G1) e24 (g := (mkF m 173 #[.val (.int p0), .val (.int p1), .val (.int p2), .val (.int p3), .val (.int B1), .val (.int B2), .val (.int U), .val (.int (1 : Int32)), .val (.int (0 : Int32)), .val (.ref d), .val (.ref b), .val (.int (1 : Int32)), .val (.int B1), .val (.ref a)] [(.ref a)])) rfl (by rw [hml]; rfl) (argsL := []) (rest := []) (lenOf pd_d21 rfl) rfl (W := 0) (by show 2 * 0 + _ ≤ _; exact Nat.le_of_eq rfl) (Jvm.hb hby at_173) (by decide) (by decide) (by decide) (by decide)
      obtain ⟨rfl, Nq25, e25⟩ := hQ25
      have N25 := Fr.app N24 Nq25
      refine own_go (t' := T25.setTop (mkF m 176 #[.val (.int p0), .val (.int p1), .val (.int p2), .val (.int p3), .val (.int B1), .val (.int B2), .val (.int U), .val (.int (1 : Int32)), .val (.int (0 : Int32)), .val (.ref d), .val (.ref b), .val (.int (1 : Int32)), .val (.int B1), .val (.ref a)] [(.int (0 : Int32))])) st25 ?_
      refine own_go (t' := T25.setTop (mkF m 179 #[.val (.int p0), .val (.int p1), .val (.int p2), .val (.int p3), .val (.int B1), .val (.int B2), .val (.int U), .val (.int (1 : Int32)), .val (.int (0 : Int32)), .val (.ref d), .val (.ref b), .val (.int (1 : Int32)), .val (.int B1), .val (.ref a)] [])) (fun _ k_ => XS.ifNo X25.here hx rfl (Jvm.hb hby at_176) rfl ((if0 _ _).trans (teq rfl).2) k_) ?_
      refine own_go (t' := T25.setTop (mkF m 180 #[.val (.int p0), .val (.int p1), .val (.int p2), .val (.int p3), .val (.int B1), .val (.int B2), .val (.int U), .val (.int (1 : Int32)), .val (.int (0 : Int32)), .val (.ref d), .val (.ref b), .val (.int (1 : Int32)), .val (.int B1), .val (.ref a)] [(.int (1 : Int32))])) (fun _ k_ => XS.iconst X25.here hx rfl (Jvm.hb hby at_179) k_) ?_
      refine own_go (t' := T25.setTop (mkF m 184 #[.val (.int p0), .val (.int p1), .val (.int p2), .val (.int p3), .val (.int B1), .val (.int B2), .val (.int U), .val (.int (1 : Int32)), .val (.int (0 : Int32)), .val (.ref d), .val (.ref b), .val (.int (1 : Int32)), .val (.int B1), .val (.ref a)] [(.int (1 : Int32))])) (fun _ k_ => XS.goto X25.here hx rfl (pc0 := 180) (pc' := 184) rfl (Jvm.hb hby at_180) (by decide) (by decide) k_) ?_
      exact own_retZW (s := s) X25 hS21 (by rw [e25]; exact hkc) hx Bd.returns (BodyLoose.notSynchronized Bd) rfl (Jvm.hb hby at_184) (by decide) (by decide) ⟨rfl, N25⟩
    ·
      refine own_go (t' := s₁.setTop (mkF m 39 #[.val (.int p0), .val (.int p1), .val (.int p2), .val (.int p3), .val (.int B1), .val (.int B2), .val (.int U), .val (.int (1 : Int32)), .unset, .unset, .unset, .unset, .unset, .unset] [])) (fun _ k_ => XS.ifNo X0.here hx rfl (Jvm.hb hby at_36) rfl ((if0 _ _).trans (feq hc8).1) k_) ?_
      refine own_go (t' := s₁.setTop (mkF m 40 #[.val (.int p0), .val (.int p1), .val (.int p2), .val (.int p3), .val (.int B1), .val (.int B2), .val (.int U), .val (.int (1 : Int32)), .unset, .unset, .unset, .unset, .unset, .unset] [(.int (1 : Int32))])) (fun _ k_ => XS.iconst X0.here hx rfl (Jvm.hb hby at_39) k_) ?_
      refine own_go (t' := s₁.setTop (mkF m 44 #[.val (.int p0), .val (.int p1), .val (.int p2), .val (.int p3), .val (.int B1), .val (.int B2), .val (.int U), .val (.int (1 : Int32)), .unset, .unset, .unset, .unset, .unset, .unset] [(.int (1 : Int32))])) (fun _ k_ => XS.goto X0.here hx rfl (pc0 := 40) (pc' := 44) rfl (Jvm.hb hby at_40) (by decide) (by decide) k_) ?_
      refine own_go (t' := s₁.setTop (mkF m 46 #[.val (.int p0), .val (.int p1), .val (.int p2), .val (.int p3), .val (.int B1), .val (.int B2), .val (.int U), .val (.int (1 : Int32)), .val (.int (1 : Int32)), .unset, .unset, .unset, .unset, .unset] [])) (fun _ k_ => XS.istore X0.here hx rfl (Jvm.hb hby at_44) rfl (l' := #[.val (.int p0), .val (.int p1), .val (.int p2), .val (.int p3), .val (.int B1), .val (.int B2), .val (.int U), .val (.int (1 : Int32)), .val (.int (1 : Int32)), .unset, .unset, .unset, .unset, .unset]) rfl k_) ?_
      refine own_go (t' := s₁.setTop (mkF m 47 #[.val (.int p0), .val (.int p1), .val (.int p2), .val (.int p3), .val (.int B1), .val (.int B2), .val (.int U), .val (.int (1 : Int32)), .val (.int (1 : Int32)), .unset, .unset, .unset, .unset, .unset] [(.long (1 : Int64))])) (fun _ k_ => XS.lconst X0.here hx rfl (Jvm.hb hby at_46) k_) ?_
      obtain ⟨T26, L26, v26, X26, hQ26, st26⟩ := own_static X0 hx hZ hown (hw _ (List.mem_of_getElem? (i := 2) rfl)) (hw _ (List.mem_of_getElem? (i := 3) rfl)) (hw _ (List.mem_of_getElem? (i := 4) rfl)) (hw _ (List.mem_of_getElem? (i := 5) rfl)) (by decide) (rm_of l Z a0 hw [] h0 n0 Z0) e0 (g := (mkF m 47 #[.val (.int p0), .val (.int p1), .val (.int p2), .val (.int p3), .val (.int B1), .val (.int B2), .val (.int U), .val (.int (1 : Int32)), .val (.int (1 : Int32)), .unset, .unset, .unset, .unset, .unset] [(.long (1 : Int64))])) rfl (by rw [hml]; rfl) (argsL := [(.long (1 : Int64))]) (rest := []) (lenOf pd_d1 rfl) rfl (W := 0) (by show 2 * 0 + _ ≤ _; exact Nat.le_of_eq rfl) (Jvm.hb hby at_47) (by decide) (by decide) (by decide) (by decide)
      obtain ⟨d, rfl, Nq26, hd, Kd, Ed, Ds1, Ds2⟩ := hQ26
      have N26 := Fr.app N0 Nq26
      refine own_go (t' := T26.setTop (mkF m 50 #[.val (.int p0), .val (.int p1), .val (.int p2), .val (.int p3), .val (.int B1), .val (.int B2), .val (.int U), .val (.int (1 : Int32)), .val (.int (1 : Int32)), .unset, .unset, .unset, .unset, .unset] [(.ref d)])) st26 ?_
      have Zd : n0 ≤ T26.heap.size := Nat.le_trans Z0 Kd.1
      refine own_go (t' := T26.setTop (mkF m 52 #[.val (.int p0), .val (.int p1), .val (.int p2), .val (.int p3), .val (.int B1), .val (.int B2), .val (.int U), .val (.int (1 : Int32)), .val (.int (1 : Int32)), .val (.ref d), .unset, .unset, .unset, .unset] [])) (fun _ k_ => XS.astore X26.here hx rfl (Jvm.hb hby at_50) rfl rfl (l' := #[.val (.int p0), .val (.int p1), .val (.int p2), .val (.int p3), .val (.int B1), .val (.int B2), .val (.int U), .val (.int (1 : Int32)), .val (.int (1 : Int32)), .val (.ref d), .unset, .unset, .unset, .unset]) rfl k_) ?_
      obtain ⟨T27, h27, X27, e27, E27, A27, D27, -, st27⟩ := newO X26 hx hZ hown (hw _ (List.mem_of_getElem? (i := 22) rfl)) (hw _ (List.mem_of_getElem? (i := 23) rfl)) (hw _ (List.mem_of_getElem? (i := 24) rfl)) (rfl : T26.heap = T26.heap) (g := (mkF m 52 #[.val (.int p0), .val (.int p1), .val (.int p2), .val (.int p3), .val (.int B1), .val (.int B2), .val (.int U), .val (.int (1 : Int32)), .val (.int (1 : Int32)), .val (.ref d), .unset, .unset, .unset, .unset] [])) rfl (Jvm.hb hby at_52) (by decide) (by decide)
      obtain ⟨b, g27⟩ : ∃ z, z = T26.heap.size := ⟨_, rfl⟩
      rw [← g27] at A27 D27 st27
      refine own_go (t' := T27.setTop (mkF m 55 #[.val (.int p0), .val (.int p1), .val (.int p2), .val (.int p3), .val (.int B1), .val (.int B2), .val (.int U), .val (.int (1 : Int32)), .val (.int (1 : Int32)), .val (.ref d), .unset, .unset, .unset, .unset] [(.ref b)])) st27 ?_
      refine own_go (t' := T27.setTop (mkF m 56 #[.val (.int p0), .val (.int p1), .val (.int p2), .val (.int p3), .val (.int B1), .val (.int B2), .val (.int U), .val (.int (1 : Int32)), .val (.int (1 : Int32)), .val (.ref d), .unset, .unset, .unset, .unset] [(.ref b), (.ref b)])) (fun _ k_ => XS.dup X27.here hx rfl (Jvm.hb hby at_55) rfl rfl k_) ?_
      have Z1 : n0 ≤ h27.size := Nat.le_trans Zd E27.1
      have gb : n0 ≤ b := Nat.le_trans Zd (Nat.le_of_eq g27.symm)
      have Ed := Ed.ext E27
      have Ds1 := Ds1.ext E27
      have Ds2 := Ds2.ext E27
      obtain ⟨T28, L28, v28, X28, hQ28, st28⟩ := own_special X27 hx hZ (y := (⟨"com/example/libgate/libgate/BucketBuilderBurstPinLaw", "<init>", "()V"⟩ : MethodName)) rfl hown (hw _ (List.mem_of_getElem? (i := 25) rfl)) (hw _ (List.mem_of_getElem? (i := 26) rfl)) (hw _ (List.mem_of_getElem? (i := 27) rfl)) (hw _ (List.mem_of_getElem? (i := 24) rfl)) (by decide) (rm_li l Z a0 hw [] b _ _ h27 n0 Z1 A27 (D27 (Or.inl (hw _ (List.mem_of_getElem? (i := 35) rfl))) (ty := .int) (by decide)) (D27 (Or.inl (hw _ (List.mem_of_getElem? (i := 84) rfl))) (ty := .double) (by decide)) gb) e27 (g := (mkF m 56 #[.val (.int p0), .val (.int p1), .val (.int p2), .val (.int p3), .val (.int B1), .val (.int B2), .val (.int U), .val (.int (1 : Int32)), .val (.int (1 : Int32)), .val (.ref d), .unset, .unset, .unset, .unset] [(.ref b), (.ref b)])) rfl (by rw [hml]; rfl) (argsL := []) (rest := [(.ref b)]) (lenOf pd_d5 rfl) rfl (W := 1) (by show 2 * 0 + _ ≤ _; exact Nat.le_of_eq rfl) (Jvm.hb hby at_56) (by decide) (by decide) (by decide) (by decide)
      obtain ⟨rfl, Nq28, K1, Eb, ⟨w1, F1⟩, ⟨w2, F2⟩⟩ := hQ28
      have N28 := Fr.app N26 Nq28
      refine own_go (t' := T28.setTop (mkF m 59 #[.val (.int p0), .val (.int p1), .val (.int p2), .val (.int p3), .val (.int B1), .val (.int B2), .val (.int U), .val (.int (1 : Int32)), .val (.int (1 : Int32)), .val (.ref d), .unset, .unset, .unset, .unset] [(.ref b)])) st28 ?_
      have hne : d ∉ [b] := fun q => ne_exa Ed A27 (by decide) (List.mem_singleton.mp q)
      have Ds1 := Ds1.keep K1 hne
      have Ds2 := Ds2.keep K1 hne
      have Ed := Ed.keep K1
      have Zc : n0 ≤ T28.heap.size := Nat.le_trans Z1 K1.1
      have hkc : h0.size ≤ T28.heap.size := Nat.le_trans (Nat.le_trans Kd.1 E27.1) K1.1
      refine own_go (t' := T28.setTop (mkF m 61 #[.val (.int p0), .val (.int p1), .val (.int p2), .val (.int p3), .val (.int B1), .val (.int B2), .val (.int U), .val (.int (1 : Int32)), .val (.int (1 : Int32)), .val (.ref d), .val (.ref b), .unset, .unset, .unset] [])) (fun _ k_ => XS.astore X28.here hx rfl (Jvm.hb hby at_59) rfl rfl (l' := #[.val (.int p0), .val (.int p1), .val (.int p2), .val (.int p3), .val (.int B1), .val (.int B2), .val (.int U), .val (.int (1 : Int32)), .val (.int (1 : Int32)), .val (.ref d), .val (.ref b), .unset, .unset, .unset]) rfl k_) ?_
      refine own_go (t' := T28.setTop (mkF m 63 #[.val (.int p0), .val (.int p1), .val (.int p2), .val (.int p3), .val (.int B1), .val (.int B2), .val (.int U), .val (.int (1 : Int32)), .val (.int (1 : Int32)), .val (.ref d), .val (.ref b), .unset, .unset, .unset] [(.int (1 : Int32))])) (fun _ k_ => XS.iload X28.here hx rfl (Jvm.hb hby at_61) rfl k_) ?_
      refine own_go (t' := T28.setTop (mkF m 66 #[.val (.int p0), .val (.int p1), .val (.int p2), .val (.int p3), .val (.int B1), .val (.int B2), .val (.int U), .val (.int (1 : Int32)), .val (.int (1 : Int32)), .val (.ref d), .val (.ref b), .unset, .unset, .unset] [])) (fun _ k_ => XS.ifNo X28.here hx rfl (Jvm.hb hby at_63) rfl ((if0 _ _).trans (feq (by decide)).1) k_) ?_
      refine own_go (t' := T28.setTop (mkF m 68 #[.val (.int p0), .val (.int p1), .val (.int p2), .val (.int p3), .val (.int B1), .val (.int B2), .val (.int U), .val (.int (1 : Int32)), .val (.int (1 : Int32)), .val (.ref d), .val (.ref b), .unset, .unset, .unset] [(.ref b)])) (fun _ k_ => XS.aload X28.here hx rfl (Jvm.hb hby at_66) rfl rfl k_) ?_
      refine own_go (t' := T28.setTop (mkF m 70 #[.val (.int p0), .val (.int p1), .val (.int p2), .val (.int p3), .val (.int B1), .val (.int B2), .val (.int U), .val (.int (1 : Int32)), .val (.int (1 : Int32)), .val (.ref d), .val (.ref b), .unset, .unset, .unset] [(.int U), (.ref b)])) (fun _ k_ => XS.iload X28.here hx rfl (Jvm.hb hby at_68) rfl k_) ?_
      refine own_go (t' := T28.setTop (mkF m 72 #[.val (.int p0), .val (.int p1), .val (.int p2), .val (.int p3), .val (.int B1), .val (.int B2), .val (.int U), .val (.int (1 : Int32)), .val (.int (1 : Int32)), .val (.ref d), .val (.ref b), .unset, .unset, .unset] [(.ref d), (.int U), (.ref b)])) (fun _ k_ => XS.aload X28.here hx rfl (Jvm.hb hby at_70) rfl rfl k_) ?_
      obtain ⟨T29, L29, v29, X29, hS29, hZ, hown, hQ29, st29⟩ := own_virtualUpW (s := s) (vm0 := s.vm) X28 hx hZ hS0 hkc (owner := "com/example/libgate/libgate/BucketBuilder") (x0 := (⟨"com/example/libgate/libgate/BucketBuilderBurstPinLaw", "rate", "(ILjava/time/Duration;)Lcom/example/libgate/libgate/BucketBuilder;"⟩ : MethodName)) (y := (⟨"com/example/libgate/libgate/BucketBuilder", "rate", "(ILjava/time/Duration;)Lcom/example/libgate/libgate/BucketBuilder;"⟩ : MethodName)) hown (hw _ (List.mem_of_getElem? (i := 36) rfl)) (hw _ (List.mem_of_getElem? (i := 37) rfl)) (hw _ (List.mem_of_getElem? (i := 38) rfl)) (by decide) (hw _ (List.mem_of_getElem? (i := 40) rfl)) (hw _ (List.mem_of_getElem? (i := 39) rfl)) (hw _ (List.mem_of_getElem? (i := 41) rfl)) (hw _ (List.mem_of_getElem? (i := 31) rfl)) Eb (rm_ra l Z a0 hw [] b U d _ _ T28.heap n0 Zc Eb F1 F2 Ed Ds1 Ds2 gb hU) (rfl : T28.heap = T28.heap) (g := (mkF m 72 #[.val (.int p0), .val (.int p1), .val (.int p2), .val (.int p3), .val (.int B1), .val (.int B2), .val (.int U), .val (.int (1 : Int32)), .val (.int (1 : Int32)), .val (.ref d), .val (.ref b), .unset, .unset, .unset] [(.ref d), (.int U), (.ref b)])) rfl (by rw [hml]; rfl) (argsL := [(.int U), (.ref d)]) (rest := []) (lenOf pd_d7 rfl) rfl (W := 0) (by show 2 * 0 + _ ≤ _; exact Nat.le_of_eq rfl) (Jvm.hb hby at_72) (by decide) (by decide) (by decide) (by decide)
      obtain ⟨rfl, Nq29, K29, Eb, F1, F2⟩ := hQ29
      have N29 := Fr.app N28 Nq29
      refine own_go (t' := T29.setTop (mkF m 75 #[.val (.int p0), .val (.int p1), .val (.int p2), .val (.int p3), .val (.int B1), .val (.int B2), .val (.int U), .val (.int (1 : Int32)), .val (.int (1 : Int32)), .val (.ref d), .val (.ref b), .unset, .unset, .unset] [(.ref b)])) st29 ?_
      have Zc : n0 ≤ T29.heap.size := Nat.le_trans Zc K29.1
      have hkc : T29.heap.size ≤ T29.heap.size := Nat.le_refl _
      refine own_go (t' := T29.setTop (mkF m 76 #[.val (.int p0), .val (.int p1), .val (.int p2), .val (.int p3), .val (.int B1), .val (.int B2), .val (.int U), .val (.int (1 : Int32)), .val (.int (1 : Int32)), .val (.ref d), .val (.ref b), .unset, .unset, .unset] [])) (fun _ k_ => XS.pop X29.here hx rfl (Jvm.hb hby at_75) rfl rfl k_) ?_
      refine own_go (t' := T29.setTop (mkF m 78 #[.val (.int p0), .val (.int p1), .val (.int p2), .val (.int p3), .val (.int B1), .val (.int B2), .val (.int U), .val (.int (1 : Int32)), .val (.int (1 : Int32)), .val (.ref d), .val (.ref b), .unset, .unset, .unset] [(.ref b)])) (fun _ k_ => XS.aload X29.here hx rfl (Jvm.hb hby at_76) rfl rfl k_) ?_
      refine own_go (t' := T29.setTop (mkF m 80 #[.val (.int p0), .val (.int p1), .val (.int p2), .val (.int p3), .val (.int B1), .val (.int B2), .val (.int U), .val (.int (1 : Int32)), .val (.int (1 : Int32)), .val (.ref d), .val (.ref b), .unset, .unset, .unset] [(.int B1), (.ref b)])) (fun _ k_ => XS.iload X29.here hx rfl (Jvm.hb hby at_78) rfl k_) ?_
      obtain ⟨T30, L30, v30, X30, hQ30, st30⟩ := own_virtualUp X29 hx hZ (owner := "com/example/libgate/libgate/BucketBuilder") (x0 := (⟨"com/example/libgate/libgate/BucketBuilderBurstPinLaw", "burst", "(I)Lcom/example/libgate/libgate/BucketBuilder;"⟩ : MethodName)) (y := (⟨"com/example/libgate/libgate/BucketBuilder", "burst", "(I)Lcom/example/libgate/libgate/BucketBuilder;"⟩ : MethodName)) hown (hw _ (List.mem_of_getElem? (i := 89) rfl)) (hw _ (List.mem_of_getElem? (i := 90) rfl)) (hw _ (List.mem_of_getElem? (i := 91) rfl)) (by decide) (hw _ (List.mem_of_getElem? (i := 93) rfl)) (hw _ (List.mem_of_getElem? (i := 92) rfl)) (hw _ (List.mem_of_getElem? (i := 94) rfl)) (hw _ (List.mem_of_getElem? (i := 31) rfl)) Eb (rm_bu l Z a0 hw [] b B1 _ _ T29.heap n0 Zc Eb F1 F2 gb (own_nn hB1)) (rfl : T29.heap = T29.heap) (g := (mkF m 80 #[.val (.int p0), .val (.int p1), .val (.int p2), .val (.int p3), .val (.int B1), .val (.int B2), .val (.int U), .val (.int (1 : Int32)), .val (.int (1 : Int32)), .val (.ref d), .val (.ref b), .unset, .unset, .unset] [(.int B1), (.ref b)])) rfl (by rw [hml]; rfl) (argsL := [(.int B1)]) (rest := []) (lenOf pd_d16 rfl) rfl (W := 0) (by show 2 * 0 + _ ≤ _; exact Nat.le_of_eq rfl) (Jvm.hb hby at_80) (by decide) (by decide) (by decide) (by decide)
      obtain ⟨rfl, Nq30, K30, Eb, F1, F2⟩ := hQ30
      have N30 := Fr.app N29 Nq30
      refine own_go (t' := T30.setTop (mkF m 83 #[.val (.int p0), .val (.int p1), .val (.int p2), .val (.int p3), .val (.int B1), .val (.int B2), .val (.int U), .val (.int (1 : Int32)), .val (.int (1 : Int32)), .val (.ref d), .val (.ref b), .unset, .unset, .unset] [(.ref b)])) st30 ?_
      have Zc : n0 ≤ T30.heap.size := Nat.le_trans Zc K30.1
      have hkc := Nat.le_trans hkc K30.1
      refine own_go (t' := T30.setTop (mkF m 85 #[.val (.int p0), .val (.int p1), .val (.int p2), .val (.int p3), .val (.int B1), .val (.int B2), .val (.int U), .val (.int (1 : Int32)), .val (.int (1 : Int32)), .val (.ref d), .val (.ref b), .unset, .unset, .unset] [(.ref b), (.ref b)])) (fun _ k_ => XS.aload X30.here hx rfl (Jvm.hb hby at_83) rfl rfl k_) ?_
      refine own_go (t' := T30.setTop (mkF m 88 #[.val (.int p0), .val (.int p1), .val (.int p2), .val (.int p3), .val (.int B1), .val (.int B2), .val (.int U), .val (.int (1 : Int32)), .val (.int (1 : Int32)), .val (.ref d), .val (.ref b), .unset, .unset, .unset] [])) (fun _ k_ => Jvm.RoadKit.acmp (g := (mkF m 85 #[.val (.int p0), .val (.int p1), .val (.int p2), .val (.int p3), .val (.int B1), .val (.int B2), .val (.int U), .val (.int (1 : Int32)), .val (.int (1 : Int32)), .val (.ref d), .val (.ref b), .unset, .unset, .unset] [(.ref b), (.ref b)])) X30 hx rfl rfl rfl (pc0 := 85) (pc' := 88) (same := true) rfl (Jvm.hb hby at_85) rfl (decide_eq_true rfl) (by decide) (by decide) k_) ?_
      refine own_go (t' := T30.setTop (mkF m 89 #[.val (.int p0), .val (.int p1), .val (.int p2), .val (.int p3), .val (.int B1), .val (.int B2), .val (.int U), .val (.int (1 : Int32)), .val (.int (1 : Int32)), .val (.ref d), .val (.ref b), .unset, .unset, .unset] [(.int (1 : Int32))])) (fun _ k_ => XS.iconst X30.here hx rfl (Jvm.hb hby at_88) k_) ?_
      refine own_go (t' := T30.setTop (mkF m 93 #[.val (.int p0), .val (.int p1), .val (.int p2), .val (.int p3), .val (.int B1), .val (.int B2), .val (.int U), .val (.int (1 : Int32)), .val (.int (1 : Int32)), .val (.ref d), .val (.ref b), .unset, .unset, .unset] [(.int (1 : Int32))])) (fun _ k_ => XS.goto X30.here hx rfl (pc0 := 89) (pc' := 93) rfl (Jvm.hb hby at_89) (by decide) (by decide) k_) ?_
      refine own_go (t' := T30.setTop (mkF m 95 #[.val (.int p0), .val (.int p1), .val (.int p2), .val (.int p3), .val (.int B1), .val (.int B2), .val (.int U), .val (.int (1 : Int32)), .val (.int (1 : Int32)), .val (.ref d), .val (.ref b), .val (.int (1 : Int32)), .unset, .unset] [])) (fun _ k_ => XS.istore X30.here hx rfl (Jvm.hb hby at_93) rfl (l' := #[.val (.int p0), .val (.int p1), .val (.int p2), .val (.int p3), .val (.int B1), .val (.int B2), .val (.int U), .val (.int (1 : Int32)), .val (.int (1 : Int32)), .val (.ref d), .val (.ref b), .val (.int (1 : Int32)), .unset, .unset]) rfl k_) ?_
      refine own_go (t' := T30.setTop (mkF m 97 #[.val (.int p0), .val (.int p1), .val (.int p2), .val (.int p3), .val (.int B1), .val (.int B2), .val (.int U), .val (.int (1 : Int32)), .val (.int (1 : Int32)), .val (.ref d), .val (.ref b), .val (.int (1 : Int32)), .unset, .unset] [(.int B1)])) (fun _ k_ => XS.iload X30.here hx rfl (Jvm.hb hby at_95) rfl k_) ?_
      refine own_go (t' := T30.setTop (mkF m 99 #[.val (.int p0), .val (.int p1), .val (.int p2), .val (.int p3), .val (.int B1), .val (.int B2), .val (.int U), .val (.int (1 : Int32)), .val (.int (1 : Int32)), .val (.ref d), .val (.ref b), .val (.int (1 : Int32)), .val (.int B1), .unset] [])) (fun _ k_ => XS.istore X30.here hx rfl (Jvm.hb hby at_97) rfl (l' := #[.val (.int p0), .val (.int p1), .val (.int p2), .val (.int p3), .val (.int B1), .val (.int B2), .val (.int U), .val (.int (1 : Int32)), .val (.int (1 : Int32)), .val (.ref d), .val (.ref b), .val (.int (1 : Int32)), .val (.int B1), .unset]) rfl k_) ?_
      refine own_go (t' := T30.setTop (mkF m 101 #[.val (.int p0), .val (.int p1), .val (.int p2), .val (.int p3), .val (.int B1), .val (.int B2), .val (.int U), .val (.int (1 : Int32)), .val (.int (1 : Int32)), .val (.ref d), .val (.ref b), .val (.int (1 : Int32)), .val (.int B1), .unset] [(.int (1 : Int32))])) (fun _ k_ => XS.iload X30.here hx rfl (Jvm.hb hby at_99) rfl k_) ?_
      refine own_go (t' := T30.setTop (mkF m 104 #[.val (.int p0), .val (.int p1), .val (.int p2), .val (.int p3), .val (.int B1), .val (.int B2), .val (.int U), .val (.int (1 : Int32)), .val (.int (1 : Int32)), .val (.ref d), .val (.ref b), .val (.int (1 : Int32)), .val (.int B1), .unset] [])) (fun _ k_ => XS.ifNo X30.here hx rfl (Jvm.hb hby at_101) rfl ((if0 _ _).trans (feq (by decide)).1) k_) ?_
      refine own_go (t' := T30.setTop (mkF m 106 #[.val (.int p0), .val (.int p1), .val (.int p2), .val (.int p3), .val (.int B1), .val (.int B2), .val (.int U), .val (.int (1 : Int32)), .val (.int (1 : Int32)), .val (.ref d), .val (.ref b), .val (.int (1 : Int32)), .val (.int B1), .unset] [(.int (1 : Int32))])) (fun _ k_ => XS.iload X30.here hx rfl (Jvm.hb hby at_104) rfl k_) ?_
      refine own_go (t' := T30.setTop (mkF m 109 #[.val (.int p0), .val (.int p1), .val (.int p2), .val (.int p3), .val (.int B1), .val (.int B2), .val (.int U), .val (.int (1 : Int32)), .val (.int (1 : Int32)), .val (.ref d), .val (.ref b), .val (.int (1 : Int32)), .val (.int B1), .unset] [])) (fun _ k_ => XS.ifNo X30.here hx rfl (Jvm.hb hby at_106) rfl ((if0 _ _).trans (feq (by decide)).1) k_) ?_
      refine own_go (t' := T30.setTop (mkF m 111 #[.val (.int p0), .val (.int p1), .val (.int p2), .val (.int p3), .val (.int B1), .val (.int B2), .val (.int U), .val (.int (1 : Int32)), .val (.int (1 : Int32)), .val (.ref d), .val (.ref b), .val (.int (1 : Int32)), .val (.int B1), .unset] [(.ref b)])) (fun _ k_ => XS.aload X30.here hx rfl (Jvm.hb hby at_109) rfl rfl k_) ?_
      refine own_go (t' := T30.setTop (mkF m 113 #[.val (.int p0), .val (.int p1), .val (.int p2), .val (.int p3), .val (.int B1), .val (.int B2), .val (.int U), .val (.int (1 : Int32)), .val (.int (1 : Int32)), .val (.ref d), .val (.ref b), .val (.int (1 : Int32)), .val (.int B1), .unset] [(.int B2), (.ref b)])) (fun _ k_ => XS.iload X30.here hx rfl (Jvm.hb hby at_111) rfl k_) ?_
      obtain ⟨T31, L31, v31, X31, hQ31, st31⟩ := own_virtualUp X30 hx hZ (owner := "com/example/libgate/libgate/BucketBuilder") (x0 := (⟨"com/example/libgate/libgate/BucketBuilderBurstPinLaw", "burst", "(I)Lcom/example/libgate/libgate/BucketBuilder;"⟩ : MethodName)) (y := (⟨"com/example/libgate/libgate/BucketBuilder", "burst", "(I)Lcom/example/libgate/libgate/BucketBuilder;"⟩ : MethodName)) hown (hw _ (List.mem_of_getElem? (i := 89) rfl)) (hw _ (List.mem_of_getElem? (i := 90) rfl)) (hw _ (List.mem_of_getElem? (i := 91) rfl)) (by decide) (hw _ (List.mem_of_getElem? (i := 93) rfl)) (hw _ (List.mem_of_getElem? (i := 92) rfl)) (hw _ (List.mem_of_getElem? (i := 94) rfl)) (hw _ (List.mem_of_getElem? (i := 31) rfl)) Eb (rm_bu l Z a0 hw [] b B2 _ _ T30.heap n0 Zc Eb F1 F2 gb (own_nn hB2)) (rfl : T30.heap = T30.heap) (g := (mkF m 113 #[.val (.int p0), .val (.int p1), .val (.int p2), .val (.int p3), .val (.int B1), .val (.int B2), .val (.int U), .val (.int (1 : Int32)), .val (.int (1 : Int32)), .val (.ref d), .val (.ref b), .val (.int (1 : Int32)), .val (.int B1), .unset] [(.int B2), (.ref b)])) rfl (by rw [hml]; rfl) (argsL := [(.int B2)]) (rest := []) (lenOf pd_d16 rfl) rfl (W := 0) (by show 2 * 0 + _ ≤ _; exact Nat.le_of_eq rfl) (Jvm.hb hby at_113) (by decide) (by decide) (by decide) (by decide)
      obtain ⟨rfl, Nq31, K31, Eb, F1, F2⟩ := hQ31
      have N31 := Fr.app N30 Nq31
      refine own_go (t' := T31.setTop (mkF m 116 #[.val (.int p0), .val (.int p1), .val (.int p2), .val (.int p3), .val (.int B1), .val (.int B2), .val (.int U), .val (.int (1 : Int32)), .val (.int (1 : Int32)), .val (.ref d), .val (.ref b), .val (.int (1 : Int32)), .val (.int B1), .unset] [(.ref b)])) st31 ?_
      have Zc : n0 ≤ T31.heap.size := Nat.le_trans Zc K31.1
      have hkc := Nat.le_trans hkc K31.1
      refine own_go (t' := T31.setTop (mkF m 118 #[.val (.int p0), .val (.int p1), .val (.int p2), .val (.int p3), .val (.int B1), .val (.int B2), .val (.int U), .val (.int (1 : Int32)), .val (.int (1 : Int32)), .val (.ref d), .val (.ref b), .val (.int (1 : Int32)), .val (.int B1), .unset] [(.ref b), (.ref b)])) (fun _ k_ => XS.aload X31.here hx rfl (Jvm.hb hby at_116) rfl rfl k_) ?_
      refine own_go (t' := T31.setTop (mkF m 121 #[.val (.int p0), .val (.int p1), .val (.int p2), .val (.int p3), .val (.int B1), .val (.int B2), .val (.int U), .val (.int (1 : Int32)), .val (.int (1 : Int32)), .val (.ref d), .val (.ref b), .val (.int (1 : Int32)), .val (.int B1), .unset] [])) (fun _ k_ => Jvm.RoadKit.acmp (g := (mkF m 118 #[.val (.int p0), .val (.int p1), .val (.int p2), .val (.int p3), .val (.int B1), .val (.int B2), .val (.int U), .val (.int (1 : Int32)), .val (.int (1 : Int32)), .val (.ref d), .val (.ref b), .val (.int (1 : Int32)), .val (.int B1), .unset] [(.ref b), (.ref b)])) X31 hx rfl rfl rfl (pc0 := 118) (pc' := 121) (same := true) rfl (Jvm.hb hby at_118) rfl (decide_eq_true rfl) (by decide) (by decide) k_) ?_
      refine own_go (t' := T31.setTop (mkF m 122 #[.val (.int p0), .val (.int p1), .val (.int p2), .val (.int p3), .val (.int B1), .val (.int B2), .val (.int U), .val (.int (1 : Int32)), .val (.int (1 : Int32)), .val (.ref d), .val (.ref b), .val (.int (1 : Int32)), .val (.int B1), .unset] [(.int (1 : Int32))])) (fun _ k_ => XS.iconst X31.here hx rfl (Jvm.hb hby at_121) k_) ?_
      refine own_go (t' := T31.setTop (mkF m 126 #[.val (.int p0), .val (.int p1), .val (.int p2), .val (.int p3), .val (.int B1), .val (.int B2), .val (.int U), .val (.int (1 : Int32)), .val (.int (1 : Int32)), .val (.ref d), .val (.ref b), .val (.int (1 : Int32)), .val (.int B1), .unset] [(.int (1 : Int32))])) (fun _ k_ => XS.goto X31.here hx rfl (pc0 := 122) (pc' := 126) rfl (Jvm.hb hby at_122) (by decide) (by decide) k_) ?_
      refine own_go (t' := T31.setTop (mkF m 128 #[.val (.int p0), .val (.int p1), .val (.int p2), .val (.int p3), .val (.int B1), .val (.int B2), .val (.int U), .val (.int (1 : Int32)), .val (.int (1 : Int32)), .val (.ref d), .val (.ref b), .val (.int (1 : Int32)), .val (.int B1), .unset] [])) (fun _ k_ => XS.istore X31.here hx rfl (Jvm.hb hby at_126) rfl (l' := #[.val (.int p0), .val (.int p1), .val (.int p2), .val (.int p3), .val (.int B1), .val (.int B2), .val (.int U), .val (.int (1 : Int32)), .val (.int (1 : Int32)), .val (.ref d), .val (.ref b), .val (.int (1 : Int32)), .val (.int B1), .unset]) rfl k_) ?_
      refine own_go (t' := T31.setTop (mkF m 130 #[.val (.int p0), .val (.int p1), .val (.int p2), .val (.int p3), .val (.int B1), .val (.int B2), .val (.int U), .val (.int (1 : Int32)), .val (.int (1 : Int32)), .val (.ref d), .val (.ref b), .val (.int (1 : Int32)), .val (.int B1), .unset] [(.int B2)])) (fun _ k_ => XS.iload X31.here hx rfl (Jvm.hb hby at_128) rfl k_) ?_
      refine own_go (t' := T31.setTop (mkF m 132 #[.val (.int p0), .val (.int p1), .val (.int p2), .val (.int p3), .val (.int B1), .val (.int B2), .val (.int U), .val (.int (1 : Int32)), .val (.int (1 : Int32)), .val (.ref d), .val (.ref b), .val (.int (1 : Int32)), .val (.int B2), .unset] [])) (fun _ k_ => XS.istore X31.here hx rfl (Jvm.hb hby at_130) rfl (l' := #[.val (.int p0), .val (.int p1), .val (.int p2), .val (.int p3), .val (.int B1), .val (.int B2), .val (.int U), .val (.int (1 : Int32)), .val (.int (1 : Int32)), .val (.ref d), .val (.ref b), .val (.int (1 : Int32)), .val (.int B2), .unset]) rfl k_) ?_
      refine own_go (t' := T31.setTop (mkF m 134 #[.val (.int p0), .val (.int p1), .val (.int p2), .val (.int p3), .val (.int B1), .val (.int B2), .val (.int U), .val (.int (1 : Int32)), .val (.int (1 : Int32)), .val (.ref d), .val (.ref b), .val (.int (1 : Int32)), .val (.int B2), .unset] [(.int (1 : Int32))])) (fun _ k_ => XS.iload X31.here hx rfl (Jvm.hb hby at_132) rfl k_) ?_
      refine own_go (t' := T31.setTop (mkF m 147 #[.val (.int p0), .val (.int p1), .val (.int p2), .val (.int p3), .val (.int B1), .val (.int B2), .val (.int U), .val (.int (1 : Int32)), .val (.int (1 : Int32)), .val (.ref d), .val (.ref b), .val (.int (1 : Int32)), .val (.int B2), .unset] [])) (fun _ k_ => XS.ifYes X31.here hx rfl (pc0 := 134) (pc' := 147) rfl (Jvm.hb hby at_134) rfl ((if0 _ _).trans (feq (by decide)).2) (by decide) (by decide) k_) ?_
      refine own_go (t' := T31.setTop (mkF m 149 #[.val (.int p0), .val (.int p1), .val (.int p2), .val (.int p3), .val (.int B1), .val (.int B2), .val (.int U), .val (.int (1 : Int32)), .val (.int (1 : Int32)), .val (.ref d), .val (.ref b), .val (.int (1 : Int32)), .val (.int B2), .unset] [(.ref b)])) (fun _ k_ => XS.aload X31.here hx rfl (Jvm.hb hby at_147) rfl rfl k_) ?_
      obtain ⟨T32, L32, v32, X32, hQ32, st32⟩ := own_virtualUp X31 hx hZ (owner := "com/example/libgate/libgate/BucketBuilder") (x0 := (⟨"com/example/libgate/libgate/BucketBuilderBurstPinLaw", "bucketRate", "()Lcom/example/libgate/libgate/BucketRate;"⟩ : MethodName)) (y := (⟨"com/example/libgate/libgate/BucketBuilder", "bucketRate", "()Lcom/example/libgate/libgate/BucketRate;"⟩ : MethodName)) hown (hw _ (List.mem_of_getElem? (i := 95) rfl)) (hw _ (List.mem_of_getElem? (i := 96) rfl)) (hw _ (List.mem_of_getElem? (i := 97) rfl)) (by decide) (hw _ (List.mem_of_getElem? (i := 99) rfl)) (hw _ (List.mem_of_getElem? (i := 98) rfl)) (hw _ (List.mem_of_getElem? (i := 100) rfl)) (hw _ (List.mem_of_getElem? (i := 31) rfl)) Eb (rm_br l Z a0 hw [] b (FP.ddiv (FP.i2d U) (FP.dadd (FP.l2d (1 : Int64)) (FP.ddiv (FP.i2d (0 : Int32)) (4741671816366391296 : UInt64)))) B2 T31.heap n0 Zc F1 F2 (OwnFp.rate_nz hU _) (own_ne hB2) (OwnFp.rate_inv hU)) (rfl : T31.heap = T31.heap) (g := (mkF m 149 #[.val (.int p0), .val (.int p1), .val (.int p2), .val (.int p3), .val (.int B1), .val (.int B2), .val (.int U), .val (.int (1 : Int32)), .val (.int (1 : Int32)), .val (.ref d), .val (.ref b), .val (.int (1 : Int32)), .val (.int B2), .unset] [(.ref b)])) rfl (by rw [hml]; rfl) (argsL := []) (rest := []) (lenOf pd_d17 rfl) rfl (W := 0) (by show 2 * 0 + _ ≤ _; exact Nat.le_of_eq rfl) (Jvm.hb hby at_149) (by decide) (by decide) (by decide) (by decide)
      obtain ⟨a, rfl, Nq32, ha, Ka, Ea, G1, G2⟩ := hQ32
      have N32 := Fr.app N31 Nq32
      refine own_go (t' := T32.setTop (mkF m 152 #[.val (.int p0), .val (.int p1), .val (.int p2), .val (.int p3), .val (.int B1), .val (.int B2), .val (.int U), .val (.int (1 : Int32)), .val (.int (1 : Int32)), .val (.ref d), .val (.ref b), .val (.int (1 : Int32)), .val (.int B2), .unset] [(.ref a)])) st32 ?_
      have Zc : n0 ≤ T32.heap.size := Nat.le_trans Zc Ka.1
      have hkc := Nat.le_trans hkc Ka.1
      refine own_go (t' := T32.setTop (mkF m 154 #[.val (.int p0), .val (.int p1), .val (.int p2), .val (.int p3), .val (.int B1), .val (.int B2), .val (.int U), .val (.int (1 : Int32)), .val (.int (1 : Int32)), .val (.ref d), .val (.ref b), .val (.int (1 : Int32)), .val (.int B2), .val (.ref a)] [])) (fun _ k_ => XS.astore X32.here hx rfl (Jvm.hb hby at_152) rfl rfl (l' := #[.val (.int p0), .val (.int p1), .val (.int p2), .val (.int p3), .val (.int B1), .val (.int B2), .val (.int U), .val (.int (1 : Int32)), .val (.int (1 : Int32)), .val (.ref d), .val (.ref b), .val (.int (1 : Int32)), .val (.int B2), .val (.ref a)]) rfl k_) ?_
      refine own_go (t' := T32.setTop (mkF m 156 #[.val (.int p0), .val (.int p1), .val (.int p2), .val (.int p3), .val (.int B1), .val (.int B2), .val (.int U), .val (.int (1 : Int32)), .val (.int (1 : Int32)), .val (.ref d), .val (.ref b), .val (.int (1 : Int32)), .val (.int B2), .val (.ref a)] [(.int (1 : Int32))])) (fun _ k_ => XS.iload X32.here hx rfl (Jvm.hb hby at_154) rfl k_) ?_
      refine own_go (t' := T32.setTop (mkF m 159 #[.val (.int p0), .val (.int p1), .val (.int p2), .val (.int p3), .val (.int B1), .val (.int B2), .val (.int U), .val (.int (1 : Int32)), .val (.int (1 : Int32)), .val (.ref d), .val (.ref b), .val (.int (1 : Int32)), .val (.int B2), .val (.ref a)] [])) (fun _ k_ => XS.ifNo X32.here hx rfl (Jvm.hb hby at_156) rfl ((if0 _ _).trans (feq (by decide)).1) k_) ?_
      refine own_go (t' := T32.setTop (mkF m 161 #[.val (.int p0), .val (.int p1), .val (.int p2), .val (.int p3), .val (.int B1), .val (.int B2), .val (.int U), .val (.int (1 : Int32)), .val (.int (1 : Int32)), .val (.ref d), .val (.ref b), .val (.int (1 : Int32)), .val (.int B2), .val (.ref a)] [(.ref a)])) (fun _ k_ => XS.aload X32.here hx rfl (Jvm.hb hby at_159) rfl rfl k_) ?_
      obtain ⟨T33, L33, v33, X33, hQ33, st33⟩ := own_virtual X32 hx hZ (y := (⟨"com/example/libgate/libgate/BucketRate", "maxPermits", "()D"⟩ : MethodName)) hown (hw _ (List.mem_of_getElem? (i := 124) rfl)) (hw _ (List.mem_of_getElem? (i := 125) rfl)) (hw _ (List.mem_of_getElem? (i := 127) rfl)) (hw _ (List.mem_of_getElem? (i := 126) rfl)) (hw _ (List.mem_of_getElem? (i := 128) rfl)) (hw _ (List.mem_of_getElem? (i := 70) rfl)) (by decide) Ea (rm_mp l Z a0 hw [] a (FP.i2d B2) T32.heap n0 Zc G2) (rfl : T32.heap = T32.heap) (g := (mkF m 161 #[.val (.int p0), .val (.int p1), .val (.int p2), .val (.int p3), .val (.int B1), .val (.int B2), .val (.int U), .val (.int (1 : Int32)), .val (.int (1 : Int32)), .val (.ref d), .val (.ref b), .val (.int (1 : Int32)), .val (.int B2), .val (.ref a)] [(.ref a)])) rfl (by rw [hml]; rfl) (argsL := []) (rest := []) (lenOf pd_d20 rfl) rfl (W := 0) (by show 2 * 0 + _ ≤ _; exact Nat.le_of_eq rfl) (Jvm.hb hby at_161) (by decide) (by decide) (by decide) (by decide)
      obtain ⟨rfl, Nq33, e33⟩ := hQ33
      have N33 := Fr.app N32 Nq33
      refine own_go (t' := T33.setTop (mkF m 164 #[.val (.int p0), .val (.int p1), .val (.int p2), .val (.int p3), .val (.int B1), .val (.int B2), .val (.int U), .val (.int (1 : Int32)), .val (.int (1 : Int32)), .val (.ref d), .val (.ref b), .val (.int (1 : Int32)), .val (.int B2), .val (.ref a)] [(.double (FP.i2d B2))])) st33 ?_
      refine own_go (t' := T33.setTop (mkF m 166 #[.val (.int p0), .val (.int p1), .val (.int p2), .val (.int p3), .val (.int B1), .val (.int B2), .val (.int U), .val (.int (1 : Int32)), .val (.int (1 : Int32)), .val (.ref d), .val (.ref b), .val (.int (1 : Int32)), .val (.int B2), .val (.ref a)] [(.int B2), (.double (FP.i2d B2))])) (fun _ k_ => XS.iload X33.here hx rfl (Jvm.hb hby at_164) rfl k_) ?_
      refine own_go (t' := T33.setTop (mkF m 167 #[.val (.int p0), .val (.int p1), .val (.int p2), .val (.int p3), .val (.int B1), .val (.int B2), .val (.int U), .val (.int (1 : Int32)), .val (.int (1 : Int32)), .val (.ref d), .val (.ref b), .val (.int (1 : Int32)), .val (.int B2), .val (.ref a)] [(.double (FP.i2d B2)), (.double (FP.i2d B2))])) (fun _ k_ => XS.i2dS X33.here hx rfl (Jvm.hb hby at_166) rfl rfl k_) ?_
      refine own_go (t' := T33.setTop (mkF m 168 #[.val (.int p0), .val (.int p1), .val (.int p2), .val (.int p3), .val (.int B1), .val (.int B2), .val (.int U), .val (.int (1 : Int32)), .val (.int (1 : Int32)), .val (.ref d), .val (.ref b), .val (.int (1 : Int32)), .val (.int B2), .val (.ref a)] [(.int (cmpValue (FP.dcmp (FP.i2d B2) (FP.i2d B2)) CmpOp.l))])) (fun _ k_ => XS.dcmpS X33.here hx rfl (Jvm.hb hby at_167) rfl rfl k_) ?_
      refine own_go (t' := T33.setTop (mkF m 171 #[.val (.int p0), .val (.int p1), .val (.int p2), .val (.int p3), .val (.int B1), .val (.int B2), .val (.int U), .val (.int (1 : Int32)), .val (.int (1 : Int32)), .val (.ref d), .val (.ref b), .val (.int (1 : Int32)), .val (.int B2), .val (.ref a)] [])) (fun _ k_ => XS.ifNo X33.here hx rfl (Jvm.hb hby at_168) rfl ((if0 _ _).trans (teq (OwnFp.same_int _ _)).2) k_) ?_
      refine own_go (t' := T33.setTop (mkF m 173 #[.val (.int p0), .val (.int p1), .val (.int p2), .val (.int p3), .val (.int B1), .val (.int B2), .val (.int U), .val (.int (1 : Int32)), .val (.int (1 : Int32)), .val (.ref d), .val (.ref b), .val (.int (1 : Int32)), .val (.int B2), .val (.ref a)] [(.ref a)])) (fun _ k_ => XS.aload X33.here hx rfl (Jvm.hb hby at_171) rfl rfl k_) ?_
      obtain ⟨T34, L34, v34, X34, hQ34, st34⟩ := own_virtual X33 hx hZ (y := (⟨"com/example/libgate/libgate/BucketRate", "warmsUp", "()Z"⟩ : MethodName)) hown (hw _ (List.mem_of_getElem? (i := 129) rfl)) (hw _ (List.mem_of_getElem? (i := 130) rfl)) (hw _ (List.mem_of_getElem? (i := 132) rfl)) (hw _ (List.mem_of_getElem? (i := 131) rfl)) (hw _ (List.mem_of_getElem? (i := 133) rfl)) (hw _ (List.mem_of_getElem? (i := 70) rfl)) (by decide) Ea (rm_wu l Z a0 hw [] a T32.heap n0 Zc G1) e33 (g := (mkF m 173 #[.val (.int p0), .val (.int p1), .val (.int p2), .val (.int p3), .val (.int B1), .val (.int B2), .val (.int U), .val (.int (1 : Int32)), .val (.int (1 : Int32)), .val (.ref d), .val (.ref b), .val (.int (1 : Int32)), .val (.int B2), .val (.ref a)] [(.ref a)])) rfl (by rw [hml]; rfl) (argsL := []) (rest := []) (lenOf pd_d21 rfl) rfl (W := 0) (by show 2 * 0 + _ ≤ _; exact Nat.le_of_eq rfl) (Jvm.hb hby at_173) (by decide) (by decide) (by decide) (by decide)
      obtain ⟨rfl, Nq34, e34⟩ := hQ34
      have N34 := Fr.app N33 Nq34
      refine own_go (t' := T34.setTop (mkF m 176 #[.val (.int p0), .val (.int p1), .val (.int p2), .val (.int p3), .val (.int B1), .val (.int B2), .val (.int U), .val (.int (1 : Int32)), .val (.int (1 : Int32)), .val (.ref d), .val (.ref b), .val (.int (1 : Int32)), .val (.int B2), .val (.ref a)] [(.int (0 : Int32))])) st34 ?_
      refine own_go (t' := T34.setTop (mkF m 179 #[.val (.int p0), .val (.int p1), .val (.int p2), .val (.int p3), .val (.int B1), .val (.int B2), .val (.int U), .val (.int (1 : Int32)), .val (.int (1 : Int32)), .val (.ref d), .val (.ref b), .val (.int (1 : Int32)), .val (.int B2), .val (.ref a)] [])) (fun _ k_ => XS.ifNo X34.here hx rfl (Jvm.hb hby at_176) rfl ((if0 _ _).trans (teq rfl).2) k_) ?_
      refine own_go (t' := T34.setTop (mkF m 180 #[.val (.int p0), .val (.int p1), .val (.int p2), .val (.int p3), .val (.int B1), .val (.int B2), .val (.int U), .val (.int (1 : Int32)), .val (.int (1 : Int32)), .val (.ref d), .val (.ref b), .val (.int (1 : Int32)), .val (.int B2), .val (.ref a)] [(.int (1 : Int32))])) (fun _ k_ => XS.iconst X34.here hx rfl (Jvm.hb hby at_179) k_) ?_
      refine own_go (t' := T34.setTop (mkF m 184 #[.val (.int p0), .val (.int p1), .val (.int p2), .val (.int p3), .val (.int B1), .val (.int B2), .val (.int U), .val (.int (1 : Int32)), .val (.int (1 : Int32)), .val (.ref d), .val (.ref b), .val (.int (1 : Int32)), .val (.int B2), .val (.ref a)] [(.int (1 : Int32))])) (fun _ k_ => XS.goto X34.here hx rfl (pc0 := 180) (pc' := 184) rfl (Jvm.hb hby at_180) (by decide) (by decide) k_) ?_
      exact own_retZW (s := s) X34 hS29 (by rw [e34]; exact hkc) hx Bd.returns (BodyLoose.notSynchronized Bd) rfl (Jvm.hb hby at_184) (by decide) (by decide) ⟨rfl, N34⟩
set_option maxRecDepth 65536 in
set_option maxHeartbeats 40000000 in
theorem comes_1 {Post : Tables → Env → Array Value → State → Outcome → State → Prop} (hpost : ∀ tb e args s v u, (limb_1_1.after args s (.returned v) u = true ∧ limb_1_2.after args s (.returned v) u = true ∧ True) → ReturnedEndW s (.returned v) u (Jvm.fieldLocs frame_1_writes args s ++ Jvm.arrayLocs frame_1_arrays args s ++ Jvm.staticLocs frame_1_statics s) 16 1152 → Post tb e args s (.returned v) u) :
    ArmFor flags0 classFile x code maxLocals ret World_1 tables_1 room_1 Calls_1 rest_1 Pre_1 Post := by
  intro l hfl _ _ p e ha hc hk s m args below hf hA hF happ hP
  obtain ⟨hcalls, hrest, hpre⟩ := hP
  obtain ⟨-, -, -, hnamed, -, -, -, hat⟩ := (Spec.applies_iff hf).mp happ
  obtain ⟨hg, hn⟩ := and_e (Cond.before_iff.mp (show (Jvm.Cond.and given_1 narrow_1).before args s = true from hpre))
  obtain ⟨h1, g0⟩ := and_e hg
  obtain ⟨k0, g1⟩ := and_e g0
  obtain ⟨k1, g2⟩ := and_e g1
  obtain ⟨k2, g3⟩ := and_e g2
  have k3 := g3
  obtain ⟨w0, w1, w2, w3, rfl⟩ : ∃ w0 w1 w2 w3 : Value, args = #[w0, w1, w2, w3] := by
    have hs : args.size = 4 := by simpa [Cond.value, given_1] using h1
    obtain ⟨L⟩ := args
    match L, hs with
    | [w0, w1, w2, w3], _ => exact ⟨w0, w1, w2, w3, rfl⟩
  have hw := fun d (hd : d ∈ tables_1) => atoms_spec (ws := Jvm.Cond.code x code maxLocals ret :: tables_1) hat d (List.mem_cons_of_mem _ hd)
  have hfit : Fit s := fun {y c} hc i hi => by
    obtain ⟨ha, rfl⟩ := Array.getElem?_eq_some_iff.mp hc
    have q := List.all_eq_true.mp ((Array.all_eq_true_iff_forall_mem.mp hF) _ (Array.getElem_mem ha)) i (List.mem_range.mpr hi)
    simpa [Array.getElem?_eq_getElem hi] using q
  obtain ⟨i0, e0⟩ := is_v k0
  obtain rfl : w0 = (.int i0) := Option.some.inj e0
  obtain ⟨i1, e1⟩ := is_v k1
  obtain rfl : w1 = (.int i1) := Option.some.inj e1
  obtain ⟨i2, e2⟩ := is_v k2
  obtain rfl : w2 = (.int i2) := Option.some.inj e2
  obtain ⟨i3, e3⟩ := is_v k3
  obtain rfl : w3 = (.int i3) := Option.some.inj e3
  obtain ⟨n, o, q1, q2, q3, _, L, rfl, ⟨rfl, N⟩, hq⟩ := rm_law l s _ hw tables_1 i0 i1 i2 i3 s.heap s.heap.size (Nat.le_refl _)  p e ha hc hk s m _ below hf ((Spec.applies_iff_loose hf).mp happ).1 ⟨rfl, State.Warmed39.refl s, rfl⟩ trivial
  refine ⟨n, _, q1, q2, q3, hpost _ _ _ _ _ _ ⟨Cond.after_iff.mpr rfl, Cond.after_iff.mpr (eq_i res_at (Term.int_eval (1)) rfl), trivial⟩ ⟨hq.1, hq.2.1, hq.2.2.1, (hq.2.2.2.sift fun y hy => Or.inr (N y hy)).mono (by decide) (by decide)⟩⟩
theorem main_1_1 : Claimed_1_1 := comes_1 fun _ _ _ _ _ _ h hF => ⟨h.1, hF⟩
theorem main_1_2 : Claimed_1_2 := comes_1 fun _ _ _ _ _ _ h hF => ⟨h.2.1, hF⟩
end Jvm.Pilot.@@N@@
namespace Jvm.Pilot.@@N@@
open Jvm Jvm.ClassFile Sem Op Lib Jvm.Free Jvm.Stand Jvm.Pilot.@@N@@.Jvm.D
/-! MADE BY PROGRAM (witnessworld.py) out of the Statement's table words and the real class files: 19 classes; the members and pool entries that the words name. The judged class is class 2, her method 1. -/
namespace start1
open Jvm.ClassFile
def u (s : String) : CpInfo := .utf8 (stringToUtf16 s)
/-- a pool by its gaps: so many unusable entries, then the entry; so many at the end -/
def gap : Nat → List CpInfo → List CpInfo
  | 0, r => r
  | n + 1, r => .unusable :: gap n r
def poolList (es : List (Nat × CpInfo)) (last : Nat) : List CpInfo := es.foldr (fun e r => gap e.1 (e.2 :: r)) (gap last [])
def pool (es : List (Nat × CpInfo)) (last : Nat) : Array CpInfo := ⟨poolList es last⟩
def fileOf (pool : Array CpInfo) (this : Nat) (attrs : Array Attribute := #[]) (ms : Array MethodInfo := #[]) (fl : Nat := 33) (sup : Nat := 0) (ifs : Array Nat := #[]) (fds : Array FieldInfo := #[]) : ClassFile where
  minorVersion := 0
  majorVersion := 65
  constantPool := pool
  accessFlags := fl
  thisClass := this
  superClass := sup
  interfaces := ifs
  fields := fds
  methods := ms
  attributes := attrs
def plain (name : String) (sup : Option ClassId) : Class where
  name := name
  kind := .ordinary
  loader := none
  accessFlags := 33
  super := sup
  interfaces := #[]
  cf := none
  fields := #[]
  methods := #[]
  instanceTypes := #[]
  staticTypes := #[]
  resolved := #[]
  callSites := []
  init := .initialized
  statics := none
  mirror := none

def pool0 : Array CpInfo := pool [(5, u "<init>"), (0, u "()V"), (1, .class_ 10), (1, u "java/lang/Object")] 113

def k0c0 : Code := { maxStack := 0, maxLocals := 1, code := object_method_1_code, exceptionTable := #[], attributes := #[] }
def k0m0 : Method := { name := "<init>", desc := "()V", sig := { parameters := [], returnType := none }, accessFlags := 1, code := some k0c0 }
/-- java/lang/Object -/
def k0 : Class := { plain "java/lang/Object" none with
  accessFlags := 33
  interfaces := #[]
  cf := some (fileOf pool0 8 #[] #[{ accessFlags := 1, nameIndex := 5, descriptorIndex := 6, attributes := #[] }] 33 0 #[] #[])
  fields := #[]
  methods := #[k0m0]
  instanceTypes := #[]
  staticTypes := #[]
  resolved := Array.replicate 124 none
  statics := none }

def pool1 : Array CpInfo := pool [(1, .methodref 2 3), (0, .class_ 4), (0, .nameAndType 5 6), (0, u "java/lang/Object"), (0, u "<init>"), (0, u "()V"), (0, .class_ 8), (0, u "com/example/libgate/libgate/BucketRate"), (0, .fieldref 10 11), (0, .class_ 12), (0, .nameAndType 13 14), (0, u "com/example/libgate/libgate/BucketBuilder"), (0, u "burstPermits"), (0, u "I"), (0, .methodref 16 17), (0, .class_ 18), (0, .nameAndType 19 20), (0, u "com/example/libgate/libgate/Requests"), (0, u "checkPermits"), (0, u "(I)V"), (0, .string 22), (0, u "period"), (0, .methodref 24 25), (0, .class_ 26), (0, .nameAndType 27 28), (0, u "java/util/Objects"), (0, u "requireNonNull"), (0, u "(Ljava/lang/Object;Ljava/lang/String;)Ljava/lang/Object;"), (0, .methodref 30 31), (0, .class_ 32), (0, .nameAndType 33 34), (0, u "java/time/Duration"), (0, u "isZero"), (0, u "()Z"), (0, .methodref 30 36), (0, .nameAndType 37 34), (0, u "isNegative"), (15, .methodref 7 54), (0, .nameAndType 55 56), (0, u "seconds"), (0, u "(Ljava/time/Duration;)D"), (0, .fieldref 10 58), (0, .nameAndType 59 60), (0, u "permitsPerSecond"), (0, u "D"), (0, .methodref 10 62), (0, .nameAndType 63 64), (0, u "self"), (0, u "()Lcom/example/libgate/libgate/BucketBuilder;"), (8, .methodref 7 74), (0, .nameAndType 75 76), (0, u "withBurst"), (0, u "(DI)Lcom/example/libgate/libgate/BucketRate;"), (2, u "rate"), (0, u "(ILjava/time/Duration;)Lcom/example/libgate/libgate/BucketBuilder;"), (3, u "burst"), (0, u "(I)Lcom/example/libgate/libgate/BucketBuilder;"), (1, u "bucketRate"), (0, u "()Lcom/example/libgate/libgate/BucketRate;")] 21

def k1c0 : Code := { maxStack := 2, maxLocals := 1, code := prog_1_method_1_code, exceptionTable := #[], attributes := #[] }
def k1m0 : Method := { name := "<init>", desc := "()V", sig := { parameters := [], returnType := none }, accessFlags := 4, code := some k1c0 }
def k1c1 : Code := { maxStack := 5, maxLocals := 3, code := prog_1_method_2_code, exceptionTable := #[], attributes := #[] }
def k1m1 : Method := { name := "rate", desc := "(ILjava/time/Duration;)Lcom/example/libgate/libgate/BucketBuilder;", sig := { parameters := [.int, (.object "java/time/Duration")], returnType := some (.object "com/example/libgate/libgate/BucketBuilder") }, accessFlags := 1, code := some k1c1 }
def k1c2 : Code := { maxStack := 3, maxLocals := 2, code := prog_1_method_3_code, exceptionTable := #[], attributes := #[] }
def k1m2 : Method := { name := "burst", desc := "(I)Lcom/example/libgate/libgate/BucketBuilder;", sig := { parameters := [.int], returnType := some (.object "com/example/libgate/libgate/BucketBuilder") }, accessFlags := 1, code := some k1c2 }
def k1c3 : Code := { maxStack := 4, maxLocals := 1, code := prog_1_method_4_code, exceptionTable := #[], attributes := #[] }
def k1m3 : Method := { name := "bucketRate", desc := "()Lcom/example/libgate/libgate/BucketRate;", sig := { parameters := [], returnType := some (.object "com/example/libgate/libgate/BucketRate") }, accessFlags := 4, code := some k1c3 }
def k1c4 : Code := { maxStack := 1, maxLocals := 1, code := prog_1_method_5_code, exceptionTable := #[], attributes := #[] }
def k1m4 : Method := { name := "self", desc := "()Lcom/example/libgate/libgate/BucketBuilder;", sig := { parameters := [], returnType := some (.object "com/example/libgate/libgate/BucketBuilder") }, accessFlags := 2, code := some k1c4 }
/-- com/example/libgate/libgate/BucketBuilder -/
def k1 : Class := { plain "com/example/libgate/libgate/BucketBuilder" (some 0) with
  accessFlags := 1057
  interfaces := #[]
  cf := some (fileOf pool1 10 #[] #[{ accessFlags := 4, nameIndex := 5, descriptorIndex := 6, attributes := #[] }, { accessFlags := 1, nameIndex := 79, descriptorIndex := 80, attributes := #[] }, { accessFlags := 1, nameIndex := 84, descriptorIndex := 85, attributes := #[] }, { accessFlags := 4, nameIndex := 87, descriptorIndex := 88, attributes := #[] }, { accessFlags := 2, nameIndex := 63, descriptorIndex := 64, attributes := #[] }] 1057 2 #[] #[{ accessFlags := 2, nameIndex := 59, descriptorIndex := 60, attributes := #[] }, { accessFlags := 2, nameIndex := 13, descriptorIndex := 14, attributes := #[] }])
  fields := #[{ name := "permitsPerSecond", type := .double, accessFlags := 2, slot := 0, constantValue := 0 }, { name := "burstPermits", type := .int, accessFlags := 2, slot := 1, constantValue := 0 }]
  methods := #[k1m0, k1m1, k1m2, k1m3, k1m4]
  instanceTypes := #[.double, .int]
  staticTypes := #[]
  resolved := Array.replicate 110 none
  statics := none }

def pool2 : Array CpInfo := pool [(1, .methodref 2 3), (0, .class_ 4), (0, .nameAndType 5 6), (0, u "com/example/libgate/libgate/BucketBuilder"), (0, u "<init>"), (0, u "()V"), (0, .integer 2147483647), (0, .integer 65535), (0, .methodref 10 11), (0, .class_ 12), (0, .nameAndType 13 14), (0, u "java/time/Duration"), (0, u "ofSeconds"), (0, u "(J)Ljava/time/Duration;"), (0, .class_ 16), (0, u "com/example/libgate/libgate/BucketBuilderBurstPinLaw"), (0, .methodref 15 3), (0, .methodref 15 19), (0, .nameAndType 20 21), (0, u "rate"), (0, u "(ILjava/time/Duration;)Lcom/example/libgate/libgate/BucketBuilder;"), (0, .methodref 15 23), (0, .nameAndType 24 25), (0, u "burst"), (0, u "(I)Lcom/example/libgate/libgate/BucketBuilder;"), (0, .methodref 15 27), (0, .nameAndType 28 29), (0, u "bucketRate"), (0, u "()Lcom/example/libgate/libgate/BucketRate;"), (0, .methodref 31 32), (0, .class_ 33), (0, .nameAndType 34 35), (0, u "com/example/libgate/libgate/BucketRate"), (0, u "maxPermits"), (0, u "()D"), (0, .methodref 31 37), (0, .nameAndType 38 39), (0, u "warmsUp"), (0, u "()Z"), (2, u "law"), (0, u "(IIII)Z")] 5

def k2c0 : Code := { maxStack := 1, maxLocals := 1, code := method_1_code, exceptionTable := #[], attributes := #[] }
def k2m0 : Method := { name := "<init>", desc := "()V", sig := { parameters := [], returnType := none }, accessFlags := 1, code := some k2c0 }
def k2c1 : Code := { maxStack := 4, maxLocals := 14, code := code, exceptionTable := #[], attributes := #[] }
def k2m1 : Method := { name := "law", desc := "(IIII)Z", sig := { parameters := [.int, .int, .int, .int], returnType := some .boolean }, accessFlags := 9, code := some k2c1 }
/-- com/example/libgate/libgate/BucketBuilderBurstPinLaw -/
def k2 : Class := { plain "com/example/libgate/libgate/BucketBuilderBurstPinLaw" (some 1) with
  accessFlags := 49
  interfaces := #[]
  cf := some (fileOf pool2 15 #[] #[{ accessFlags := 1, nameIndex := 5, descriptorIndex := 6, attributes := #[] }, { accessFlags := 9, nameIndex := 42, descriptorIndex := 43, attributes := #[] }] 49 2 #[] #[])
  fields := #[]
  methods := #[k2m0, k2m1]
  instanceTypes := #[.double, .int]
  staticTypes := #[]
  resolved := Array.replicate 49 none
  statics := none }

def pool3 : Array CpInfo := pool [(1, .class_ 2), (0, u "java/time/temporal/TemporalAmount"), (0, .class_ 4), (0, u "java/lang/Object")] 11

/-- java/time/temporal/TemporalAmount -/
def k3 : Class := { plain "java/time/temporal/TemporalAmount" (some 0) with
  accessFlags := 1537
  interfaces := #[]
  cf := some (fileOf pool3 1 #[] #[] 1537 3 #[] #[])
  fields := #[]
  methods := #[]
  instanceTypes := #[]
  staticTypes := #[]
  resolved := Array.replicate 16 none
  statics := none }

def pool4 : Array CpInfo := pool [(1, .class_ 2), (0, u "java/lang/Comparable"), (0, .class_ 4), (0, u "java/lang/Object")] 7

/-- java/lang/Comparable -/
def k4 : Class := { plain "java/lang/Comparable" (some 0) with
  accessFlags := 1537
  interfaces := #[]
  cf := some (fileOf pool4 1 #[] #[] 1537 3 #[] #[])
  fields := #[]
  methods := #[]
  instanceTypes := #[]
  staticTypes := #[]
  resolved := Array.replicate 12 none
  statics := none }

def pool5 : Array CpInfo := pool [(1, .class_ 2), (0, u "java/io/Serializable"), (0, .class_ 4), (0, u "java/lang/Object")] 2

/-- java/io/Serializable -/
def k5 : Class := { plain "java/io/Serializable" (some 0) with
  accessFlags := 1537
  interfaces := #[]
  cf := some (fileOf pool5 1 #[] #[] 1537 3 #[] #[])
  fields := #[]
  methods := #[]
  instanceTypes := #[]
  staticTypes := #[]
  resolved := Array.replicate 7 none
  statics := none }

def pool6 : Array CpInfo := pool [(10, .methodref 11 12), (0, .class_ 13), (0, .nameAndType 14 15), (0, u "java/time/Duration"), (0, u "create"), (0, u "(JI)Ljava/time/Duration;"), (18, u "ZERO"), (0, u "Ljava/time/Duration;"), (13, .class_ 51), (1, u "java/time/temporal/TemporalAmount"), (13, u "()Z"), (13, .class_ 81), (1, u "java/time/Duration$Lazy"), (35, u "seconds"), (21, u "<init>"), (17, .nameAndType 139 158), (0, u "()V"), (19, u "ofSeconds"), (20, u "(J)Ljava/time/Duration;"), (15, .methodref 11 216), (0, .nameAndType 139 217), (0, u "(JI)V"), (0, .methodref 219 157), (0, .class_ 220), (0, u "java/lang/Object"), (0, .fieldref 11 222), (0, .nameAndType 117 223), (0, u "J"), (0, .fieldref 11 225), (0, .nameAndType 226 227), (0, u "nanos"), (0, u "I"), (11, .class_ 241), (1, u "java/time/Duration$DurationUnits"), (8, u "getSeconds"), (0, u "()J"), (2, u "getNano"), (0, u "()I"), (13, .class_ 271), (1, u "java/time/Duration$1"), (91, u "BI_NANOS_PER_SECOND"), (0, u "Ljava/math/BigInteger;"), (21, u "isNegative"), (98, .class_ 486), (0, u "java/lang/Comparable"), (0, .class_ 488), (0, u "java/io/Serializable"), (0, u "serialVersionUID"), (66, u "isZero")] 99

def k6c0 : Code := { maxStack := 3, maxLocals := 2, code := jdk_2316_method_4_code, exceptionTable := #[], attributes := #[] }
def k6m0 : Method := { name := "ofSeconds", desc := "(J)Ljava/time/Duration;", sig := { parameters := [.long], returnType := some (.object "java/time/Duration") }, accessFlags := 9, code := some k6c0 }
def k6c1 : Code := { maxStack := 5, maxLocals := 3, code := jdk_2316_method_16_code, exceptionTable := #[], attributes := #[] }
def k6m1 : Method := { name := "create", desc := "(JI)Ljava/time/Duration;", sig := { parameters := [.long, .int], returnType := some (.object "java/time/Duration") }, accessFlags := 10, code := some k6c1 }
def k6c2 : Code := { maxStack := 3, maxLocals := 4, code := jdk_2316_method_17_code, exceptionTable := #[], attributes := #[] }
def k6m2 : Method := { name := "<init>", desc := "(JI)V", sig := { parameters := [.long, .int], returnType := none }, accessFlags := 2, code := some k6c2 }
def k6c3 : Code := { maxStack := 4, maxLocals := 1, code := jdk_2316_method_21_code, exceptionTable := #[], attributes := #[] }
def k6m3 : Method := { name := "isZero", desc := "()Z", sig := { parameters := [], returnType := some .boolean }, accessFlags := 1, code := some k6c3 }
def k6c4 : Code := { maxStack := 4, maxLocals := 1, code := jdk_2316_method_22_code, exceptionTable := #[], attributes := #[] }
def k6m4 : Method := { name := "isNegative", desc := "()Z", sig := { parameters := [], returnType := some .boolean }, accessFlags := 1, code := some k6c4 }
def k6c5 : Code := { maxStack := 2, maxLocals := 1, code := jdk_2316_method_23_code, exceptionTable := #[], attributes := #[] }
def k6m5 : Method := { name := "getSeconds", desc := "()J", sig := { parameters := [], returnType := some .long }, accessFlags := 1, code := some k6c5 }
def k6c6 : Code := { maxStack := 1, maxLocals := 1, code := jdk_2316_method_24_code, exceptionTable := #[], attributes := #[] }
def k6m6 : Method := { name := "getNano", desc := "()I", sig := { parameters := [], returnType := some .int }, accessFlags := 1, code := some k6c6 }
/-- java/time/Duration -/
def k6 : Class := { plain "java/time/Duration" (some 0) with
  accessFlags := 49
  interfaces := #[3, 4, 5]
  cf := some (fileOf pool6 11 #[.nestMembers #[269, 239, 79]] #[{ accessFlags := 9, nameIndex := 178, descriptorIndex := 199, attributes := #[] }, { accessFlags := 10, nameIndex := 14, descriptorIndex := 15, attributes := #[] }, { accessFlags := 2, nameIndex := 139, descriptorIndex := 217, attributes := #[] }, { accessFlags := 1, nameIndex := 556, descriptorIndex := 65, attributes := #[] }, { accessFlags := 1, nameIndex := 386, descriptorIndex := 65, attributes := #[] }, { accessFlags := 1, nameIndex := 250, descriptorIndex := 251, attributes := #[] }, { accessFlags := 1, nameIndex := 254, descriptorIndex := 255, attributes := #[] }] 49 219 #[49, 485, 487] #[{ accessFlags := 25, nameIndex := 34, descriptorIndex := 35, attributes := #[] }, { accessFlags := 26, nameIndex := 489, descriptorIndex := 223, attributes := #[] }, { accessFlags := 26, nameIndex := 363, descriptorIndex := 364, attributes := #[] }, { accessFlags := 18, nameIndex := 117, descriptorIndex := 223, attributes := #[] }, { accessFlags := 18, nameIndex := 226, descriptorIndex := 227, attributes := #[] }])
  fields := #[{ name := "ZERO", type := (.object "java/time/Duration"), accessFlags := 25, slot := 0, constantValue := 0 }, { name := "serialVersionUID", type := .long, accessFlags := 26, slot := 1, constantValue := 0 }, { name := "BI_NANOS_PER_SECOND", type := (.object "java/math/BigInteger"), accessFlags := 26, slot := 2, constantValue := 0 }, { name := "seconds", type := .long, accessFlags := 18, slot := 0, constantValue := 0 }, { name := "nanos", type := .int, accessFlags := 18, slot := 1, constantValue := 0 }]
  methods := #[k6m0, k6m1, k6m2, k6m3, k6m4, k6m5, k6m6]
  instanceTypes := #[.long, .int]
  staticTypes := #[(.object "java/time/Duration"), .long, (.object "java/math/BigInteger")]
  resolved := Array.replicate 656 none
  statics := none }

def pool7 : Array CpInfo := pool [(2, .class_ 4), (1, u "java/lang/Object"), (0, u "<init>"), (0, u "()V"), (24, .class_ 33), (1, u "com/example/libgate/libgate/Requests"), (0, u "LONGEST_NANOS"), (0, u "Ljava/time/Duration;"), (18, u "NANOS_PER_SECOND"), (0, u "D"), (3, u "checkPermits"), (0, u "(I)V")] 23

def k7m0 : Method := { name := "<init>", desc := "()V", sig := { parameters := [], returnType := none }, accessFlags := 2, code := none }
def k7c1 : Code := { maxStack := 3, maxLocals := 1, code := prog_8_method_2_code, exceptionTable := #[], attributes := #[] }
def k7m1 : Method := { name := "checkPermits", desc := "(I)V", sig := { parameters := [.int], returnType := none }, accessFlags := 9, code := some k7c1 }
/-- com/example/libgate/libgate/Requests -/
def k7 : Class := { plain "com/example/libgate/libgate/Requests" (some 0) with
  accessFlags := 33
  interfaces := #[]
  cf := some (fileOf pool7 31 #[] #[{ accessFlags := 2, nameIndex := 5, descriptorIndex := 6, attributes := #[] }, { accessFlags := 9, nameIndex := 59, descriptorIndex := 60, attributes := #[] }] 33 2 #[] #[{ accessFlags := 26, nameIndex := 54, descriptorIndex := 55, attributes := #[] }, { accessFlags := 24, nameIndex := 34, descriptorIndex := 35, attributes := #[] }])
  fields := #[{ name := "NANOS_PER_SECOND", type := .double, accessFlags := 26, slot := 0, constantValue := 0 }, { name := "LONGEST_NANOS", type := (.object "java/time/Duration"), accessFlags := 24, slot := 1, constantValue := 0 }]
  methods := #[k7m0, k7m1]
  instanceTypes := #[]
  staticTypes := #[.double, (.object "java/time/Duration")]
  resolved := Array.replicate 84 none
  statics := none }

def pool8 : Array CpInfo := pool [(2, .class_ 4), (1, u "java/lang/CharSequence"), (42, .class_ 48), (0, u "java/lang/CharSequence$1CodePointIterator"), (10, .class_ 60), (0, u "java/lang/CharSequence$1CharIterator"), (5, .class_ 67), (0, u "java/lang/Object")] 63

/-- java/lang/CharSequence -/
def k8 : Class := { plain "java/lang/CharSequence" (some 0) with
  accessFlags := 1537
  interfaces := #[]
  cf := some (fileOf pool8 2 #[.nestMembers #[47, 59]] #[] 1537 66 #[] #[])
  fields := #[]
  methods := #[]
  instanceTypes := #[]
  staticTypes := #[]
  resolved := Array.replicate 131 none
  statics := none }

def pool9 : Array CpInfo := pool [(1, .class_ 2), (0, u "java/lang/constant/Constable"), (0, .class_ 4), (0, u "java/lang/Object")] 6

/-- java/lang/constant/Constable -/
def k9 : Class := { plain "java/lang/constant/Constable" (some 0) with
  accessFlags := 1537
  interfaces := #[]
  cf := some (fileOf pool9 1 #[] #[] 1537 3 #[] #[])
  fields := #[]
  methods := #[]
  instanceTypes := #[]
  staticTypes := #[]
  resolved := Array.replicate 11 none
  statics := none }

def pool10 : Array CpInfo := pool [(1, .class_ 2), (0, u "java/lang/constant/ConstantDesc"), (0, .class_ 4), (0, u "java/lang/Object")] 32

/-- java/lang/constant/ConstantDesc -/
def k10 : Class := { plain "java/lang/constant/ConstantDesc" (some 0) with
  accessFlags := 1537
  interfaces := #[]
  cf := some (fileOf pool10 1 #[] #[] 1537 3 #[] #[])
  fields := #[]
  methods := #[]
  instanceTypes := #[]
  staticTypes := #[]
  resolved := Array.replicate 37 none
  statics := none }

def pool11 : Array CpInfo := pool [(2, .class_ 4), (1, u "java/lang/Object"), (0, u "<init>"), (0, u "()V"), (3, .class_ 12), (1, u "java/lang/String"), (0, u "value"), (0, u "[B"), (2, u "coder"), (0, u "B"), (2, u "hash"), (0, u "I"), (2, u "hashIsZero"), (0, u "Z"), (13, u "COMPACT_STRINGS"), (534, .class_ 576), (0, u "java/lang/CharSequence"), (22, u "CASE_INSENSITIVE_ORDER"), (0, u "Ljava/util/Comparator;"), (500, u "serialPersistentFields"), (0, u "[Ljava/io/ObjectStreamField;"), (0, .class_ 1104), (0, u "java/lang/String$CaseInsensitiveComparator"), (1, .class_ 1107), (0, u "java/io/Serializable"), (0, .class_ 1109), (0, u "java/lang/Comparable"), (0, .class_ 1111), (0, u "java/lang/constant/Constable"), (0, .class_ 1113), (0, u "java/lang/constant/ConstantDesc"), (2, u "serialVersionUID"), (0, u "J"), (3, u "REPL"), (0, u "C"), (2, u "LATIN1"), (1, u "UTF16")] 323

def k11m0 : Method := { name := "<init>", desc := "()V", sig := { parameters := [], returnType := none }, accessFlags := 1, code := none }
/-- java/lang/String -/
def k11 : Class := { plain "java/lang/String" (some 0) with
  accessFlags := 49
  interfaces := #[5, 4, 8, 9, 10]
  cf := some (fileOf pool11 10 #[.nestMembers #[1103]] #[{ accessFlags := 1, nameIndex := 5, descriptorIndex := 6, attributes := #[] }] 49 2 #[1106, 1108, 575, 1110, 1112] #[{ accessFlags := 18, nameIndex := 13, descriptorIndex := 14, attributes := #[] }, { accessFlags := 18, nameIndex := 17, descriptorIndex := 18, attributes := #[] }, { accessFlags := 2, nameIndex := 21, descriptorIndex := 22, attributes := #[] }, { accessFlags := 2, nameIndex := 25, descriptorIndex := 26, attributes := #[] }, { accessFlags := 26, nameIndex := 1116, descriptorIndex := 1117, attributes := #[] }, { accessFlags := 24, nameIndex := 40, descriptorIndex := 26, attributes := #[] }, { accessFlags := 26, nameIndex := 1101, descriptorIndex := 1102, attributes := #[] }, { accessFlags := 26, nameIndex := 1121, descriptorIndex := 1122, attributes := #[] }, { accessFlags := 25, nameIndex := 599, descriptorIndex := 600, attributes := #[] }, { accessFlags := 24, nameIndex := 1125, descriptorIndex := 18, attributes := #[] }, { accessFlags := 24, nameIndex := 1127, descriptorIndex := 18, attributes := #[] }])
  fields := #[{ name := "value", type := (.array .byte), accessFlags := 18, slot := 0, constantValue := 0 }, { name := "coder", type := .byte, accessFlags := 18, slot := 1, constantValue := 0 }, { name := "hash", type := .int, accessFlags := 2, slot := 2, constantValue := 0 }, { name := "hashIsZero", type := .boolean, accessFlags := 2, slot := 3, constantValue := 0 }, { name := "serialVersionUID", type := .long, accessFlags := 26, slot := 0, constantValue := 0 }, { name := "COMPACT_STRINGS", type := .boolean, accessFlags := 24, slot := 1, constantValue := 0 }, { name := "serialPersistentFields", type := (.array (.object "java/io/ObjectStreamField")), accessFlags := 26, slot := 2, constantValue := 0 }, { name := "REPL", type := .char, accessFlags := 26, slot := 3, constantValue := 0 }, { name := "CASE_INSENSITIVE_ORDER", type := (.object "java/util/Comparator"), accessFlags := 25, slot := 4, constantValue := 0 }, { name := "LATIN1", type := .byte, accessFlags := 24, slot := 5, constantValue := 0 }, { name := "UTF16", type := .byte, accessFlags := 24, slot := 6, constantValue := 0 }]
  methods := #[k11m0]
  instanceTypes := #[(.array .byte), .byte, .int, .boolean]
  staticTypes := #[.long, .boolean, (.array (.object "java/io/ObjectStreamField")), .char, (.object "java/util/Comparator"), .byte, .byte]
  resolved := Array.replicate 1451 none
  statics := none }

def pool12 : Array CpInfo := pool [(2, .class_ 4), (1, u "java/lang/Object"), (0, u "<init>"), (0, u "()V"), (35, .class_ 44), (1, u "java/util/Objects"), (0, u "requireNonNull"), (48, u "(Ljava/lang/Object;Ljava/lang/String;)Ljava/lang/Object;")] 89

def k12m0 : Method := { name := "<init>", desc := "()V", sig := { parameters := [], returnType := none }, accessFlags := 2, code := none }
def k12c1 : Code := { maxStack := 3, maxLocals := 2, code := jdk_31_method_11_code, exceptionTable := #[], attributes := #[] }
def k12m1 : Method := { name := "requireNonNull", desc := "(Ljava/lang/Object;Ljava/lang/String;)Ljava/lang/Object;", sig := { parameters := [(.object "java/lang/Object"), (.object "java/lang/String")], returnType := some (.object "java/lang/Object") }, accessFlags := 9, code := some k12c1 }
/-- java/util/Objects -/
def k12 : Class := { plain "java/util/Objects" (some 0) with
  accessFlags := 49
  interfaces := #[]
  cf := some (fileOf pool12 42 #[] #[{ accessFlags := 2, nameIndex := 5, descriptorIndex := 6, attributes := #[] }, { accessFlags := 9, nameIndex := 45, descriptorIndex := 94, attributes := #[] }] 49 2 #[] #[])
  fields := #[]
  methods := #[k12m0, k12m1]
  instanceTypes := #[]
  staticTypes := #[]
  resolved := Array.replicate 184 none
  statics := none }

def pool13 : Array CpInfo := pool [(1, .methodref 2 3), (0, .class_ 4), (0, .nameAndType 5 6), (0, u "java/lang/Object"), (0, u "<init>"), (0, u "()V"), (0, .fieldref 8 9), (0, .class_ 10), (0, .nameAndType 11 12), (0, u "com/example/libgate/libgate/BucketRate"), (0, u "permitsPerSecond"), (0, u "D"), (0, .fieldref 8 14), (0, .nameAndType 15 16), (0, u "burstPermits"), (0, u "I"), (0, .fieldref 8 18), (0, .nameAndType 19 12), (0, u "warmupNanos"), (0, .double 4741671816366391296), (1, .fieldref 8 23), (0, .nameAndType 24 12), (0, u "intervalNanos"), (0, .double 4613937818241073152), (1, .double 4602678819172646912), (1, .fieldref 8 30), (0, .nameAndType 31 12), (0, u "thresholdPermits"), (0, .double 4611686018427387904), (1, .fieldref 8 35), (0, .nameAndType 36 12), (0, u "maxPermits"), (2, .double 9218868437227405312), (1, .fieldref 8 42), (0, .nameAndType 43 12), (0, u "slopeNanos"), (0, .methodref 8 45), (0, .nameAndType 5 46), (0, u "(DID)V"), (2, u "seconds"), (0, u "(Ljava/time/Duration;)D"), (4, .methodref 56 57), (0, .class_ 58), (0, .nameAndType 59 60), (0, u "java/time/Duration"), (0, u "getSeconds"), (0, u "()J"), (0, .methodref 56 62), (0, .nameAndType 63 64), (0, u "getNano"), (0, u "()I"), (0, u "DEFAULT_BURST"), (2, u "NANOS_PER_SECOND"), (0, u "DEFAULT_BURST_SECONDS"), (2, u "NO_WARMUP"), (2, u "COLD_FACTOR"), (3, u "withBurst"), (0, u "(DI)Lcom/example/libgate/libgate/BucketRate;"), (4, u "()D"), (0, u "warmsUp"), (0, u "()Z")] 3

def k13c0 : Code := { maxStack := 9, maxLocals := 10, code := prog_3_method_1_code, exceptionTable := #[], attributes := #[] }
def k13m0 : Method := { name := "<init>", desc := "(DID)V", sig := { parameters := [.double, .int, .double], returnType := none }, accessFlags := 2, code := some k13c0 }
def k13c1 : Code := { maxStack := 7, maxLocals := 3, code := prog_3_method_2_code, exceptionTable := #[], attributes := #[] }
def k13m1 : Method := { name := "withBurst", desc := "(DI)Lcom/example/libgate/libgate/BucketRate;", sig := { parameters := [.double, .int], returnType := some (.object "com/example/libgate/libgate/BucketRate") }, accessFlags := 8, code := some k13c1 }
def k13c2 : Code := { maxStack := 2, maxLocals := 1, code := prog_3_method_6_code, exceptionTable := #[], attributes := #[] }
def k13m2 : Method := { name := "maxPermits", desc := "()D", sig := { parameters := [], returnType := some .double }, accessFlags := 1, code := some k13c2 }
def k13c3 : Code := { maxStack := 4, maxLocals := 1, code := prog_3_method_7_code, exceptionTable := #[], attributes := #[] }
def k13m3 : Method := { name := "warmsUp", desc := "()Z", sig := { parameters := [], returnType := some .boolean }, accessFlags := 0, code := some k13c3 }
def k13c4 : Code := { maxStack := 6, maxLocals := 1, code := prog_3_method_9_code, exceptionTable := #[], attributes := #[] }
def k13m4 : Method := { name := "seconds", desc := "(Ljava/time/Duration;)D", sig := { parameters := [(.object "java/time/Duration")], returnType := some .double }, accessFlags := 8, code := some k13c4 }
/-- com/example/libgate/libgate/BucketRate -/
def k13 : Class := { plain "com/example/libgate/libgate/BucketRate" (some 0) with
  accessFlags := 33
  interfaces := #[]
  cf := some (fileOf pool13 8 #[] #[{ accessFlags := 2, nameIndex := 5, descriptorIndex := 46, attributes := #[] }, { accessFlags := 8, nameIndex := 79, descriptorIndex := 80, attributes := #[] }, { accessFlags := 1, nameIndex := 36, descriptorIndex := 85, attributes := #[] }, { accessFlags := 0, nameIndex := 86, descriptorIndex := 87, attributes := #[] }, { accessFlags := 8, nameIndex := 49, descriptorIndex := 50, attributes := #[] }] 33 2 #[] #[{ accessFlags := 24, nameIndex := 65, descriptorIndex := 16, attributes := #[] }, { accessFlags := 26, nameIndex := 68, descriptorIndex := 12, attributes := #[] }, { accessFlags := 26, nameIndex := 69, descriptorIndex := 12, attributes := #[] }, { accessFlags := 26, nameIndex := 72, descriptorIndex := 12, attributes := #[] }, { accessFlags := 26, nameIndex := 75, descriptorIndex := 12, attributes := #[] }, { accessFlags := 16, nameIndex := 11, descriptorIndex := 12, attributes := #[] }, { accessFlags := 16, nameIndex := 15, descriptorIndex := 16, attributes := #[] }, { accessFlags := 16, nameIndex := 19, descriptorIndex := 12, attributes := #[] }, { accessFlags := 16, nameIndex := 24, descriptorIndex := 12, attributes := #[] }, { accessFlags := 16, nameIndex := 36, descriptorIndex := 12, attributes := #[] }, { accessFlags := 16, nameIndex := 31, descriptorIndex := 12, attributes := #[] }, { accessFlags := 16, nameIndex := 43, descriptorIndex := 12, attributes := #[] }])
  fields := #[{ name := "DEFAULT_BURST", type := .int, accessFlags := 24, slot := 0, constantValue := 0 }, { name := "NANOS_PER_SECOND", type := .double, accessFlags := 26, slot := 1, constantValue := 0 }, { name := "DEFAULT_BURST_SECONDS", type := .double, accessFlags := 26, slot := 2, constantValue := 0 }, { name := "NO_WARMUP", type := .double, accessFlags := 26, slot := 3, constantValue := 0 }, { name := "COLD_FACTOR", type := .double, accessFlags := 26, slot := 4, constantValue := 0 }, { name := "permitsPerSecond", type := .double, accessFlags := 16, slot := 0, constantValue := 0 }, { name := "burstPermits", type := .int, accessFlags := 16, slot := 1, constantValue := 0 }, { name := "warmupNanos", type := .double, accessFlags := 16, slot := 2, constantValue := 0 }, { name := "intervalNanos", type := .double, accessFlags := 16, slot := 3, constantValue := 0 }, { name := "maxPermits", type := .double, accessFlags := 16, slot := 4, constantValue := 0 }, { name := "thresholdPermits", type := .double, accessFlags := 16, slot := 5, constantValue := 0 }, { name := "slopeNanos", type := .double, accessFlags := 16, slot := 6, constantValue := 0 }]
  methods := #[k13m0, k13m1, k13m2, k13m3, k13m4]
  instanceTypes := #[.double, .int, .double, .double, .double, .double, .double]
  staticTypes := #[.int, .double, .double, .double, .double]
  resolved := Array.replicate 91 none
  statics := none }

def pool14 : Array CpInfo := pool [(1, u "java/lang/Cloneable"), (0, .class_ 1), (0, u "java/lang/Object"), (0, .class_ 3)] 3

/-- java/lang/Cloneable -/
def k14 : Class := { plain "java/lang/Cloneable" (some 0) with
  accessFlags := 1537
  interfaces := #[]
  cf := some (fileOf pool14 2 #[] #[] 1537 4 #[] #[])
  fields := #[]
  methods := #[]
  instanceTypes := #[]
  staticTypes := #[]
  resolved := Array.replicate 8 none
  statics := none }

/-- the primitive byte -/
def k15 : Class := { plain "byte" none with kind := .primitive 'B', accessFlags := 0x411 }
/-- [B -/
def k16 : Class := { plain "[B" (some 0) with kind := .array 15 .byte, interfaces := #[14, 5], accessFlags := 1041 }

/-- the primitive int -/
def k17 : Class := { plain "int" none with kind := .primitive 'I', accessFlags := 0x411 }
/-- [I -/
def k18 : Class := { plain "[I" (some 0) with kind := .array 17 .int, interfaces := #[14, 5], accessFlags := 1041 }

def heap : Heap := #[]
def classes : Array Class := #[k0, k1, k2, k3, k4, k5, k6, k7, k8, k9, k10, k11, k12, k13, k14, k15, k16, k17, k18]
def interned : List (Array UInt16 × Addr) := []
def slotsUsed : Nat := 0
def theMethod : MethodId := ⟨2, 1⟩
def args0 : Array Value := #[.int 5, .int 7, .int 3, .int 2]
def aboutOver (below : List Frame) : State where
  vm := { classes := classes, interned := interned.toArray }
  heap := heap
  slotsUsed := slotsUsed
  threads := #[{ frames := .invoking theMethod args0 :: below }]
def below0 : List Frame := [.native { method := ⟨0, 0⟩, args := #[] }]
def about1 : State := aboutOver below0
def p0 : Program := .bare "" "" ""
def e0 : Env := launch0.env 0 0 0
theorem w_frames : about1.frames = Frame.invoking theMethod args0 :: below0 := rfl
set_option maxRecDepth 65536 in
theorem w_args : argsFit about1.vm theMethod args0 = true := by decide +kernel
set_option maxRecDepth 65536 in
theorem w_heap : heapFits about1 = true := by decide +kernel
set_option maxRecDepth 65536 in
theorem w_runnable : about1.curStatus? = some .runnable := by decide +kernel
set_option maxRecDepth 65536 in
theorem w_alone : about1.alone = true := by decide +kernel
set_option maxRecDepth 65536 in
theorem w_named : about1.methodNamed? x = some theMethod := by decide +kernel
set_option maxRecDepth 65536 in
theorem w_hears : about1.hears theMethod below0 = true := by decide +kernel
set_option maxRecDepth 65536 in
theorem w_ripe : about1.ripe theMethod args0 below0 = true := by decide +kernel
theorem w_running : about1.status = .running := rfl
set_option maxRecDepth 65536 in
theorem w_room : about1.hasRoom e0.platform room_1 = true :=
  launch0.hasRoom_least _ room_1 (by decide +kernel) (by decide +kernel) (by decide +kernel) (by decide +kernel) (by decide +kernel) (by decide +kernel)
theorem allAtoms_all (ts : List Jvm.Cond) (a : Array Jvm.Value) (st : Jvm.State) : (allAtoms ts).before a st = ts.all (fun c => c.before a st) := by
  induction ts with
  | nil => rfl
  | cons c t ih =>
    show (Jvm.Cond.and c (allAtoms t)).before a st = _
    rw [Jvm.Cond.before_and, ih, List.all_cons]
def words1 : List Jvm.Cond := Jvm.Cond.code x code maxLocals ret :: tables_1
/-- a 'code' word, met by the world's own term for the bytes: nothing is compared byte by byte -/
theorem code_word {y : MethodName} {bytes : ByteArray} {mx : Nat} {rt : Option FieldType} {a : Array Value} {s : State} {m : MethodId} {meth : Method} {c : Code} (h1 : s.methodNamed? y = some m) (h2 : s.vm.method? m = some meth) (h3 : meth.code = some c) (h4 : c.code = bytes)
    (h5 : (c.maxLocals == mx && c.exceptionTable.isEmpty && decide (c.maxStack ≤ mostOperands) && decide (meth.sig.returnType = rt) && !meth.locks && decide (parseMethodDescriptor y.desc = some meth.sig)) = true) : (Jvm.Cond.code y bytes mx rt).before a s = true := by
  simp only [Bool.and_eq_true, beq_iff_eq, Bool.not_eq_true', decide_eq_true_eq] at h5
  obtain ⟨⟨⟨⟨⟨g1, g2⟩, g3⟩, g4⟩, g5⟩, g6⟩ := h5
  simp [Cond.before, Cond.holds, Cond.value, h1, h2, h3, h4, g1, g2, g3, g4, g5, g6]
def isCode : Jvm.Cond → Bool
  | .code _ _ _ _ => true
  | _ => false
theorem all_split {L : List Jvm.Cond} {P : Jvm.Cond → Bool} (h1 : L.all (fun c => isCode c || P c) = true) (h2 : ∀ c ∈ L.filter isCode, P c = true) : L.all P = true := by
  refine List.all_eq_true.mpr fun c hc => ?_
  have h := List.all_eq_true.mp h1 c hc
  rcases Bool.eq_false_or_eq_true (isCode c) with hi | hi
  · exact h2 c (List.mem_filter.mpr ⟨hc, hi⟩)
  · simpa [hi] using h
set_option maxRecDepth 65536 in
theorem w_c0 : (Jvm.Cond.code x code maxLocals ret).before args0 about1 = true := code_word (m := ⟨2, 1⟩) (meth := k2m1) (c := k2c1) (by decide +kernel) rfl rfl rfl (by decide +kernel)
set_option maxRecDepth 65536 in
theorem w_c1 : (Jvm.Cond.code ({ cls := "java/time/Duration", name := "ofSeconds", desc := "(J)Ljava/time/Duration;" } : Jvm.MethodName) jdk_2316_method_4_code (2 : Nat) (Option.some (Jvm.ClassFile.FieldType.object "java/time/Duration"))).before args0 about1 = true := code_word (m := ⟨6, 0⟩) (meth := k6m0) (c := k6c0) (by decide +kernel) rfl rfl rfl (by decide +kernel)
set_option maxRecDepth 65536 in
theorem w_c2 : (Jvm.Cond.code ({ cls := "java/time/Duration", name := "create", desc := "(JI)Ljava/time/Duration;" } : Jvm.MethodName) jdk_2316_method_16_code (3 : Nat) (Option.some (Jvm.ClassFile.FieldType.object "java/time/Duration"))).before args0 about1 = true := code_word (m := ⟨6, 1⟩) (meth := k6m1) (c := k6c1) (by decide +kernel) rfl rfl rfl (by decide +kernel)
set_option maxRecDepth 65536 in
theorem w_c3 : (Jvm.Cond.code ({ cls := "java/time/Duration", name := "<init>", desc := "(JI)V" } : Jvm.MethodName) jdk_2316_method_17_code (4 : Nat) (Option.none : Option Jvm.ClassFile.FieldType)).before args0 about1 = true := code_word (m := ⟨6, 2⟩) (meth := k6m2) (c := k6c2) (by decide +kernel) rfl rfl rfl (by decide +kernel)
set_option maxRecDepth 65536 in
theorem w_c4 : (Jvm.Cond.code ({ cls := "java/lang/Object", name := "<init>", desc := "()V" } : Jvm.MethodName) object_method_1_code (1 : Nat) (Option.none : Option Jvm.ClassFile.FieldType)).before args0 about1 = true := code_word (m := ⟨0, 0⟩) (meth := k0m0) (c := k0c0) (by decide +kernel) rfl rfl rfl (by decide +kernel)
set_option maxRecDepth 65536 in
theorem w_c5 : (Jvm.Cond.code ({ cls := "com/example/libgate/libgate/BucketBuilderBurstPinLaw", name := "<init>", desc := "()V" } : Jvm.MethodName) method_1_code (1 : Nat) (Option.none : Option Jvm.ClassFile.FieldType)).before args0 about1 = true := code_word (m := ⟨2, 0⟩) (meth := k2m0) (c := k2c0) (by decide +kernel) rfl rfl rfl (by decide +kernel)
set_option maxRecDepth 65536 in
theorem w_c6 : (Jvm.Cond.code ({ cls := "com/example/libgate/libgate/BucketBuilder", name := "<init>", desc := "()V" } : Jvm.MethodName) prog_1_method_1_code (1 : Nat) (Option.none : Option Jvm.ClassFile.FieldType)).before args0 about1 = true := code_word (m := ⟨1, 0⟩) (meth := k1m0) (c := k1c0) (by decide +kernel) rfl rfl rfl (by decide +kernel)
set_option maxRecDepth 65536 in
theorem w_c7 : (Jvm.Cond.code ({ cls := "com/example/libgate/libgate/BucketBuilder", name := "rate", desc := "(ILjava/time/Duration;)Lcom/example/libgate/libgate/BucketBuilder;" } : Jvm.MethodName) prog_1_method_2_code (3 : Nat) (Option.some (Jvm.ClassFile.FieldType.object "com/example/libgate/libgate/BucketBuilder"))).before args0 about1 = true := code_word (m := ⟨1, 1⟩) (meth := k1m1) (c := k1c1) (by decide +kernel) rfl rfl rfl (by decide +kernel)
set_option maxRecDepth 65536 in
theorem w_c8 : (Jvm.Cond.code ({ cls := "com/example/libgate/libgate/Requests", name := "checkPermits", desc := "(I)V" } : Jvm.MethodName) prog_8_method_2_code (1 : Nat) (Option.none : Option Jvm.ClassFile.FieldType)).before args0 about1 = true := code_word (m := ⟨7, 1⟩) (meth := k7m1) (c := k7c1) (by decide +kernel) rfl rfl rfl (by decide +kernel)
set_option maxRecDepth 65536 in
theorem w_c9 : (Jvm.Cond.code ({ cls := "java/util/Objects", name := "requireNonNull", desc := "(Ljava/lang/Object;Ljava/lang/String;)Ljava/lang/Object;" } : Jvm.MethodName) jdk_31_method_11_code (2 : Nat) (Option.some (Jvm.ClassFile.FieldType.object "java/lang/Object"))).before args0 about1 = true := code_word (m := ⟨12, 1⟩) (meth := k12m1) (c := k12c1) (by decide +kernel) rfl rfl rfl (by decide +kernel)
set_option maxRecDepth 65536 in
theorem w_c10 : (Jvm.Cond.code ({ cls := "java/time/Duration", name := "isZero", desc := "()Z" } : Jvm.MethodName) jdk_2316_method_21_code (1 : Nat) (Option.some Jvm.ClassFile.FieldType.boolean)).before args0 about1 = true := code_word (m := ⟨6, 3⟩) (meth := k6m3) (c := k6c3) (by decide +kernel) rfl rfl rfl (by decide +kernel)
set_option maxRecDepth 65536 in
theorem w_c11 : (Jvm.Cond.code ({ cls := "java/time/Duration", name := "isNegative", desc := "()Z" } : Jvm.MethodName) jdk_2316_method_22_code (1 : Nat) (Option.some Jvm.ClassFile.FieldType.boolean)).before args0 about1 = true := code_word (m := ⟨6, 4⟩) (meth := k6m4) (c := k6c4) (by decide +kernel) rfl rfl rfl (by decide +kernel)
set_option maxRecDepth 65536 in
theorem w_c12 : (Jvm.Cond.code ({ cls := "com/example/libgate/libgate/BucketRate", name := "seconds", desc := "(Ljava/time/Duration;)D" } : Jvm.MethodName) prog_3_method_9_code (1 : Nat) (Option.some Jvm.ClassFile.FieldType.double)).before args0 about1 = true := code_word (m := ⟨13, 4⟩) (meth := k13m4) (c := k13c4) (by decide +kernel) rfl rfl rfl (by decide +kernel)
set_option maxRecDepth 65536 in
theorem w_c13 : (Jvm.Cond.code ({ cls := "java/time/Duration", name := "getSeconds", desc := "()J" } : Jvm.MethodName) jdk_2316_method_23_code (1 : Nat) (Option.some Jvm.ClassFile.FieldType.long)).before args0 about1 = true := code_word (m := ⟨6, 5⟩) (meth := k6m5) (c := k6c5) (by decide +kernel) rfl rfl rfl (by decide +kernel)
set_option maxRecDepth 65536 in
theorem w_c14 : (Jvm.Cond.code ({ cls := "java/time/Duration", name := "getNano", desc := "()I" } : Jvm.MethodName) jdk_2316_method_24_code (1 : Nat) (Option.some Jvm.ClassFile.FieldType.int)).before args0 about1 = true := code_word (m := ⟨6, 6⟩) (meth := k6m6) (c := k6c6) (by decide +kernel) rfl rfl rfl (by decide +kernel)
set_option maxRecDepth 65536 in
theorem w_c15 : (Jvm.Cond.code ({ cls := "com/example/libgate/libgate/BucketBuilder", name := "self", desc := "()Lcom/example/libgate/libgate/BucketBuilder;" } : Jvm.MethodName) prog_1_method_5_code (1 : Nat) (Option.some (Jvm.ClassFile.FieldType.object "com/example/libgate/libgate/BucketBuilder"))).before args0 about1 = true := code_word (m := ⟨1, 4⟩) (meth := k1m4) (c := k1c4) (by decide +kernel) rfl rfl rfl (by decide +kernel)
set_option maxRecDepth 65536 in
theorem w_c16 : (Jvm.Cond.code ({ cls := "com/example/libgate/libgate/BucketBuilder", name := "burst", desc := "(I)Lcom/example/libgate/libgate/BucketBuilder;" } : Jvm.MethodName) prog_1_method_3_code (2 : Nat) (Option.some (Jvm.ClassFile.FieldType.object "com/example/libgate/libgate/BucketBuilder"))).before args0 about1 = true := code_word (m := ⟨1, 2⟩) (meth := k1m2) (c := k1c2) (by decide +kernel) rfl rfl rfl (by decide +kernel)
set_option maxRecDepth 65536 in
theorem w_c17 : (Jvm.Cond.code ({ cls := "com/example/libgate/libgate/BucketBuilder", name := "bucketRate", desc := "()Lcom/example/libgate/libgate/BucketRate;" } : Jvm.MethodName) prog_1_method_4_code (1 : Nat) (Option.some (Jvm.ClassFile.FieldType.object "com/example/libgate/libgate/BucketRate"))).before args0 about1 = true := code_word (m := ⟨1, 3⟩) (meth := k1m3) (c := k1c3) (by decide +kernel) rfl rfl rfl (by decide +kernel)
set_option maxRecDepth 65536 in
theorem w_c18 : (Jvm.Cond.code ({ cls := "com/example/libgate/libgate/BucketRate", name := "withBurst", desc := "(DI)Lcom/example/libgate/libgate/BucketRate;" } : Jvm.MethodName) prog_3_method_2_code (3 : Nat) (Option.some (Jvm.ClassFile.FieldType.object "com/example/libgate/libgate/BucketRate"))).before args0 about1 = true := code_word (m := ⟨13, 1⟩) (meth := k13m1) (c := k13c1) (by decide +kernel) rfl rfl rfl (by decide +kernel)
set_option maxRecDepth 65536 in
theorem w_c19 : (Jvm.Cond.code ({ cls := "com/example/libgate/libgate/BucketRate", name := "<init>", desc := "(DID)V" } : Jvm.MethodName) prog_3_method_1_code (10 : Nat) (Option.none : Option Jvm.ClassFile.FieldType)).before args0 about1 = true := code_word (m := ⟨13, 0⟩) (meth := k13m0) (c := k13c0) (by decide +kernel) rfl rfl rfl (by decide +kernel)
set_option maxRecDepth 65536 in
theorem w_c20 : (Jvm.Cond.code ({ cls := "com/example/libgate/libgate/BucketRate", name := "maxPermits", desc := "()D" } : Jvm.MethodName) prog_3_method_6_code (1 : Nat) (Option.some Jvm.ClassFile.FieldType.double)).before args0 about1 = true := code_word (m := ⟨13, 2⟩) (meth := k13m2) (c := k13c2) (by decide +kernel) rfl rfl rfl (by decide +kernel)
set_option maxRecDepth 65536 in
theorem w_c21 : (Jvm.Cond.code ({ cls := "com/example/libgate/libgate/BucketRate", name := "warmsUp", desc := "()Z" } : Jvm.MethodName) prog_3_method_7_code (1 : Nat) (Option.some Jvm.ClassFile.FieldType.boolean)).before args0 about1 = true := code_word (m := ⟨13, 3⟩) (meth := k13m3) (c := k13c3) (by decide +kernel) rfl rfl rfl (by decide +kernel)
def codes1 : List Jvm.Cond := [Jvm.Cond.code x code maxLocals ret, Jvm.Cond.code ({ cls := "java/time/Duration", name := "ofSeconds", desc := "(J)Ljava/time/Duration;" } : Jvm.MethodName) jdk_2316_method_4_code (2 : Nat) (Option.some (Jvm.ClassFile.FieldType.object "java/time/Duration")), Jvm.Cond.code ({ cls := "java/time/Duration", name := "create", desc := "(JI)Ljava/time/Duration;" } : Jvm.MethodName) jdk_2316_method_16_code (3 : Nat) (Option.some (Jvm.ClassFile.FieldType.object "java/time/Duration")), Jvm.Cond.code ({ cls := "java/time/Duration", name := "<init>", desc := "(JI)V" } : Jvm.MethodName) jdk_2316_method_17_code (4 : Nat) (Option.none : Option Jvm.ClassFile.FieldType), Jvm.Cond.code ({ cls := "java/lang/Object", name := "<init>", desc := "()V" } : Jvm.MethodName) object_method_1_code (1 : Nat) (Option.none : Option Jvm.ClassFile.FieldType), Jvm.Cond.code ({ cls := "com/example/libgate/libgate/BucketBuilderBurstPinLaw", name := "<init>", desc := "()V" } : Jvm.MethodName) method_1_code (1 : Nat) (Option.none : Option Jvm.ClassFile.FieldType), Jvm.Cond.code ({ cls := "com/example/libgate/libgate/BucketBuilder", name := "<init>", desc := "()V" } : Jvm.MethodName) prog_1_method_1_code (1 : Nat) (Option.none : Option Jvm.ClassFile.FieldType), Jvm.Cond.code ({ cls := "com/example/libgate/libgate/BucketBuilder", name := "rate", desc := "(ILjava/time/Duration;)Lcom/example/libgate/libgate/BucketBuilder;" } : Jvm.MethodName) prog_1_method_2_code (3 : Nat) (Option.some (Jvm.ClassFile.FieldType.object "com/example/libgate/libgate/BucketBuilder")), Jvm.Cond.code ({ cls := "com/example/libgate/libgate/Requests", name := "checkPermits", desc := "(I)V" } : Jvm.MethodName) prog_8_method_2_code (1 : Nat) (Option.none : Option Jvm.ClassFile.FieldType), Jvm.Cond.code ({ cls := "java/util/Objects", name := "requireNonNull", desc := "(Ljava/lang/Object;Ljava/lang/String;)Ljava/lang/Object;" } : Jvm.MethodName) jdk_31_method_11_code (2 : Nat) (Option.some (Jvm.ClassFile.FieldType.object "java/lang/Object")), Jvm.Cond.code ({ cls := "java/time/Duration", name := "isZero", desc := "()Z" } : Jvm.MethodName) jdk_2316_method_21_code (1 : Nat) (Option.some Jvm.ClassFile.FieldType.boolean), Jvm.Cond.code ({ cls := "java/time/Duration", name := "isNegative", desc := "()Z" } : Jvm.MethodName) jdk_2316_method_22_code (1 : Nat) (Option.some Jvm.ClassFile.FieldType.boolean), Jvm.Cond.code ({ cls := "com/example/libgate/libgate/BucketRate", name := "seconds", desc := "(Ljava/time/Duration;)D" } : Jvm.MethodName) prog_3_method_9_code (1 : Nat) (Option.some Jvm.ClassFile.FieldType.double), Jvm.Cond.code ({ cls := "java/time/Duration", name := "getSeconds", desc := "()J" } : Jvm.MethodName) jdk_2316_method_23_code (1 : Nat) (Option.some Jvm.ClassFile.FieldType.long), Jvm.Cond.code ({ cls := "java/time/Duration", name := "getNano", desc := "()I" } : Jvm.MethodName) jdk_2316_method_24_code (1 : Nat) (Option.some Jvm.ClassFile.FieldType.int), Jvm.Cond.code ({ cls := "com/example/libgate/libgate/BucketBuilder", name := "self", desc := "()Lcom/example/libgate/libgate/BucketBuilder;" } : Jvm.MethodName) prog_1_method_5_code (1 : Nat) (Option.some (Jvm.ClassFile.FieldType.object "com/example/libgate/libgate/BucketBuilder")), Jvm.Cond.code ({ cls := "com/example/libgate/libgate/BucketBuilder", name := "burst", desc := "(I)Lcom/example/libgate/libgate/BucketBuilder;" } : Jvm.MethodName) prog_1_method_3_code (2 : Nat) (Option.some (Jvm.ClassFile.FieldType.object "com/example/libgate/libgate/BucketBuilder")), Jvm.Cond.code ({ cls := "com/example/libgate/libgate/BucketBuilder", name := "bucketRate", desc := "()Lcom/example/libgate/libgate/BucketRate;" } : Jvm.MethodName) prog_1_method_4_code (1 : Nat) (Option.some (Jvm.ClassFile.FieldType.object "com/example/libgate/libgate/BucketRate")), Jvm.Cond.code ({ cls := "com/example/libgate/libgate/BucketRate", name := "withBurst", desc := "(DI)Lcom/example/libgate/libgate/BucketRate;" } : Jvm.MethodName) prog_3_method_2_code (3 : Nat) (Option.some (Jvm.ClassFile.FieldType.object "com/example/libgate/libgate/BucketRate")), Jvm.Cond.code ({ cls := "com/example/libgate/libgate/BucketRate", name := "<init>", desc := "(DID)V" } : Jvm.MethodName) prog_3_method_1_code (10 : Nat) (Option.none : Option Jvm.ClassFile.FieldType), Jvm.Cond.code ({ cls := "com/example/libgate/libgate/BucketRate", name := "maxPermits", desc := "()D" } : Jvm.MethodName) prog_3_method_6_code (1 : Nat) (Option.some Jvm.ClassFile.FieldType.double), Jvm.Cond.code ({ cls := "com/example/libgate/libgate/BucketRate", name := "warmsUp", desc := "()Z" } : Jvm.MethodName) prog_3_method_7_code (1 : Nat) (Option.some Jvm.ClassFile.FieldType.boolean)]
set_option maxRecDepth 65536 in
theorem codes_eq : words1.filter isCode = codes1 := rfl
theorem w_codes : ∀ c ∈ words1.filter isCode, c.before args0 about1 = true := by
  rw [codes_eq]
  intro c hc
  simp only [codes1, List.mem_cons, List.not_mem_nil, or_false] at hc
  rcases hc with rfl | rfl | rfl | rfl | rfl | rfl | rfl | rfl | rfl | rfl | rfl | rfl | rfl | rfl | rfl | rfl | rfl | rfl | rfl | rfl | rfl | rfl
  · exact w_c0
  · exact w_c1
  · exact w_c2
  · exact w_c3
  · exact w_c4
  · exact w_c5
  · exact w_c6
  · exact w_c7
  · exact w_c8
  · exact w_c9
  · exact w_c10
  · exact w_c11
  · exact w_c12
  · exact w_c13
  · exact w_c14
  · exact w_c15
  · exact w_c16
  · exact w_c17
  · exact w_c18
  · exact w_c19
  · exact w_c20
  · exact w_c21
set_option maxRecDepth 65536 in
theorem w_t1 : (words1.take 24).all (fun c => isCode c || c.before args0 about1) = true := by decide +kernel
set_option maxRecDepth 65536 in
theorem w_t2 : ((words1.drop 24).take 24).all (fun c => isCode c || c.before args0 about1) = true := by decide +kernel
set_option maxRecDepth 65536 in
theorem w_t3 : (((words1.drop 24).drop 24).take 24).all (fun c => isCode c || c.before args0 about1) = true := by decide +kernel
set_option maxRecDepth 65536 in
theorem w_t4 : ((((words1.drop 24).drop 24).drop 24).take 24).all (fun c => isCode c || c.before args0 about1) = true := by decide +kernel
set_option maxRecDepth 65536 in
theorem w_t5 : (((((words1.drop 24).drop 24).drop 24).drop 24).take 24).all (fun c => isCode c || c.before args0 about1) = true := by decide +kernel
set_option maxRecDepth 65536 in
theorem w_t6 : (((((words1.drop 24).drop 24).drop 24).drop 24).drop 24).all (fun c => isCode c || c.before args0 about1) = true := by decide +kernel
theorem w_tables : (allAtoms (Jvm.Cond.code x code maxLocals ret :: tables_1)).before args0 about1 = true := by
  rw [allAtoms_all]
  show words1.all (fun c => c.before args0 about1) = true
  refine all_split ?_ w_codes
  rw [← List.take_append_drop 24 words1, List.all_append, w_t1, ← List.take_append_drop 24 (words1.drop 24), List.all_append, w_t2, ← List.take_append_drop 24 ((words1.drop 24).drop 24), List.all_append, w_t3, ← List.take_append_drop 24 (((words1.drop 24).drop 24).drop 24), List.all_append, w_t4, ← List.take_append_drop 24 ((((words1.drop 24).drop 24).drop 24).drop 24), List.all_append, w_t5, w_t6]
  rfl
set_option maxRecDepth 65536 in
theorem w_case : (Jvm.Cond.and given_1 narrow_1).before args0 about1 = true := by decide +kernel
theorem w_applies : (headSpec (Jvm.Cond.code x code maxLocals ret :: tables_1) room_1).applies x e0.platform about1 = true :=
  (Spec.applies_iff w_frames).mpr ⟨w_running, w_runnable, w_alone, w_named, w_hears, w_ripe, w_room, w_tables⟩
theorem atStart : AtStart classFile x code maxLocals ret World_1 tables_1 room_1 Calls_1 rest_1 Pre_1 launch0 p0 e0 about1 theMethod args0 below0 :=
  ⟨lists_1, trivial, launch0.admits_env _ _ _, launch0.least_env, fairChoices_fair.cas, fairChoices_fair.clock, w_frames, w_args, w_heap, w_applies, trivial, trivial, w_case⟩
end start1
theorem witness_1 : WitnessClaimed_1 := ⟨start1.p0, start1.e0, start1.about1, start1.theMethod, start1.args0, start1.below0, start1.atStart⟩
end Jvm.Pilot.@@N@@
