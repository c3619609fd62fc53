import JvmDerived
import JvmDerived.Pilot.@@N@@Statement
import JvmDerived.Pilot.@@N@@Code
set_option linter.unusedVariables false
set_option linter.unusedSimpArgs false
/-! own layer: doubles by their values in units of 2^-1074 (zval), over the library's float laws -/
namespace Jvm.Pilot.@@N@@.OwnFp
open Jvm.FP.Core
abbrev oz (x : UInt64) : Int := zval b64 (val64 x)
theorem one_pos : (0 : Int) < (one64 : Int) := by have := one64_pos; omega
theorem fin_nan {x : UInt64} (h : DFin x) : val64 x ≠ .nan := h.ne_nan
theorem signs_le {s sv : Bool} {A B zr zv : Nat} (h : signed s A ≤ signed sv B) (hle : A ≤ B → zr ≤ zv) (hge : B ≤ A → zv ≤ zr) (hz : B = 0 → zv = 0) : signed s zr ≤ signed sv zv := by
  cases s <;> cases sv <;> simp only [signed, if_true, Bool.false_eq_true, if_false] at h ⊢
  · have := hle (by omega); omega
  · have := hle (by omega); have := hz (by omega); omega
  · omega
  · have := hge (by omega); omega
theorem signs_ge {s sv : Bool} {A B zr zv : Nat} (h : signed sv B ≤ signed s A) (hle : A ≤ B → zr ≤ zv) (hge : B ≤ A → zv ≤ zr) (hz : B = 0 → zv = 0) : signed sv zv ≤ signed s zr := by
  cases s <;> cases sv <;> simp only [signed, if_true, Bool.false_eq_true, if_false] at h ⊢
  · have := hge (by omega); omega
  · omega
  · have := hle (by omega); have := hz (by omega); omega
  · have := hle (by omega); omega
/-- what a quotient by a positive divisor is, set against a number V of the format -/
theorem div_core {x y V : UInt64} (hx : DFin x) (hy : DFin y) (hp : 0 < oz y) (hV : val64 V ≠ .nan) :
    (oz x * (one64 : Int) ≤ oz V * oz y → oz (ddiv x y) ≤ oz V) ∧ (oz V * oz y ≤ oz x * (one64 : Int) → oz V ≤ oz (ddiv x y)) := by
  obtain ⟨s, c, q, ex⟩ := hx
  obtain ⟨t, d, r, ey⟩ := hy
  have fx := val64_fits x
  have fy := val64_fits y
  unfold oz at *
  rw [val64_ddiv, ex, ey]
  rw [ex] at fx
  rw [ey] at fy hp
  have ht : t = false := by
    cases t
    · rfl
    · exfalso
      simp only [zval, sgn, signed, if_true] at hp
      omega
  subst ht
  have hd : 0 < d := by
    rcases Nat.eq_zero_or_pos d with h0 | h0
    · subst h0
      exfalso
      simp [zval, zmag, inUnits, sgn, signed] at hp
    · exact h0
  have eq0 : quotient b64 (.fin s c q) (.fin false d r) = roundRatio b64 (s != false) c d (q - r) := by
    simp only [quotient, if_neg (Nat.ne_of_gt hd)]
  have es : (s != false) = s := by cases s <;> rfl
  rw [eq0, es]
  have hq1 := fx.2.1
  have hr1 := fy.2.1
  have hqn := qmin_neg good_b64
  have eA : inUnits c (q - r) (2 * b64.qmin - r) = zmag b64 (.fin s c q) * one64 := by
    show _ = inUnits c q b64.qmin * one64
    unfold inUnits
    rw [← pow_qmin64, Nat.mul_assoc, ← Nat.pow_add]
    congr 2
    omega
  have eB : 2 ^ (b64.qmin - (2 * b64.qmin - r)).toNat * d = zmag b64 (.fin false d r) := by
    show _ = inUnits d r b64.qmin
    unfold inUnits
    rw [Nat.mul_comm]
    congr 2
    omega
  have hle := zmag_roundRatio_le good_b64 (s := s) (A := c) (B := d) (e := q - r) (e0 := 2 * b64.qmin - r) hd (val64_fits V) hV (by omega) (by omega)
  have hge := zmag_roundRatio_ge good_b64 (s := s) (A := c) (B := d) (e := q - r) (e0 := 2 * b64.qmin - r) hd (val64_fits V) (by omega) (by omega)
  rw [eA, Nat.mul_assoc, eB] at hle hge
  have hy0 : 0 < zmag b64 (.fin false d r) := by
    show 0 < inUnits d r b64.qmin
    exact Nat.mul_pos hd (Nat.two_pow_pos _)
  have hz : zmag b64 (val64 V) * zmag b64 (.fin false d r) = 0 → zmag b64 (val64 V) = 0 := by
    intro h0
    rcases Nat.mul_eq_zero.mp h0 with h0 | h0 <;> omega
  unfold zval
  rw [sgn_roundRatio]
  have e1 : signed (sgn (.fin s c q)) (zmag b64 (.fin s c q)) * (one64 : Int) = signed s (zmag b64 (.fin s c q) * one64) := (signed_mul _ _ _).symm
  have e2 : signed (sgn (val64 V)) (zmag b64 (val64 V)) * signed (sgn (.fin false d r)) (zmag b64 (.fin false d r)) = signed (sgn (val64 V)) (zmag b64 (val64 V) * zmag b64 (.fin false d r)) := (signed_mul _ _ _).symm
  rw [e1, e2]
  exact ⟨fun h => signs_le h hle hge hz, fun h => signs_ge h hle hge hz⟩
theorem div_eq {x y V : UInt64} (hx : DFin x) (hy : DFin y) (hp : 0 < oz y) (hV : val64 V ≠ .nan) (h : oz x * (one64 : Int) = oz V * oz y) : oz (ddiv x y) = oz V :=
  Int.le_antisymm ((div_core hx hy hp hV).1 (Int.le_of_eq h)) ((div_core hx hy hp hV).2 (Int.le_of_eq h.symm))
theorem mul_core {x y V : UInt64} (hx : DFin x) (hy : DFin y) (hV : val64 V ≠ .nan) :
    (oz x * oz y ≤ oz V * (one64 : Int) → oz (dmul x y) ≤ oz V) ∧ (oz V * (one64 : Int) ≤ oz x * oz y → oz V ≤ oz (dmul x y)) := by
  obtain ⟨s, c, q, ex⟩ := hx
  obtain ⟨t, d, r, ey⟩ := hy
  have fx := val64_fits x
  have fy := val64_fits y
  unfold oz at *
  rw [val64_dmul, ex, ey]
  rw [ex] at fx
  rw [ey] at fy
  obtain ⟨h1, h2, h3⟩ := product_units fx fy
  have hqn := qmin_neg good_b64
  have e1 : signed (s != t) (inUnits (c * d) (q + r) (2 * b64.qmin)) = zval b64 (.fin s c q) * zval b64 (.fin t d r) := by
    rw [h3]; exact signed_xor _ _ _ _
  have e2 : ((2 ^ (b64.qmin - 2 * b64.qmin).toNat : Nat) : Int) = (one64 : Int) := by
    rw [show (b64.qmin - 2 * b64.qmin).toNat = (-b64.qmin).toNat by omega, pow_qmin64]
  rw [h1]
  refine ⟨fun h => ?_, fun h => ?_⟩
  · refine zval_round_le good_b64 (val64_fits V) hV (e0 := 2 * b64.qmin) (by omega) h2 ?_
    rw [e1, e2]; exact h
  · refine zval_round_ge good_b64 (val64_fits V) hV (e0 := 2 * b64.qmin) (by omega) h2 ?_
    rw [e1, e2]; exact h
theorem mul_eq {x y V : UInt64} (hx : DFin x) (hy : DFin y) (hV : val64 V ≠ .nan) (h : oz x * oz y = oz V * (one64 : Int)) : oz (dmul x y) = oz V :=
  Int.le_antisymm ((mul_core hx hy hV).1 (Int.le_of_eq h)) ((mul_core hx hy hV).2 (Int.le_of_eq h.symm))
theorem add_core {x y V : UInt64} (hx : DFin x) (hy : DFin y) (hV : val64 V ≠ .nan) :
    (oz x + oz y ≤ oz V → oz (dadd x y) ≤ oz V) ∧ (oz V ≤ oz x + oz y → oz V ≤ oz (dadd x y)) := by
  unfold oz
  rw [val64_dadd]
  exact ⟨sum_le good_b64 hx hy (val64_fits x) (val64_fits y) (val64_fits V) hV, sum_ge good_b64 hx hy (val64_fits x) (val64_fits y) (val64_fits V) hV⟩
theorem add_eq {x y V : UInt64} (hx : DFin x) (hy : DFin y) (hV : val64 V ≠ .nan) (h : oz x + oz y = oz V) : oz (dadd x y) = oz V :=
  Int.le_antisymm ((add_core hx hy hV).1 (Int.le_of_eq h)) ((add_core hx hy hV).2 (Int.le_of_eq h.symm))
theorem sub_core {x y V : UInt64} (hx : DFin x) (hy : DFin y) (hV : val64 V ≠ .nan) :
    (oz x - oz y ≤ oz V → oz (dsub x y) ≤ oz V) ∧ (oz V ≤ oz x - oz y → oz V ≤ oz (dsub x y)) := by
  unfold oz
  rw [val64_dsub]
  have hn : ∃ s c q, negate (val64 y) = .fin s c q := by
    obtain ⟨s, c, q, e⟩ := hy
    exact ⟨!s, c, q, by rw [e]; rfl⟩
  have ez : zval b64 (negate (val64 y)) = -zval b64 (val64 y) := zval_negate _ _
  refine ⟨fun h => sum_le good_b64 hx hn (val64_fits x) (negate_fits (val64_fits y)) (val64_fits V) hV ?_, fun h => sum_ge good_b64 hx hn (val64_fits x) (negate_fits (val64_fits y)) (val64_fits V) hV ?_⟩
  · rw [ez]; omega
  · rw [ez]; omega
theorem sub_eq {x y V : UInt64} (hx : DFin x) (hy : DFin y) (hV : val64 V ≠ .nan) (h : oz x - oz y = oz V) : oz (dsub x y) = oz V :=
  Int.le_antisymm ((sub_core hx hy hV).1 (Int.le_of_eq h)) ((sub_core hx hy hV).2 (Int.le_of_eq h.symm))
/-- n / 2^k is a double, for n of less than 53 digits -/
theorem rep (n : Int) (k : Nat) (hn : n.natAbs < 2 ^ 53) (hk : k ≤ 1074) : ∃ V : UInt64, DFin V ∧ oz V = n * ((2 ^ (1074 - k) : Nat) : Int) := by
  have hq : b64.qmin = -1074 := qmin_b64
  have hm : b64.qmax = 971 := by decide
  obtain ⟨c', q', h1, h2⟩ := round_exact good_b64 (decide (n < 0)) (c := n.natAbs) (q := -(k : Int)) hn (by omega) (by omega)
  refine ⟨of64 (round b64 (.fin (decide (n < 0)) n.natAbs (-(k : Int)))), ⟨_, c', q', by rw [val64_of64 (round_fits good_b64 _), h1]⟩, ?_⟩
  unfold oz
  rw [val64_of64 (round_fits good_b64 _), h1]
  show signed (decide (n < 0)) (inUnits c' q' b64.qmin) = _
  rw [h2]
  unfold inUnits
  rw [signed_mul, show (-(k : Int) - b64.qmin).toNat = 1074 - k by omega]
  congr 1
  unfold signed
  by_cases h : n < 0 <;> simp [h] <;> omega
/-- m * 2^k is a double, for m of less than 53 digits, k small -/
theorem repUp (m k : Nat) (hn : m < 2 ^ 53) (hk : k ≤ 900) : ∃ V : UInt64, DFin V ∧ oz V = ((m * 2 ^ k : Nat) : Int) * (one64 : Int) := by
  have hq : b64.qmin = -1074 := qmin_b64
  have hm : b64.qmax = 971 := by decide
  obtain ⟨c', q', h1, h2⟩ := round_exact good_b64 false (c := m) (q := (k : Int)) hn (by omega) (by omega)
  refine ⟨of64 (round b64 (.fin false m (k : Int))), ⟨_, c', q', by rw [val64_of64 (round_fits good_b64 _), h1]⟩, ?_⟩
  unfold oz
  rw [val64_of64 (round_fits good_b64 _), h1]
  show signed false (inUnits c' q' b64.qmin) = _
  rw [h2]
  unfold inUnits
  rw [show ((k : Int) - b64.qmin).toNat = k + (-b64.qmin).toNat by omega, Nat.pow_add, pow_qmin64, ← Nat.mul_assoc, Int.natCast_mul]
  simp [signed]
theorem fin_of_eq {x V : UInt64} (hn : val64 x ≠ .nan) (hV : DFin V) (h : oz x = oz V) : DFin x := by
  have hl := hV.zval_lt
  cases e : val64 x with
  | nan => exact absurd e hn
  | inf s =>
    exfalso
    unfold oz at h
    rw [e] at h
    have h2 : zval b64 (.inf s) = signed s (b64.tails * 2 ^ (b64.exps - 2)) := rfl
    rw [h2] at h
    have h3 := congrArg Int.natAbs h
    unfold zval at h3
    rw [natAbs_signed, natAbs_signed] at h3
    omega
  | fin s c q => exact ⟨s, c, q, e⟩
/-- the comparison's int, by the values -/
theorem cmp_val {x y : UInt64} (hx : val64 x ≠ .nan) (hy : val64 y ≠ .nan) (o : ClassFile.CmpOp) : Op.cmpValue (Jvm.FP.dcmp x y) o = if oz x < oz y then -1 else if oz x = oz y then 0 else 1 := by
  have h : Jvm.FP.dcmp x y = some (compare (oz x) (oz y)) := dcmp_zval hx hy
  rw [h, compare_ite]
  by_cases h1 : oz x < oz y
  · rw [if_pos h1, if_pos h1]; cases o <;> rfl
  · rw [if_neg h1, if_neg h1]
    by_cases h2 : oz x = oz y
    · rw [if_pos h2, if_pos h2]; cases o <;> rfl
    · rw [if_neg h2, if_neg h2]; cases o <;> rfl
theorem cmp_lt {x y : UInt64} (hx : val64 x ≠ .nan) (hy : val64 y ≠ .nan) (o : ClassFile.CmpOp) : Op.cmpValue (Jvm.FP.dcmp x y) o < 0 ↔ oz x < oz y := by
  rw [cmp_val hx hy o]
  by_cases h1 : oz x < oz y
  · rw [if_pos h1]; exact ⟨fun _ => h1, fun _ => by decide⟩
  · rw [if_neg h1]
    by_cases h2 : oz x = oz y
    · rw [if_pos h2]; exact ⟨fun q => absurd q (by decide), fun q => absurd q h1⟩
    · rw [if_neg h2]; exact ⟨fun q => absurd q (by decide), fun q => absurd q h1⟩
theorem cmp_gt {x y : UInt64} (hx : val64 x ≠ .nan) (hy : val64 y ≠ .nan) (o : ClassFile.CmpOp) : 0 < Op.cmpValue (Jvm.FP.dcmp x y) o ↔ oz y < oz x := by
  rw [cmp_val hx hy o]
  by_cases h1 : oz x < oz y
  · rw [if_pos h1]; exact ⟨fun q => absurd q (by decide), fun q => by omega⟩
  · rw [if_neg h1]
    by_cases h2 : oz x = oz y
    · rw [if_pos h2]; exact ⟨fun q => absurd q (by decide), fun q => by omega⟩
    · rw [if_neg h2]; exact ⟨fun _ => by omega, fun _ => by decide⟩
theorem cmp_eq {x y : UInt64} (hx : val64 x ≠ .nan) (hy : val64 y ≠ .nan) (o : ClassFile.CmpOp) : Op.cmpValue (Jvm.FP.dcmp x y) o = 0 ↔ oz x = oz y := by
  rw [cmp_val hx hy o]
  by_cases h1 : oz x < oz y
  · rw [if_pos h1]; exact ⟨fun q => absurd q (by decide), fun q => by omega⟩
  · rw [if_neg h1]
    by_cases h2 : oz x = oz y
    · rw [if_pos h2]; exact ⟨fun _ => h2, fun _ => rfl⟩
    · rw [if_neg h2]; exact ⟨fun q => absurd q (by decide), fun q => absurd q h2⟩
theorem oz_int {i : Int} {a : UInt64} (h : DInt i a) : oz a = i * (one64 : Int) := DInt_zval h
theorem int_fin {i : Int} {a : UInt64} (h : DInt i a) : DFin a := by
  unfold DInt at h
  cases e : val64 a with
  | nan => rw [e] at h; exact h.elim
  | inf s => rw [e] at h; exact h.elim
  | fin s c q => exact ⟨s, c, q, e⟩
theorem oz_i2d (x : Int32) : oz (i2d x) = x.toInt * (one64 : Int) := oz_int (i2d_int x)
theorem oz_l2d {a : Int64} (h : a.toInt.natAbs ≤ 2 ^ 53) : oz (l2d a) = a.toInt * (one64 : Int) := oz_int (l2d_int h)
theorem no_nan {x : UInt64} (h : val64 x ≠ .nan) : Jvm.Free.Fl.NoNaN64 x := Jvm.Free.Fl.val64_no.mpr h
theorem nan_no {x : UInt64} (h : Jvm.Free.Fl.NoNaN64 x) : val64 x ≠ .nan := Jvm.Free.Fl.val64_no.mp h
/-- a positive value makes a divisor -/
theorem div_nan {x y : UInt64} (hx : DFin x) (hy : DFin y) (hp : 0 < oz y) : val64 (ddiv x y) ≠ .nan := by
  have hz : ¬ DZero y := fun h => by have := h.zval; unfold oz at hp; omega
  exact (notNaN_iff _).mp (ddiv_out hx.notNaN hy hz)
theorem mul_nan {x y : UInt64} (hx : DFin x) (hy : DFin y) : val64 (dmul x y) ≠ .nan := (notNaN_iff _).mp (dmul_out hx hy)
theorem add_nan {x y : UInt64} (hx : DFin x) (hy : DFin y) : val64 (dadd x y) ≠ .nan := (notNaN_iff _).mp (dadd_out hx.notNaN hy)
theorem sub_nan {x y : UInt64} (hx : DFin x) (hy : DFin y) : val64 (dsub x y) ≠ .nan := (notNaN_iff _).mp (dsub_out hx.notNaN hy)
/-- a bit pattern that is finite, and what it is worth, by reckoning -/
theorem fin_lit {x : UInt64} (h : x.toNat % 2 ^ 63 < 9218868437227405312) : DFin x := (fin_bits x).mpr h
theorem oz_max {a b : UInt64} (ha : val64 a ≠ .nan) (hb : val64 b ≠ .nan) : oz (Native.java_lang_Math.nans.pick64 true a b) = max (oz a) (oz b) := by
  have h : Jvm.FP.dcmp a b = some (compare (oz a) (oz b)) := dcmp_zval ha hb
  rw [compare_ite] at h
  by_cases h1 : oz a < oz b
  · rw [if_pos h1] at h
    have e : Native.java_lang_Math.nans.pick64 true a b = b := by simp [Native.java_lang_Math.nans.pick64, h]
    rw [e]; omega
  · rw [if_neg h1] at h
    by_cases h2 : oz a = oz b
    · rcases Jvm.Free.Fl.pick64_or true a b with e | e <;> rw [e] <;> omega
    · rw [if_neg h2] at h
      have e : Native.java_lang_Math.nans.pick64 true a b = a := by simp [Native.java_lang_Math.nans.pick64, h]
      rw [e]; omega
theorem max_nan {a b : UInt64} (ha : val64 a ≠ .nan) (hb : val64 b ≠ .nan) : val64 (Native.java_lang_Math.nans.pick64 true a b) ≠ .nan := by
  rcases Jvm.Free.Fl.pick64_or true a b with e | e <;> rw [e] <;> assumption
theorem d2l_nonneg {a : UInt64} (hn : val64 a ≠ .nan) (h0 : 0 ≤ oz a) (h1 : oz a < 9223372036854775808 * (one64 : Int)) : (d2l a).toInt = oz a / (one64 : Int) := by
  rw [d2l_val hn]
  have hp := one64_pos
  have key : signed (sgn (val64 a)) (zmag b64 (val64 a) / one64) = oz a / (one64 : Int) := by
    unfold oz zval at *
    cases hs : sgn (val64 a)
    · simp [signed]
    · rw [hs] at h0
      simp only [signed, if_true] at h0 ⊢
      have : zmag b64 (val64 a) = 0 := by omega
      rw [this]; simp
  rw [key]
  have h2 : 0 ≤ oz a / (one64 : Int) := Int.ediv_nonneg h0 (by omega)
  have h3 : oz a / (one64 : Int) < 9223372036854775808 := Int.ediv_lt_of_lt_mul (by omega) h1
  omega
end Jvm.Pilot.@@N@@.OwnFp
namespace Jvm.Pilot.@@N@@.OwnFp
open Jvm.FP.Core
theorem oz_0 : oz 0 = 0 := by decide +kernel
theorem oz_1 : oz 4607182418800017408 = (one64 : Int) := by decide +kernel
theorem fin_0 : DFin 0 := fin_lit (by decide)
theorem fin_1 : DFin 4607182418800017408 := fin_lit (by decide)
abbrev DF (x : UInt64) : Prop := DFin x
abbrev NN (x : UInt64) : Prop := val64 x ≠ .nan
theorem add_nan' {x y : UInt64} (hx : NN x) (hy : DF y) : NN (dadd x y) := (notNaN_iff _).mp (dadd_out ((notNaN_iff _).mpr hx) hy)
theorem fin_of_bounds {x V W : UInt64} (hn : val64 x ≠ .nan) (hV : DFin V) (hW : DFin W) (h1 : oz W ≤ oz x) (h2 : oz x ≤ oz V) : DFin x := by
  have lv := hV.zval_lt
  have lw := hW.zval_lt
  cases e : val64 x with
  | nan => exact absurd e hn
  | fin s c q => exact ⟨s, c, q, e⟩
  | inf s =>
    exfalso
    unfold oz at h1 h2
    rw [e] at h1 h2
    have e2 : zval b64 (.inf s) = signed s (b64.tails * 2 ^ (b64.exps - 2)) := rfl
    rw [e2] at h1 h2
    have a1 : (zval b64 (val64 V)).natAbs = zmag b64 (val64 V) := natAbs_signed _ _
    have a2 : (zval b64 (val64 W)).natAbs = zmag b64 (val64 W) := natAbs_signed _ _
    generalize b64.tails * 2 ^ (b64.exps - 2) = top at *
    generalize zval b64 (val64 V) = zV at *
    generalize zval b64 (val64 W) = zW at *
    cases s <;> simp only [signed, if_true, Bool.false_eq_true, if_false] at h1 h2 <;> omega
theorem bits_of_oz {x y : UInt64} (hx : val64 x ≠ .nan) (hy : val64 y ≠ .nan) (h0 : oz y ≠ 0) (h : oz x = oz y) : x = y := by
  refine eq_bits (fun z => h0 z.zval) ?_
  have e : dcmp x y = some (compare (oz x) (oz y)) := dcmp_zval hx hy
  rw [e, h, compare_ite]
  simp
/-- a quotient of small naturals, at most 1 -/
theorem quo_fin {a b : Int32} (ha : 0 ≤ a.toInt) (hb : 1 ≤ b.toInt) (hab : a.toInt ≤ b.toInt) : DFin (ddiv (i2d a) (i2d b)) := by
  have hp := one_pos
  have pb : 0 < oz (i2d b) := by rw [oz_i2d]; exact Int.mul_pos (by omega) hp
  have n := div_nan (i2d_fin a) (i2d_fin b) pb
  refine fin_of_bounds n fin_1 fin_0 ?_ ?_
  · refine (div_core (i2d_fin a) (i2d_fin b) pb (fin_nan fin_0)).2 ?_
    rw [oz_0, oz_i2d a]
    have := Int.mul_nonneg (Int.mul_nonneg ha (Int.le_of_lt hp)) (Int.le_of_lt hp)
    omega
  · refine (div_core (i2d_fin a) (i2d_fin b) pb (fin_nan fin_1)).1 ?_
    rw [oz_1, oz_i2d, oz_i2d]
    have h1 := Int.mul_le_mul_of_nonneg_right (Int.mul_le_mul_of_nonneg_right hab (Int.le_of_lt hp)) (Int.le_of_lt hp)
    generalize (one64 : Int) = P at *
    have e : P * (b.toInt * P) = b.toInt * P * P := by grind
    omega
theorem quo_self {a : Int32} (ha : 1 ≤ a.toInt) : ddiv (i2d a) (i2d a) = 4607182418800017408 := by
  have hp := one_pos
  have pb : 0 < oz (i2d a) := by rw [oz_i2d]; exact Int.mul_pos (by omega) hp
  refine bits_of_oz (div_nan (i2d_fin a) (i2d_fin a) pb) (fin_nan fin_1) (by rw [oz_1]; omega) ?_
  refine div_eq (i2d_fin a) (i2d_fin a) pb (fin_nan fin_1) ?_
  rw [oz_1]
  exact Int.mul_comm _ _
theorem add_one {a b : Int32} (h0 : 0 ≤ a.toInt) (h : b.toInt = a.toInt + 1) : dadd (i2d a) 4607182418800017408 = i2d b := by
  have hp := one_pos
  refine bits_of_oz (add_nan (i2d_fin a) fin_1) (fin_nan (i2d_fin b)) ?_ ?_
  · rw [oz_i2d]
    have := Int.mul_pos (show 0 < b.toInt by omega) hp
    omega
  · refine add_eq (i2d_fin a) fin_1 (fin_nan (i2d_fin b)) ?_
    rw [oz_1, oz_i2d, oz_i2d, h]
    generalize (one64 : Int) = P
    grind
theorem i2d_f (n : Int32) : DFin (i2d n) := i2d_fin n
theorem i2d_zero : i2d 0 = 0 := by decide +kernel
theorem div_any {x : UInt64} (hx : val64 x ≠ .nan) {k : Int32} (hk : k ≠ 0) : Jvm.Free.Fl.NoNaN64 (ddiv x (i2d k)) := by
  have hz : ¬ DZero (i2d k) := fun q => i2d_ne_zero hk ((zero_bits2 _).mp q)
  exact no_nan ((notNaN_iff _).mp (ddiv_out ((notNaN_iff _).mpr hx) (i2d_fin k) hz))
theorem self_eq {x : UInt64} (hx : Jvm.Free.Fl.NoNaN64 x) (o : ClassFile.CmpOp) : Op.cmpValue (Jvm.FP.dcmp x x) o = 0 := (cmp_eq (nan_no hx) (nan_no hx) o).mpr rfl
end Jvm.Pilot.@@N@@.OwnFp
namespace Jvm.Pilot.@@N@@
open Jvm Jvm.ClassFile Sem Op Lib Jvm.Free Jvm.Stand Jvm.LawKit Jvm.RoadKit Bundle Jvm.Pilot.@@N@@.Jvm.D
/-! own layer: a walk in continuation style over the library's laws of lawnew's family -/
section OwnBase
/-- from the state t the invocation over 'below' comes to its end, and F holds there -/
def own_Ends (tb : Tables) (e : Env) (below : List Frame) (F : Outcome → State → Prop) (t : State) : Prop :=
  ∃ s₂ o, Steps tb e below t s₂ ∧ s₂.status = .running ∧ Ended s₂ below o ∧ F o s₂
theorem own_go {tb : Tables} {e : Env} {below : List Frame} {F : Outcome → State → Prop} {t t' : State} (k : ∀ target, Steps tb e below t' target → Steps tb e below t target) (h : own_Ends tb e below F t') : own_Ends tb e below F t := by
  obtain ⟨s₂, o, h1, h2⟩ := h
  exact ⟨s₂, o, k _ h1, h2⟩
/-- what a contract says of the end -/
def own_F (s : State) (Q : Option Value → Heap → List Loc → Prop) (C S : Nat) (o : Outcome) (U : State) : Prop := ∃ v L, o = .returned v ∧ Q v U.heap L ∧ FrameEnd s o U L C S
abbrev own_Ctr (l : Launch) (Z : State) (y : MethodName) (bytes : ByteArray) (ml : Nat) (rt : Option FieldType) (ws : List Jvm.Cond) (rm : Room) (as : Array Value) (h0 : Heap) (Q : Option Value → Heap → List Loc → Prop) : Prop :=
  MetFree l y (head1 (Jvm.Cond.code y bytes ml rt :: ws) rm) (fun a U => a = as ∧ Z.Warmed39 U.vm ∧ U.heap = h0) (fun _ _ _ _ _ => True) (fun _ U o U' => ∃ v L, o = .returned v ∧ Q v U'.heap L ∧ FrameEnd U o U' L rm.cells rm.slots)
theorem own_enter {l : Launch} {Z : State} {y : MethodName} {bytes : ByteArray} {ml : Nat} {rt : Option FieldType} {ws : List Jvm.Cond} {rm : Room} {as : Array Value} {h0 : Heap} {Q : Option Value → Heap → List Loc → Prop} (hp : plainFor y = true)
    (body : ∀ (p : Program) (e : Env) (s : State) (m : MethodId) (below : List Frame) (meth : Method) (c : Code) (s₁ : State), BodyLoose p l y (head1 (Jvm.Cond.code y bytes ml rt :: ws) rm) bytes ml rt e s m as below meth c s₁ → Z.Warmed39 s.vm → c.maxLocals = ml → Stand p l e rm s m as below meth c s₁ [] 0 0 → s₁.heap = h0 →
      own_Ends p.tables e below (own_F s Q rm.cells rm.slots) (s₁.setTop (entryFrame m as ml))) : own_Ctr l Z y bytes ml rt ws rm as h0 Q := by
  refine MetFree.of_bodySF hp hisR ?_
  intro p e s m args below meth c s₁ Bd hml0 hP hK
  obtain ⟨rfl, hZ, hh⟩ := hP
  have e0 : s₁.heap = h0 := by rw [← hh, Bd.state]; rfl
  exact body p e s m below meth c s₁ Bd hZ hml0 (Stand.of_body Bd) e0
variable {p : Program} {l : Launch} {e : Env} {R : Room} {s : State} {m : MethodId} {args : Array Value} {below : List Frame} {meth : Method} {c : Code} {T : State} {locs : List Loc} {cells slots : Nat} {Z : State} {a0 : Array Value} {h : Heap} {Q : Option Value → Heap → List Loc → Prop} {C S : Nat}
theorem own_ret (X : Stand p l e R s m args below meth c T locs cells slots) {v : Option Value} {g : JFrame} (hv : meth.sig.returnType = none → v = none) (hlocks : meth.locks = false)
    (st : ∀ fs, (∀ (f : JFrame) (acts : List Action), f.method = m → f.locked = none → f.entered = [] → (doReturn e (T.setTop f) acts v).1 = T.setFrames fs) → Steps p.tables e below (T.setTop g) (T.setFrames fs)) (hc : cells ≤ C) (hs : slots ≤ S) (q : Q v T.heap locs) :
    own_Ends p.tables e below (own_F s Q C S) (T.setTop g) := by
  obtain ⟨fs, hr, hrun, hended, hW, hsame⟩ := X.leave (v := v) hv hlocks
  exact ⟨_, _, st fs hr, hrun, hended, v, locs, rfl, q, ⟨_, rfl⟩, hW, hsame.mono hc hs⟩
theorem own_retV (X : Stand p l e R s m args below meth c T locs cells slots) (hx : p.tables.exec = Jvm.exec) (hret : meth.sig.returnType = none) (hlocks : meth.locks = false) {pc : Nat} {Ls : Array Slot} (hd : decode c.code pc = .ok (.return_, 1)) (hc : cells ≤ C) (hs : slots ≤ S) (q : Q none T.heap locs) :
    own_Ends p.tables e below (own_F s Q C S) (T.setTop (mkF m pc Ls [])) :=
  own_ret X (fun _ => rfl) hlocks (fun fs hr => X.returnOut hx hret hd hr) hc hs q
theorem own_retZ (X : Stand p l e R s m args below meth c T locs cells slots) (hx : p.tables.exec = Jvm.exec) (hret : meth.sig.returnType = some .boolean) (hlocks : meth.locks = false) {pc : Nat} {Ls : Array Slot} {z : Int32} {rest : List Value} (hz : nar .boolean z = z) (hd : decode c.code pc = .ok (.ireturn, 1)) (hc : cells ≤ C) (hs : slots ≤ S) (q : Q (some (.int z)) T.heap locs) :
    own_Ends p.tables e below (own_F s Q C S) (T.setTop (mkF m pc Ls (.int z :: rest))) :=
  own_ret X (v := some (.int z)) (fun q => by rw [hret] at q; cases q) hlocks (fun fs hr => retN X hx (t := .boolean) hret (by simp) hd (by rw [hz]; exact hr)) hc hs q
theorem own_retI (X : Stand p l e R s m args below meth c T locs cells slots) (hx : p.tables.exec = Jvm.exec) (hret : meth.sig.returnType = some .int) (hlocks : meth.locks = false) {pc : Nat} {Ls : Array Slot} {z : Int32} {rest : List Value} (hd : decode c.code pc = .ok (.ireturn, 1)) (hc : cells ≤ C) (hs : slots ≤ S) (q : Q (some (.int z)) T.heap locs) :
    own_Ends p.tables e below (own_F s Q C S) (T.setTop (mkF m pc Ls (.int z :: rest))) :=
  own_ret X (v := some (.int z)) (fun q => by rw [hret] at q; cases q) hlocks (fun fs hr => retOut X hx hret rfl (Or.inl ⟨rfl, Or.inl rfl, _, rfl⟩) hd hr) hc hs q
theorem own_retJ (X : Stand p l e R s m args below meth c T locs cells slots) (hx : p.tables.exec = Jvm.exec) (hret : meth.sig.returnType = some .long) (hlocks : meth.locks = false) {pc : Nat} {Ls : Array Slot} {z : Int64} {rest : List Value} (hd : decode c.code pc = .ok (.lreturn, 1)) (hc : cells ≤ C) (hs : slots ≤ S) (q : Q (some (.long z)) T.heap locs) :
    own_Ends p.tables e below (own_F s Q C S) (T.setTop (mkF m pc Ls (.long z :: rest))) :=
  own_ret X (v := some (.long z)) (fun q => by rw [hret] at q; cases q) hlocks (fun fs hr => retOut X hx hret rfl (Or.inr (Or.inl ⟨rfl, rfl, _, rfl⟩)) hd hr) hc hs q
theorem own_retD (X : Stand p l e R s m args below meth c T locs cells slots) (hx : p.tables.exec = Jvm.exec) (hret : meth.sig.returnType = some .double) (hlocks : meth.locks = false) {pc : Nat} {Ls : Array Slot} {z : UInt64} {rest : List Value} (hd : decode c.code pc = .ok (.dreturn, 1)) (hc : cells ≤ C) (hs : slots ≤ S) (q : Q (some (.double z)) T.heap locs) :
    own_Ends p.tables e below (own_F s Q C S) (T.setTop (mkF m pc Ls (.double z :: rest))) :=
  own_ret X (v := some (.double z)) (fun q => by rw [hret] at q; cases q) hlocks (fun fs hr => retOut X hx hret rfl (Or.inr (Or.inr (Or.inl ⟨rfl, rfl, _, rfl⟩))) hd hr) hc hs q
theorem own_retA (X : Stand p l e R s m args below meth c T locs cells slots) (hx : p.tables.exec = Jvm.exec) {t : FieldType} (hret : meth.sig.returnType = some t) (hlocks : meth.locks = false) {pc : Nat} {Ls : Array Slot} {w : Value} {rest : List Value} (hd : decode c.code pc = .ok (.areturn, 1)) (ht : t.isReference = true) (hw : w.isRef = true) (hc : cells ≤ C) (hs : slots ≤ S) (q : Q (some w) T.heap locs) :
    own_Ends p.tables e below (own_F s Q C S) (T.setTop (mkF m pc Ls (w :: rest))) :=
  own_ret X (v := some w) (fun q => by rw [hret] at q; cases q) hlocks (fun fs hr => retOut X hx hret (by cases t <;> first | (cases ht; done) | (cases w <;> first | (cases hw; done) | rfl)) (Or.inr (Or.inr (Or.inr (Or.inr ⟨rfl, ht, hw⟩)))) hd hr) hc hs q
theorem own_special (X : Stand p l e R s m args below meth c T locs cells slots) (hx : p.tables.exec = Jvm.exec) (hZ : Z.Warmed39 s.vm) {own : String} {index : Nat} {y : MethodName} (hy1 : y.name = "<init>") (hown : s.vm.findClass own = some m.cls)
    (w1 : (Jvm.Cond.methodLink own index y).before a0 Z = true) (w2 : (Jvm.Cond.instanceMethod y).before a0 Z = true) {bytes : ByteArray} {maxL : Nat} (w3 : (Jvm.Cond.code y bytes maxL none).before a0 Z = true) (w4 : (Jvm.Cond.initialized y.cls).before a0 Z = true)
    (hy : y.cls ≠ "java/lang/invoke/MethodHandle" ∧ y.cls ≠ "java/lang/invoke/VarHandle") {rm : Room} {a : Addr} {argsL rest : List Value}
    (K : own_Ctr l Z y bytes maxL none [] rm (.ref a :: argsL).toArray h Q) (eT : T.heap = h) {g : JFrame} (hg : g.method = m) (hsize : g.locals.size = c.maxLocals)
    (hlen : ∀ sig, parseMethodDescriptor y.desc = some sig → argsL.length = sig.parameters.length) (hst : g.stack = argsL.reverse ++ .ref a :: rest) {W : Nat} (hW : 2 * g.monitorRoom + (rest.map fun v => v.category).sum ≤ W)
    (hd : decode c.code g.pc = .ok (.invokespecial index, 3)) (hf : rm.frames + 1 ≤ R.frames) (hlo : W + (maxL + 11) + rm.locals ≤ R.locals) (hc : cells + rm.cells ≤ R.cells) (hs : slots + rm.slots ≤ R.slots) :
    ∃ T' L v, Stand p l e R s m args below meth c T' (locs ++ L) (cells + rm.cells) (slots + rm.slots) ∧ Q v T'.heap L ∧ ∀ target, Steps p.tables e below (T'.setTop { g with pc := g.pc + 3, stack := v.toList ++ rest }) target → Steps p.tables e below (T.setTop g) target := by
  obtain ⟨v, _, ⟨T', L', k', n'⟩, -, X', ⟨L, hQ, l1, y1, z1⟩, st⟩ := X.specialBack hx (y := y) hy1 hown (mvT hZ w1) (mvT hZ w2) (mvT hZ w3) hy (backOf (W := W) K hZ w3 w4 hf hlo) (g := g) hg hsize (Steps.refl _) (a := a) (argsL := argsL) (rest := rest) hlen hst hW hd (fun _ _ => ⟨rfl, eT, hc, hs⟩)
  dsimp only [Pt.U, Pt.locs, Pt.cells, Pt.slots] at X' l1 y1 z1 st hQ
  subst l1 y1 z1
  exact ⟨T', L, v, X', hQ, fun t k => st.trans k⟩
theorem own_static (X : Stand p l e R s m args below meth c T locs cells slots) (hx : p.tables.exec = Jvm.exec) (hZ : Z.Warmed39 s.vm) {own : String} {index : Nat} {y : MethodName} (hown : s.vm.findClass own = some m.cls)
    (w1 : (Jvm.Cond.methodLink own index y).before a0 Z = true) (w2 : (Jvm.Cond.static y).before a0 Z = true) (w4 : (Jvm.Cond.initialized y.cls).before a0 Z = true) {bytes : ByteArray} {maxL : Nat} {rt : Option FieldType} (w3 : (Jvm.Cond.code y bytes maxL rt).before a0 Z = true)
    (hy : y.cls ≠ "java/lang/invoke/MethodHandle" ∧ y.cls ≠ "java/lang/invoke/VarHandle") {rm : Room} {argsL rest : List Value}
    (K : own_Ctr l Z y bytes maxL rt [] rm argsL.toArray h Q) (eT : T.heap = h) {g : JFrame} (hg : g.method = m) (hsize : g.locals.size = c.maxLocals)
    (hlen : ∀ sig, parseMethodDescriptor y.desc = some sig → argsL.length = sig.parameters.length) (hst : g.stack = argsL.reverse ++ rest) {W : Nat} (hW : 2 * g.monitorRoom + (rest.map fun v => v.category).sum ≤ W)
    (hd : decode c.code g.pc = .ok (.invokestatic index, 3)) (hf : rm.frames + 1 ≤ R.frames) (hlo : W + (maxL + 11) + rm.locals ≤ R.locals) (hc : cells + rm.cells ≤ R.cells) (hs : slots + rm.slots ≤ R.slots) :
    ∃ T' L v, Stand p l e R s m args below meth c T' (locs ++ L) (cells + rm.cells) (slots + rm.slots) ∧ Q v T'.heap L ∧ ∀ target, Steps p.tables e below (T'.setTop { g with pc := g.pc + 3, stack := v.toList ++ rest }) target → Steps p.tables e below (T.setTop g) target := by
  obtain ⟨v, _, ⟨T', L', k', n'⟩, -, X', ⟨L, hQ, l1, y1, z1⟩, st⟩ := Jvm.LawKit.callS X hx (y := y) hown (mvT hZ w1) (mvT hZ w2) (mvT hZ w4) (mvT hZ w3) hy (backOf (W := W) K hZ w3 w4 hf hlo) (g := g) hg hsize (argsL := argsL) (rest := rest) hlen hst hW hd (fun _ _ => ⟨rfl, eT, hc, hs⟩)
  dsimp only [Pt.U, Pt.locs, Pt.cells, Pt.slots] at X' l1 y1 z1 st hQ
  subst l1 y1 z1
  exact ⟨T', L, v, X', hQ, st⟩
theorem own_virtual (X : Stand p l e R s m args below meth c T locs cells slots) (hx : p.tables.exec = Jvm.exec) (hZ : Z.Warmed39 s.vm) {own : String} {index : Nat} {y : MethodName} (hown : s.vm.findClass own = some m.cls)
    (w1 : (Jvm.Cond.methodLink own index y).before a0 Z = true) (w2 : (Jvm.Cond.declares y).before a0 Z = true) (w5 : (Jvm.Cond.selects y.cls y y).before a0 Z = true) (w6 : (Jvm.Cond.instanceMethod y).before a0 Z = true) {bytes : ByteArray} {maxL : Nat} {rt : Option FieldType} (w3 : (Jvm.Cond.code y bytes maxL rt).before a0 Z = true) (w4 : (Jvm.Cond.initialized y.cls).before a0 Z = true)
    (hy : y.cls ≠ "java/lang/invoke/MethodHandle" ∧ y.cls ≠ "java/lang/invoke/VarHandle") {rm : Room} {a : Addr} {argsL rest : List Value} (E : Exa Z h a y.cls)
    (K : own_Ctr l Z y bytes maxL rt [] rm (.ref a :: argsL).toArray h Q) (eT : T.heap = h) {g : JFrame} (hg : g.method = m) (hsize : g.locals.size = c.maxLocals)
    (hlen : ∀ sig, parseMethodDescriptor y.desc = some sig → argsL.length = sig.parameters.length) (hst : g.stack = argsL.reverse ++ .ref a :: rest) {W : Nat} (hW : 2 * g.monitorRoom + (rest.map fun v => v.category).sum ≤ W)
    (hd : decode c.code g.pc = .ok (.invokevirtual index, 3)) (hf : rm.frames + 1 ≤ R.frames) (hlo : W + (maxL + 11) + rm.locals ≤ R.locals) (hc : cells + rm.cells ≤ R.cells) (hs : slots + rm.slots ≤ R.slots) :
    ∃ T' L v, Stand p l e R s m args below meth c T' (locs ++ L) (cells + rm.cells) (slots + rm.slots) ∧ Q v T'.heap L ∧ ∀ target, Steps p.tables e below (T'.setTop { g with pc := g.pc + 3, stack := v.toList ++ rest }) target → Steps p.tables e below (T.setTop g) target := by
  obtain ⟨cq, kq, qa, qb, qc⟩ := isOf hZ eT E
  obtain ⟨v, _, ⟨T', L', k', n'⟩, -, X', ⟨L, hQ, l1, y1, z1⟩, st⟩ := X.virtualBack hx (y := y) (z := y) hown (mvT hZ w1) (mvT hZ w2) (notFace_of_selects (args := #[]) (mvT hZ w5)) (mvT hZ w5) (mvT hZ w6) hy (backOf (W := W) K hZ w3 w4 hf hlo) qa qc (g := g) hg hsize (Steps.refl _) (argsL := argsL) (rest := rest) hlen hst hW hd (fun _ _ => ⟨rfl, eT, hc, hs⟩)
  dsimp only [Pt.U, Pt.locs, Pt.cells, Pt.slots] at X' l1 y1 z1 st hQ
  subst l1 y1 z1
  exact ⟨T', L, v, X', hQ, fun t k => st.trans k⟩
/-- a field is still there behind a write, whatever it holds -/
theorem own_any {h h' : Heap} {a b : Addr} {sl : Nat} {v w : Value} {C0 n d : String} (W : Wr h h' a sl v) (F : Fld Z h b C0 n d w) : ∃ w', Fld Z h' b C0 n d w' := by
  obtain ⟨cell, cf, k, i, f, h1, h2, h3, h4, h5, h6, h7⟩ := F
  obtain ⟨c', e1, e2, e3, e4, -⟩ := wr_at W h1
  have hl := (Array.getElem?_eq_some_iff.mp h7).1
  exact ⟨_, c', cf, k, i, f, e1, h2, h3, by rw [e3]; exact h4, by rw [e3]; exact h5, by rw [e2]; exact h6, Array.getElem?_eq_getElem (by rw [e4]; exact hl)⟩
end OwnBase
/-! own layer: arrays by a function of the place -/
section OwnArr
def own_Ar (Z : State) (h : Heap) (a : Addr) (ty : FieldType) (n : Nat) (f : Nat → Value) : Prop := ∃ c : Cell, Arr Z h a c ty ∧ c.slots.size = n ∧ ∀ j, j < n → c.slots[j]? = some (f j)
def own_upd (f : Nat → Value) (i : Nat) (v : Value) : Nat → Value := fun j => if j = i then v else f j
variable {p : Program} {l : Launch} {e : Env} {R : Room} {s : State} {m : MethodId} {args : Array Value} {below : List Frame} {meth : Method} {c : Code} {T : State} {locs : List Loc} {cells slots : Nat} {Z : State} {a0 : Array Value} {h h' : Heap} {a b : Addr} {ty : FieldType} {n i sl : Nat} {f g0 : Nat → Value} {v : Value} {ws : List Addr}
theorem own_Ar_ext (E : Ext h h') (A : own_Ar Z h a ty n f) : own_Ar Z h' a ty n f := by obtain ⟨c, A, r⟩ := A; exact ⟨c, A.ext E, r⟩
theorem own_Ar_keep (K : Keep h h' ws) (q : a ∉ ws) (A : own_Ar Z h a ty n f) : own_Ar Z h' a ty n f := by obtain ⟨c, A, r⟩ := A; exact ⟨c, ⟨K.2.1 a c A.1 q, A.2⟩, r⟩
theorem own_Ar_other (W : Wr h h' b sl v) (q : a ≠ b) (A : own_Ar Z h a ty n f) : own_Ar Z h' a ty n f := by obtain ⟨c, A, r⟩ := A; exact ⟨c, A.other W q, r⟩
theorem own_Ar_congr (A : own_Ar Z h a ty n f) (q : ∀ j, j < n → f j = g0 j) : own_Ar Z h a ty n g0 := by
  obtain ⟨c, A, r1, r2⟩ := A
  exact ⟨c, A, r1, fun j hj => by rw [r2 j hj, q j hj]⟩
theorem own_Ar_lt (A : own_Ar Z h a ty n f) : a < h.size := by obtain ⟨c, A, -⟩ := A; exact A.lt
theorem own_Ar_same (W : Wr h h' a i v) (hi : i < n) (A : own_Ar Z h a ty n f) : own_Ar Z h' a ty n (own_upd f i v) := by
  obtain ⟨c, A, r1, r2⟩ := A
  refine ⟨_, A.same W, by rw [sz_set]; exact r1, fun j hj => ?_⟩
  show (c.slots.setIfInBounds i v)[j]? = some (own_upd f i v j)
  unfold own_upd
  by_cases q : j = i
  · subst q
    rw [if_pos rfl, Array.getElem?_setIfInBounds_self_of_lt (by omega)]
  · rw [if_neg q, Array.getElem?_setIfInBounds_ne (Ne.symm q)]
    exact r2 j hj
theorem own_clamp {i : Nat} (h : i < 2 ^ 31) : (Int32.ofNat i).toNatClampNeg = i := by
  have q : (Int32.ofNat i).toInt = i := Int32.toInt_ofNat_of_lt h
  simp only [Int32.toNatClampNeg, q]
  omega
theorem own_Ar_new {cA : ClassId} (hn : n < 2 ^ 31) (A : Arr Z h a (newA cA ty (Int32.ofNat n)) ty) : own_Ar Z h a ty n (fun _ => defaultValue ty) := by
  refine ⟨_, A, by rw [sz_new, own_clamp hn], fun j hj => ?_⟩
  have q : ¬ ((Int32.ofNat j) < 0 ∨ (Int32.ofNat n).toNatClampNeg ≤ (Int32.ofNat j).toNatClampNeg) := by rw [own_clamp hn]; exact idx_in hj hn
  have := get_new (cA := cA) (ty := ty) (n := Int32.ofNat n) (k := Int32.ofNat j) q
  rw [own_clamp (by omega)] at this
  exact this
theorem own_alen (X : Stand p l e R s m args below meth c T locs cells slots) (hx : p.tables.exec = Jvm.exec) (hZ : Z.Warmed39 s.vm) (eT : T.heap = h) (A : own_Ar Z h a ty n f) {g : JFrame} (hg : g.method = m) {rest : List Value} (hs : g.stack = .ref a :: rest) (hd : decode c.code g.pc = .ok (.arraylength, 1)) :
    ∀ target, Steps p.tables e below (T.setTop { g with pc := g.pc + 1, stack := .int (Int32.ofNat n) :: rest }) target → Steps p.tables e below (T.setTop g) target := by
  obtain ⟨c0, A, r1, -⟩ := A
  subst r1
  exact fun target k => X.arraylength hx (by rw [eT]; exact A.1) (State.isArrayOf_alike hZ.alike A.2.1) hg hs hd target k
theorem own_ldZ (X : Stand p l e R s m args below meth c T locs cells slots) (hx : p.tables.exec = Jvm.exec) (hZ : Z.Warmed39 s.vm) (eT : T.heap = h) (A : own_Ar Z h a .boolean n f) (hn : n < 2 ^ 31) (hi : i < n) (hv : f i = v) {g : JFrame} (hg : g.method = m) {rest : List Value} (hs : g.stack = .int (Int32.ofNat i) :: .ref a :: rest) (hd : decode c.code g.pc = .ok (.baload, 1)) :
    ∀ target, Steps p.tables e below (T.setTop { g with pc := g.pc + 1, stack := v :: rest }) target → Steps p.tables e below (T.setTop g) target := by
  obtain ⟨c0, A, r1, r2⟩ := A
  exact X.baloadBooleans hx (j := Int32.ofNat i) (by rw [eT]; exact A.1) (State.isArrayOf_alike hZ.alike A.2.1) A.2.2 (by rw [r1]; exact idx_in hi hn) (by rw [own_clamp (by omega), ← hv]; exact r2 i hi) hg hs hd
theorem own_ldI (X : Stand p l e R s m args below meth c T locs cells slots) (hx : p.tables.exec = Jvm.exec) (hZ : Z.Warmed39 s.vm) (eT : T.heap = h) (A : own_Ar Z h a .int n f) (hn : n < 2 ^ 31) (hi : i < n) (hv : f i = v) {g : JFrame} (hg : g.method = m) {rest : List Value} (hs : g.stack = .int (Int32.ofNat i) :: .ref a :: rest) (hd : decode c.code g.pc = .ok (.iaload, 1)) :
    ∀ target, Steps p.tables e below (T.setTop { g with pc := g.pc + 1, stack := v :: rest }) target → Steps p.tables e below (T.setTop g) target := by
  obtain ⟨c0, A, r1, r2⟩ := A
  exact X.iaload hx (j := Int32.ofNat i) (by rw [eT]; exact A.1) (State.isArrayOf_alike hZ.alike A.2.1) A.2.2 (by rw [r1]; exact idx_in hi hn) (by rw [own_clamp (by omega), ← hv]; exact r2 i hi) hg hs hd
theorem own_ldJ (X : Stand p l e R s m args below meth c T locs cells slots) (hx : p.tables.exec = Jvm.exec) (hZ : Z.Warmed39 s.vm) (eT : T.heap = h) (A : own_Ar Z h a .long n f) (hn : n < 2 ^ 31) (hi : i < n) (hv : f i = v) {g : JFrame} (hg : g.method = m) {rest : List Value} (hs : g.stack = .int (Int32.ofNat i) :: .ref a :: rest) (hd : decode c.code g.pc = .ok (.laload, 1)) :
    ∀ target, Steps p.tables e below (T.setTop { g with pc := g.pc + 1, stack := v :: rest }) target → Steps p.tables e below (T.setTop g) target := by
  obtain ⟨c0, A, r1, r2⟩ := A
  exact X.laload hx (j := Int32.ofNat i) (by rw [eT]; exact A.1) (State.isArrayOf_alike hZ.alike A.2.1) A.2.2 (by rw [r1]; exact idx_in hi hn) (by rw [own_clamp (by omega), ← hv]; exact r2 i hi) hg hs hd
theorem own_ldD (X : Stand p l e R s m args below meth c T locs cells slots) (hx : p.tables.exec = Jvm.exec) (hZ : Z.Warmed39 s.vm) (eT : T.heap = h) (A : own_Ar Z h a .double n f) (hn : n < 2 ^ 31) (hi : i < n) (hv : f i = v) {g : JFrame} (hg : g.method = m) {rest : List Value} (hs : g.stack = .int (Int32.ofNat i) :: .ref a :: rest) (hd : decode c.code g.pc = .ok (.daload, 1)) :
    ∀ target, Steps p.tables e below (T.setTop { g with pc := g.pc + 1, stack := v :: rest }) target → Steps p.tables e below (T.setTop g) target := by
  obtain ⟨c0, A, r1, r2⟩ := A
  exact X.daload hx (j := Int32.ofNat i) (by rw [eT]; exact A.1) (State.isArrayOf_alike hZ.alike A.2.1) A.2.2 (by rw [r1]; exact idx_in hi hn) (by rw [own_clamp (by omega), ← hv]; exact r2 i hi) hg hs hd
theorem own_stZ (X : Stand p l e R s m args below meth c T locs cells slots) (hx : p.tables.exec = Jvm.exec) (hZ : Z.Warmed39 s.vm) (eT : T.heap = h) (A : own_Ar Z h a .boolean n f) (hn : n < 2 ^ 31) (hi : i < n) {x : Int32} (hxx : nar .boolean x = x) {g : JFrame} (hg : g.method = m) {rest : List Value} (hs : g.stack = .int x :: .int (Int32.ofNat i) :: .ref a :: rest) (hd : decode c.code g.pc = .ok (.bastore, 1)) :
    ∃ T' h', Stand p l e R s m args below meth c T' (locs ++ [⟨a, i⟩]) cells slots ∧ T'.heap = h' ∧ Wr h h' a i (.int x) ∧ own_Ar Z h' a .boolean n (own_upd f i (.int x)) ∧ ∀ target, Steps p.tables e below (T'.setTop { g with pc := g.pc + 1, stack := rest }) target → Steps p.tables e below (T.setTop g) target := by
  have A' := A
  obtain ⟨c0, A, r1, r2⟩ := A
  obtain ⟨T', h', X', e', W, st⟩ := stZ X hx hZ eT A (j := Int32.ofNat i) (x := x) (by rw [r1]; exact idx_in hi hn) hg hs hd
  rw [own_clamp (by omega)] at X' W
  rw [hxx] at W
  exact ⟨T', h', X', e', W, own_Ar_same W hi A', st⟩
theorem own_stI (X : Stand p l e R s m args below meth c T locs cells slots) (hx : p.tables.exec = Jvm.exec) (hZ : Z.Warmed39 s.vm) (eT : T.heap = h) (A : own_Ar Z h a .int n f) (hn : n < 2 ^ 31) (hi : i < n) {x : Int32} {g : JFrame} (hg : g.method = m) {rest : List Value} (hs : g.stack = .int x :: .int (Int32.ofNat i) :: .ref a :: rest) (hd : decode c.code g.pc = .ok (.iastore, 1)) :
    ∃ T' h', Stand p l e R s m args below meth c T' (locs ++ [⟨a, i⟩]) cells slots ∧ T'.heap = h' ∧ Wr h h' a i (.int x) ∧ own_Ar Z h' a .int n (own_upd f i (.int x)) ∧ ∀ target, Steps p.tables e below (T'.setTop { g with pc := g.pc + 1, stack := rest }) target → Steps p.tables e below (T.setTop g) target := by
  have A' := A
  obtain ⟨c0, A, r1, r2⟩ := A
  obtain ⟨T', h', X', e', W, st⟩ := stI X hx hZ eT A (j := Int32.ofNat i) (x := x) (by rw [r1]; exact idx_in hi hn) hg hs hd
  rw [own_clamp (by omega)] at X' W
  exact ⟨T', h', X', e', W, own_Ar_same W hi A', st⟩
theorem own_stJ (X : Stand p l e R s m args below meth c T locs cells slots) (hx : p.tables.exec = Jvm.exec) (hZ : Z.Warmed39 s.vm) (eT : T.heap = h) (A : own_Ar Z h a .long n f) (hn : n < 2 ^ 31) (hi : i < n) {x : Int64} {g : JFrame} (hg : g.method = m) {rest : List Value} (hs : g.stack = .long x :: .int (Int32.ofNat i) :: .ref a :: rest) (hd : decode c.code g.pc = .ok (.lastore, 1)) :
    ∃ T' h', Stand p l e R s m args below meth c T' (locs ++ [⟨a, i⟩]) cells slots ∧ T'.heap = h' ∧ Wr h h' a i (.long x) ∧ own_Ar Z h' a .long n (own_upd f i (.long x)) ∧ ∀ target, Steps p.tables e below (T'.setTop { g with pc := g.pc + 1, stack := rest }) target → Steps p.tables e below (T.setTop g) target := by
  have A' := A
  obtain ⟨c0, A, r1, r2⟩ := A
  obtain ⟨T', h', X', e', W, st⟩ := stJ X hx hZ eT A (j := Int32.ofNat i) (x := x) (by rw [r1]; exact idx_in hi hn) hg hs hd
  rw [own_clamp (by omega)] at X' W
  exact ⟨T', h', X', e', W, own_Ar_same W hi A', st⟩
theorem own_stD (X : Stand p l e R s m args below meth c T locs cells slots) (hx : p.tables.exec = Jvm.exec) (hZ : Z.Warmed39 s.vm) (eT : T.heap = h) (A : own_Ar Z h a .double n f) (hn : n < 2 ^ 31) (hi : i < n) {x : UInt64} {g : JFrame} (hg : g.method = m) {rest : List Value} (hs : g.stack = .double x :: .int (Int32.ofNat i) :: .ref a :: rest) (hd : decode c.code g.pc = .ok (.dastore, 1)) :
    ∃ T' h', Stand p l e R s m args below meth c T' (locs ++ [⟨a, i⟩]) cells slots ∧ T'.heap = h' ∧ Wr h h' a i (.double x) ∧ own_Ar Z h' a .double n (own_upd f i (.double x)) ∧ ∀ target, Steps p.tables e below (T'.setTop { g with pc := g.pc + 1, stack := rest }) target → Steps p.tables e below (T.setTop g) target := by
  have A' := A
  obtain ⟨c0, A, r1, r2⟩ := A
  obtain ⟨T', h', X', e', W, st⟩ := stD X hx hZ eT A (j := Int32.ofNat i) (x := x) (by rw [r1]; exact idx_in hi hn) hg hs hd
  rw [own_clamp (by omega)] at X' W
  exact ⟨T', h', X', e', W, own_Ar_same W hi A', st⟩
end OwnArr
/-! plain: counting bits -/
section OwnBits
def own_cnt (f : Nat → Bool) : Nat → Nat
  | 0 => 0
  | n + 1 => own_cnt f n + (if f n = true then 1 else 0)
theorem own_cnt_congr {f g : Nat → Bool} : ∀ n, (∀ j, j < n → f j = g j) → own_cnt f n = own_cnt g n
  | 0, _ => rfl
  | n + 1, h => by
    show own_cnt f n + _ = own_cnt g n + _
    rw [own_cnt_congr n (fun j hj => h j (by omega)), h n (by omega)]
theorem own_cnt_add (f : Nat → Bool) (a : Nat) : ∀ n, own_cnt f (a + n) = own_cnt f a + own_cnt (fun j => f (a + j)) n
  | 0 => rfl
  | n + 1 => by
    show own_cnt f (a + n) + (if f (a + n) = true then 1 else 0) = own_cnt f a + (own_cnt (fun j => f (a + j)) n + (if f (a + n) = true then 1 else 0))
    rw [own_cnt_add f a n]
    omega
theorem own_cnt_zero {f : Nat → Bool} : ∀ n, (∀ j, j < n → f j = false) → own_cnt f n = 0
  | 0, _ => rfl
  | n + 1, h => by
    show own_cnt f n + _ = 0
    rw [own_cnt_zero n (fun j hj => h j (by omega)), h n (by omega)]
    rfl
theorem own_cnt_le (f : Nat → Bool) : ∀ n, own_cnt f n ≤ n
  | 0 => Nat.le_refl _
  | n + 1 => by
    show own_cnt f n + _ ≤ n + 1
    have := own_cnt_le f n
    split <;> omega
theorem own_cnt_mask (v c : Nat) (n : Nat) (hc : c ≤ n) : own_cnt (v &&& (2 ^ c - 1)).testBit n = own_cnt v.testBit c := by
  obtain ⟨d, rfl⟩ : ∃ d, n = c + d := ⟨n - c, by omega⟩
  rw [own_cnt_add]
  have e1 : own_cnt (v &&& (2 ^ c - 1)).testBit c = own_cnt v.testBit c := own_cnt_congr c fun j hj => by
    rw [Nat.testBit_and, Nat.testBit_two_pow_sub_one]; simp [hj]
  have e2 : own_cnt (fun j => (v &&& (2 ^ c - 1)).testBit (c + j)) d = 0 := own_cnt_zero d fun j hj => by
    show (v &&& (2 ^ c - 1)).testBit (c + j) = false
    rw [Nat.testBit_and, Nat.testBit_two_pow_sub_one]; simp
  rw [e1, e2]
  rfl
theorem own_and_split (lo hi ml mh : Nat) (h1 : lo < 256) (h2 : ml < 256) : (lo + 256 * hi) &&& (ml + 256 * mh) = (lo &&& ml) + 256 * (hi &&& mh) := by
  have hl : (lo &&& ml) < 2 ^ 8 := Nat.lt_of_le_of_lt Nat.and_le_left h1
  have a1 : lo + 256 * hi = 2 ^ 8 * hi + lo := by omega
  have a2 : ml + 256 * mh = 2 ^ 8 * mh + ml := by omega
  have a3 : (lo &&& ml) + 256 * (hi &&& mh) = 2 ^ 8 * (hi &&& mh) + (lo &&& ml) := by omega
  rw [a1, a2, a3]
  apply Nat.eq_of_testBit_eq
  intro j
  rw [Nat.testBit_and, Nat.testBit_two_pow_mul_add _ h1, Nat.testBit_two_pow_mul_add _ h2, Nat.testBit_two_pow_mul_add _ hl]
  split
  · rw [Nat.testBit_and]
  · rw [Nat.testBit_and]
def own_m (m : Nat) : Nat → Nat
  | 0 => 0
  | k + 1 => m + 256 * own_m m k
def own_S1 (k x : Nat) : Nat := x - ((x / 2) &&& own_m 85 k)
def own_S2 (k x : Nat) : Nat := (x &&& own_m 51 k) + ((x / 4) &&& own_m 51 k)
def own_S3 (k x : Nat) : Nat := (x + x / 16) &&& own_m 15 k
def own_f1 (b : Nat) : Nat := b - ((b / 2) &&& 85)
def own_f2 (b : Nat) : Nat := (b &&& 51) + ((b / 4) &&& 51)
def own_f3 (b : Nat) : Nat := (b + b / 16) &&& 15
def own_pc (b : Nat) : Nat := own_cnt b.testBit 8
theorem own_t1 : ∀ b : Fin 256, ∀ t : Fin 2, ((b.val / 2 + 128 * t.val) &&& 85) = ((b.val / 2) &&& 85) := by decide +kernel
theorem own_t2 : ∀ b : Fin 256, ∀ t : Fin 4, ((b.val / 4 + 64 * t.val) &&& 51) = ((b.val / 4) &&& 51) := by decide +kernel
theorem own_t3 : ∀ b : Fin 256, ∀ t : Fin 5, b.val % 16 ≤ 4 → b.val / 16 ≤ 4 → ((b.val + (b.val / 16 + 16 * t.val)) &&& 15) = own_f3 b.val := by decide +kernel
theorem own_t4 : ∀ b : Fin 256, own_f1 b.val < 256 ∧ own_f2 (own_f1 b.val) < 256 ∧ own_f2 (own_f1 b.val) % 16 ≤ 4 ∧ own_f2 (own_f1 b.val) / 16 ≤ 4 ∧ own_f3 (own_f2 (own_f1 b.val)) = own_pc b.val ∧ own_pc b.val ≤ 8 := by decide +kernel
theorem own_s1 (k : Nat) {b y : Nat} (hb : b < 256) : own_S1 (k + 1) (b + 256 * y) = own_f1 b + 256 * own_S1 k y := by
  unfold own_S1 own_f1
  have e : (b + 256 * y) / 2 = (b / 2 + 128 * (y % 2)) + 256 * (y / 2) := by omega
  have h1 := own_t1 ⟨b, hb⟩ ⟨y % 2, Nat.mod_lt _ (by decide)⟩
  show b + 256 * y - (((b + 256 * y) / 2) &&& (85 + 256 * own_m 85 k)) = _
  rw [e, own_and_split _ _ _ _ (by omega) (by decide)]
  dsimp only at h1
  rw [h1]
  have l1 : ((b / 2) &&& 85) ≤ b / 2 := Nat.and_le_left
  have l2 : ((y / 2) &&& own_m 85 k) ≤ y / 2 := Nat.and_le_left
  omega
theorem own_s2 (k : Nat) {b y : Nat} (hb : b < 256) : own_S2 (k + 1) (b + 256 * y) = own_f2 b + 256 * own_S2 k y := by
  unfold own_S2 own_f2
  have e : (b + 256 * y) / 4 = (b / 4 + 64 * (y % 4)) + 256 * (y / 4) := by omega
  have h1 := own_t2 ⟨b, hb⟩ ⟨y % 4, Nat.mod_lt _ (by decide)⟩
  show ((b + 256 * y) &&& (51 + 256 * own_m 51 k)) + (((b + 256 * y) / 4) &&& (51 + 256 * own_m 51 k)) = _
  rw [e, own_and_split _ _ _ _ hb (by decide), own_and_split _ _ _ _ (by omega) (by decide)]
  dsimp only at h1
  rw [h1]
  omega
theorem own_s3 (k : Nat) {b y : Nat} (hb : b < 256) (h1 : b % 16 ≤ 4) (h2 : b / 16 ≤ 4) (h3 : y % 16 ≤ 4) : own_S3 (k + 1) (b + 256 * y) = own_f3 b + 256 * own_S3 k y := by
  unfold own_S3
  have e : (b + 256 * y) + (b + 256 * y) / 16 = (b + (b / 16 + 16 * (y % 16))) + 256 * (y + y / 16) := by omega
  have q := own_t3 ⟨b, hb⟩ ⟨y % 16, by omega⟩ h1 h2
  show (((b + 256 * y) + (b + 256 * y) / 16) &&& (15 + 256 * own_m 15 k)) = _
  rw [e, own_and_split _ _ _ _ (by omega) (by decide)]
  dsimp only at q
  rw [q]
def own_B : Nat → Nat → Nat
  | 0, _ => 0
  | k + 1, x => own_pc (x % 256) + 256 * own_B k (x / 256)
def own_T : Nat → Nat → Nat
  | 0, _ => 0
  | k + 1, x => own_pc (x % 256) + own_T k (x / 256)
theorem own_steps : ∀ (k x : Nat), x < 256 ^ k → own_S3 k (own_S2 k (own_S1 k x)) = own_B k x ∧ own_S2 k (own_S1 k x) % 16 ≤ 4
  | 0, x, h => by
    have : x = 0 := by simpa using h
    subst this
    exact ⟨by decide, by decide⟩
  | k + 1, x, h => by
    have hy : x / 256 < 256 ^ k := by
      rw [Nat.pow_succ] at h
      exact Nat.div_lt_of_lt_mul (by rw [Nat.mul_comm]; exact h)
    obtain ⟨i1, i2⟩ := own_steps k (x / 256) hy
    have hb : x % 256 < 256 := Nat.mod_lt _ (by decide)
    have hx : x = x % 256 + 256 * (x / 256) := by omega
    obtain ⟨q1, q2, q3, q4, q5, -⟩ := own_t4 ⟨x % 256, hb⟩
    dsimp only at q1 q2 q3 q4 q5
    have e1 : own_S1 (k + 1) x = own_f1 (x % 256) + 256 * own_S1 k (x / 256) := by
      have := own_s1 k (y := x / 256) hb
      rw [← hx] at this
      exact this
    rw [e1, own_s2 k q1]
    refine ⟨?_, by omega⟩
    rw [own_s3 k q2 q3 q4 i2, q5, i1]
    rfl
theorem own_T_cnt : ∀ (k x : Nat), own_T k x = own_cnt x.testBit (8 * k)
  | 0, _ => rfl
  | k + 1, x => by
    show own_pc (x % 256) + own_T k (x / 256) = _
    rw [own_T_cnt k (x / 256), show 8 * (k + 1) = 8 + 8 * k by omega, own_cnt_add]
    congr 1
    · exact own_cnt_congr 8 fun j hj => by
        rw [show (256 : Nat) = 2 ^ 8 from rfl, Nat.testBit_mod_two_pow]; simp [hj]
    · exact own_cnt_congr _ fun j _ => by
        rw [show (256 : Nat) = 2 ^ 8 from rfl, Nat.testBit_div_two_pow]
        rw [Nat.add_comm]
theorem own_pc_le (b : Nat) : own_pc b ≤ 8 := own_cnt_le _ 8
theorem own_fin (H T L : Nat) (l : L < 72057594037927936) (s : T ≤ 64) : (H * 18446744073709551616 + (T * 72057594037927936 + L)) % 18446744073709551616 / 72057594037927936 = T := by omega
theorem own_bytes {p0 p1 p2 p3 p4 p5 p6 p7 B T : Nat} (h0 : p0 ≤ 8) (h1 : p1 ≤ 8) (h2 : p2 ≤ 8) (h3 : p3 ≤ 8) (h4 : p4 ≤ 8) (h5 : p5 ≤ 8) (h6 : p6 ≤ 8) (h7 : p7 ≤ 8) (hB : B = 1 * p0 + 256 * p1 + 65536 * p2 + 16777216 * p3 + 4294967296 * p4 + 1099511627776 * p5 + 281474976710656 * p6 + 72057594037927936 * p7) (hT : T = p0 + p1 + p2 + p3 + p4 + p5 + p6 + p7) :
    B * 72340172838076673 % 18446744073709551616 / 72057594037927936 = T := by
  have e : B * 72340172838076673 = (1 * (p1 + p2 + p3 + p4 + p5 + p6 + p7) + 256 * (p2 + p3 + p4 + p5 + p6 + p7) + 65536 * (p3 + p4 + p5 + p6 + p7) + 16777216 * (p4 + p5 + p6 + p7) + 4294967296 * (p5 + p6 + p7) + 1099511627776 * (p6 + p7) + 281474976710656 * (p7)) * 18446744073709551616 + (T * 72057594037927936 + (1 * (p0) + 256 * (p0 + p1) + 65536 * (p0 + p1 + p2) + 16777216 * (p0 + p1 + p2 + p3) + 4294967296 * (p0 + p1 + p2 + p3 + p4) + 1099511627776 * (p0 + p1 + p2 + p3 + p4 + p5) + 281474976710656 * (p0 + p1 + p2 + p3 + p4 + p5 + p6))) := by omega
  rw [e]
  exact own_fin _ _ _ (by omega) (by omega)
theorem own_top (x : Nat) : own_B 8 x * 72340172838076673 % 18446744073709551616 / 72057594037927936 = own_T 8 x := by
  have h0 := own_pc_le (x % 256)
  have h1 := own_pc_le (x / 256 % 256)
  have h2 := own_pc_le (x / 256 / 256 % 256)
  have h3 := own_pc_le (x / 256 / 256 / 256 % 256)
  have h4 := own_pc_le (x / 256 / 256 / 256 / 256 % 256)
  have h5 := own_pc_le (x / 256 / 256 / 256 / 256 / 256 % 256)
  have h6 := own_pc_le (x / 256 / 256 / 256 / 256 / 256 / 256 % 256)
  have h7 := own_pc_le (x / 256 / 256 / 256 / 256 / 256 / 256 / 256 % 256)
  simp only [own_B, own_T]
  generalize own_pc (x % 256) = p0 at *
  generalize own_pc (x / 256 % 256) = p1 at *
  generalize own_pc (x / 256 / 256 % 256) = p2 at *
  generalize own_pc (x / 256 / 256 / 256 % 256) = p3 at *
  generalize own_pc (x / 256 / 256 / 256 / 256 % 256) = p4 at *
  generalize own_pc (x / 256 / 256 / 256 / 256 / 256 % 256) = p5 at *
  generalize own_pc (x / 256 / 256 / 256 / 256 / 256 / 256 % 256) = p6 at *
  generalize own_pc (x / 256 / 256 / 256 / 256 / 256 / 256 / 256 % 256) = p7 at *
  exact own_bytes h0 h1 h2 h3 h4 h5 h6 h7 (by omega) (by omega)
/-- a long's bits as a natural -/
def own_N (x : Int64) : Nat := x.toBitVec.toNat
theorem own_N_lt (x : Int64) : own_N x < 18446744073709551616 := x.toBitVec.isLt
theorem own_N_int (x : Int64) : (own_N x : Int) = x.toInt % 18446744073709551616 := by
  have q := BitVec.toInt_eq_toNat_cond x.toBitVec
  have l := own_N_lt x
  have e : x.toInt = x.toBitVec.toInt := rfl
  unfold own_N at *
  rw [e, q]
  split <;> omega
theorem own_N_and (x y : Int64) : own_N (x &&& y) = own_N x &&& own_N y := by
  unfold own_N
  rw [Int64.toBitVec_and, BitVec.toNat_and]
theorem own_N_or (x y : Int64) : own_N (x ||| y) = own_N x ||| own_N y := by
  unfold own_N
  rw [Int64.toBitVec_or, BitVec.toNat_or]
theorem own_N_add (x y : Int64) : own_N (x + y) = (own_N x + own_N y) % 18446744073709551616 := by
  unfold own_N
  rw [Int64.toBitVec_add, BitVec.toNat_add]
theorem own_N_sub {x y : Int64} (h : own_N y ≤ own_N x) : own_N (x - y) = own_N x - own_N y := by
  have l := own_N_lt x
  unfold own_N at *
  rw [Int64.toBitVec_sub, BitVec.toNat_sub]
  omega
theorem own_N_mul (x y : Int64) : own_N (x * y) = (own_N x * own_N y) % 18446744073709551616 := by
  unfold own_N
  rw [Int64.toBitVec_mul, BitVec.toNat_mul]
theorem own_N_ushr (x : Int64) (q : Int32) (k : Nat) (hk : q.toBitVec.toNat % 64 = k) (h0 : 0 < k) : own_N ((x.toUInt64 >>> (q &&& 0x3f).toInt64.toUInt64).toInt64) = own_N x / 2 ^ k := by
  have h := c_lushr x q k hk h0
  have h1 := own_N_int x
  have h2 := own_N_int ((x.toUInt64 >>> (q &&& 0x3f).toInt64.toUInt64).toInt64)
  rw [← h1] at h
  rw [h] at h2
  have h3 : (own_N x : Int) / ((2 ^ k : Nat) : Int) = ((own_N x / 2 ^ k : Nat) : Int) := rfl
  rw [h3] at h2
  have l := own_N_lt x
  have l2 : own_N x / 2 ^ k ≤ own_N x := Nat.div_le_self _ _
  clear h h3 h1
  generalize own_N x / 2 ^ k = d at *
  omega
/-- the law's popcount -/
def own_pA (v : Int64) : Int64 := v - (((v.toUInt64 >>> ((1 : Int32) &&& 0x3f).toInt64.toUInt64).toInt64) &&& (6148914691236517205 : Int64))
def own_pB (a : Int64) : Int64 := (a &&& (3689348814741910323 : Int64)) + (((a.toUInt64 >>> ((2 : Int32) &&& 0x3f).toInt64.toUInt64).toInt64) &&& (3689348814741910323 : Int64))
def own_pC (b : Int64) : Int64 := (b + ((b.toUInt64 >>> ((4 : Int32) &&& 0x3f).toInt64.toUInt64).toInt64)) &&& (1085102592571150095 : Int64)
def own_pop (v : Int64) : Int32 := (((own_pC (own_pB (own_pA v)) * (72340172838076673 : Int64)).toUInt64 >>> ((56 : Int32) &&& 0x3f).toInt64.toUInt64).toInt64).toInt32
theorem own_S2_lt (x : Nat) : own_S2 8 x < 18446744073709551616 := by
  unfold own_S2
  have h1 : (x &&& own_m 51 8) ≤ own_m 51 8 := Nat.and_le_right
  have h2 : ((x / 4) &&& own_m 51 8) ≤ own_m 51 8 := Nat.and_le_right
  have h3 : own_m 51 8 = 3689348814741910323 := by decide
  omega
theorem own_pop_cnt (v : Int64) : own_pop v = Int32.ofNat (own_cnt (own_N v).testBit 64) := by
  have m1 : own_N (6148914691236517205 : Int64) = own_m 85 8 := by decide
  have m2 : own_N (3689348814741910323 : Int64) = own_m 51 8 := by decide
  have m3 : own_N (1085102592571150095 : Int64) = own_m 15 8 := by decide
  have m4 : own_N (72340172838076673 : Int64) = 72340172838076673 := by decide
  unfold own_pop
  obtain ⟨a, ha0⟩ : ∃ a, a = own_pA v := ⟨_, rfl⟩
  have ha : a = v - (((v.toUInt64 >>> ((1 : Int32) &&& 0x3f).toInt64.toUInt64).toInt64) &&& (6148914691236517205 : Int64)) := ha0
  have hA : own_N a = own_S1 8 (own_N v) := by
    have e : own_N (((v.toUInt64 >>> ((1 : Int32) &&& 0x3f).toInt64.toUInt64).toInt64) &&& (6148914691236517205 : Int64)) = ((own_N v / 2) &&& own_m 85 8) := by
      rw [own_N_and, own_N_ushr v 1 1 (by decide) (by decide), m1]
    have l : ((own_N v / 2) &&& own_m 85 8) ≤ own_N v / 2 := Nat.and_le_left
    rw [ha, own_N_sub (by rw [e]; omega), e]
    rfl
  obtain ⟨b, hb0⟩ : ∃ b, b = own_pB a := ⟨_, rfl⟩
  have hb : b = (a &&& (3689348814741910323 : Int64)) + (((a.toUInt64 >>> ((2 : Int32) &&& 0x3f).toInt64.toUInt64).toInt64) &&& (3689348814741910323 : Int64)) := hb0
  have hB : own_N b = own_S2 8 (own_N a) := by
    rw [hb, own_N_add, own_N_and, own_N_and, own_N_ushr a 2 2 (by decide) (by decide), m2]
    exact Nat.mod_eq_of_lt (own_S2_lt (own_N a))
  obtain ⟨c, hc0⟩ : ∃ c, c = own_pC b := ⟨_, rfl⟩
  have hc : c = (b + ((b.toUInt64 >>> ((4 : Int32) &&& 0x3f).toInt64.toUInt64).toInt64)) &&& (1085102592571150095 : Int64) := hc0
  have hC : own_N c = own_S3 8 (own_N b) := by
    rw [hc, own_N_and, own_N_add, own_N_ushr b 4 4 (by decide) (by decide), m3]
    have l : own_N b < 8000000000000000000 := by
      rw [hB]
      unfold own_S2
      have h1 : (own_N a &&& own_m 51 8) ≤ own_m 51 8 := Nat.and_le_right
      have h2 : ((own_N a / 4) &&& own_m 51 8) ≤ own_m 51 8 := Nat.and_le_right
      have h3 : own_m 51 8 = 3689348814741910323 := by decide
      omega
    rw [Nat.mod_eq_of_lt (by omega)]
    rfl
  rw [← ha0, ← hb0, ← hc0]
  have hlt : own_N v < 256 ^ 8 := own_N_lt v
  have hfin : own_N (((c * (72340172838076673 : Int64)).toUInt64 >>> ((56 : Int32) &&& 0x3f).toInt64.toUInt64).toInt64) = own_cnt (own_N v).testBit 64 := by
    rw [own_N_ushr _ 56 56 (by decide) (by decide), own_N_mul, m4, hC, hB, hA, (own_steps 8 _ hlt).1]
    exact (own_top (own_N v)).trans (own_T_cnt 8 (own_N v))
  have hle := own_cnt_le (own_N v).testBit 64
  generalize ((c * (72340172838076673 : Int64)).toUInt64 >>> ((56 : Int32) &&& 0x3f).toInt64.toUInt64).toInt64 = r at *
  have hi := own_N_int r
  have hr := rng64 r
  have hl := c_l2i r
  have hr2 := rng32 r.toInt32
  refine Int32.toInt_inj.mp ?_
  rw [Int32.toInt_ofNat_of_lt (by omega)]
  rw [hfin] at hi
  omega
def own_low (c : Int32) : Int64 := ((1 : Int64) <<< (c &&& 0x3f).toInt64) - (1 : Int64)
theorem own_shl1 {c : Nat} (h : c < 63) : own_N ((1 : Int64) <<< ((Int32.ofNat c) &&& 0x3f).toInt64) = 2 ^ c := by
  have hm : (Int32.ofNat c).toBitVec.toNat % 64 = c := by
    have : (Int32.ofNat c).toBitVec.toNat = c := by
      show (BitVec.ofNat 32 c).toNat = c
      rw [BitVec.toNat_ofNat]
      exact Nat.mod_eq_of_lt (by omega)
    rw [this]
    exact Nat.mod_eq_of_lt (by omega)
  have h1 := c_lshl (1 : Int64) (Int32.ofNat c) c hm
  rw [show (1 : Int64).toInt = 1 by decide] at h1
  have h2 := own_N_int ((1 : Int64) <<< ((Int32.ofNat c) &&& 0x3f).toInt64)
  have hp : (2 : Nat) ^ c < 2 ^ 63 := Nat.pow_lt_pow_right (by decide) h
  have hl := own_N_lt ((1 : Int64) <<< ((Int32.ofNat c) &&& 0x3f).toInt64)
  rw [show (2 : Nat) ^ 63 = 9223372036854775808 by decide] at hp
  generalize (2 : Nat) ^ c = P at *
  omega
theorem own_low_N {c : Nat} (h : c < 63) : own_N (own_low (Int32.ofNat c)) = 2 ^ c - 1 := by
  unfold own_low
  have h1 := own_shl1 h
  have hp := Nat.two_pow_pos c
  rw [own_N_sub (by rw [h1]; show 1 ≤ 2 ^ c; omega), h1]
  rfl
/-- the law's count: of the pattern's first c bits -/
theorem own_pop_low (v : Int64) {c : Nat} (h : c < 63) : own_pop (v &&& own_low (Int32.ofNat c)) = Int32.ofNat (own_cnt (own_N v).testBit c) := by
  rw [own_pop_cnt, own_N_and, own_low_N h, own_cnt_mask _ _ _ (by omega)]
theorem own_ushr0 (v : Int64) : (v.toUInt64 >>> ((Int32.ofNat 0) &&& 0x3f).toInt64.toUInt64).toInt64 = v := by
  have e : ((Int32.ofNat 0) &&& 0x3f).toInt64.toUInt64 = 0 := by decide
  rw [e, UInt64.shiftRight_zero]
  rfl
/-- the bit that set lays -/
def own_bit (v : Int64) (j : Nat) : Bool := (own_N v).testBit j
def own_bv (v : Int64) (j : Nat) : Value := .int (if own_bit v j = true then 1 else 0)
theorem own_bit_at (v : Int64) {j : Nat} (h : j < 63) : ((((v.toUInt64 >>> ((Int32.ofNat j) &&& 0x3f).toInt64.toUInt64).toInt64) &&& (1 : Int64)) = 0) ↔ own_bit v j = false := by
  have hm : (Int32.ofNat j).toBitVec.toNat % 64 = j := by
    have : (Int32.ofNat j).toBitVec.toNat = j := by
      show (BitVec.ofNat 32 j).toNat = j
      rw [BitVec.toNat_ofNat]
      exact Nat.mod_eq_of_lt (by omega)
    rw [this]
    exact Nat.mod_eq_of_lt (by omega)
  have key : own_N (((v.toUInt64 >>> ((Int32.ofNat j) &&& 0x3f).toInt64.toUInt64).toInt64) &&& (1 : Int64)) = own_N v / 2 ^ j % 2 := by
    rw [own_N_and, show own_N (1 : Int64) = 1 by decide, Nat.and_one_is_mod]
    by_cases h0 : j = 0
    · subst h0
      rw [show (v.toUInt64 >>> ((Int32.ofNat 0) &&& 0x3f).toInt64.toUInt64).toInt64 = v from own_ushr0 v, Nat.pow_zero, Nat.div_one]
    · rw [own_N_ushr v (Int32.ofNat j) j hm (by omega)]
  have z : ∀ x : Int64, x = 0 ↔ own_N x = 0 := fun x => by
    constructor
    · rintro rfl; decide
    · intro q
      exact Int64.toBitVec_inj.mp (BitVec.eq_of_toNat_eq q)
  rw [z, key]
  unfold own_bit
  rw [Nat.testBit_eq_decide_div_mod_eq, decide_eq_false_iff_not]
  omega
end OwnBits
section OwnAp
theorem own_i32 {n : Nat} (h : n < 2147483648) : (Int32.ofNat n).toInt = n := Int32.toInt_ofNat_of_lt h
theorem own_succ (n : Nat) : Int32.ofNat n + (1 : Int32) = Int32.ofNat (n + 1) := (Int32.ofNat_add n 1).symm
/-- averagePrecision's two running values, j ranks read -/
def own_ap (bit : Nat → Bool) : Nat → UInt64 × Nat
  | 0 => (0, 0)
  | j + 1 => if bit j = true then (FP.dadd (own_ap bit j).1 (FP.ddiv (FP.i2d (Int32.ofNat ((own_ap bit j).2 + 1))) (FP.i2d (Int32.ofNat (j + 1)))), (own_ap bit j).2 + 1) else own_ap bit j
theorem own_ap_le (bit : Nat → Bool) : ∀ j, (own_ap bit j).2 ≤ j
  | 0 => Nat.le_refl _
  | j + 1 => by
    have := own_ap_le bit j
    unfold own_ap
    split
    · show (own_ap bit j).2 + 1 ≤ j + 1
      omega
    · omega
theorem own_ap_quo (bit : Nat → Bool) {j : Nat} (hj : j < 1000) : OwnFp.DF (FP.ddiv (FP.i2d (Int32.ofNat ((own_ap bit j).2 + 1))) (FP.i2d (Int32.ofNat (j + 1)))) := by
  have := own_ap_le bit j
  refine OwnFp.quo_fin ?_ ?_ ?_
  · rw [own_i32 (by omega)]; omega
  · rw [own_i32 (by omega)]; omega
  · rw [own_i32 (by omega), own_i32 (by omega)]; omega
theorem own_ap_fin (bit : Nat → Bool) : ∀ j, j < 1000 → OwnFp.NN (own_ap bit j).1
  | 0, _ => OwnFp.fin_nan OwnFp.fin_0
  | j + 1, h => by
    have i := own_ap_fin bit j (by omega)
    have q := own_ap_quo bit (j := j) (by omega)
    unfold own_ap
    split
    · exact OwnFp.add_nan' i q
    · exact i
theorem own_ap_rest {bit : Nat → Bool} {j : Nat} : ∀ d, (∀ i, j ≤ i → i < j + d → bit i = false) → own_ap bit (j + d) = own_ap bit j
  | 0, _ => rfl
  | d + 1, h => by
    show (if bit (j + d) = true then _ else own_ap bit (j + d)) = _
    rw [if_neg (by rw [h (j + d) (by omega) (by omega)]; decide)]
    exact own_ap_rest d fun i h1 h2 => h i h1 (by omega)
theorem own_ap_low {bit : Nat → Bool} : ∀ m, m < 1000 → (∀ i, i < m → bit i = true) → own_ap bit m = (FP.i2d (Int32.ofNat m), m)
  | 0, _, _ => by
    show ((0 : UInt64), 0) = _
    rw [show Int32.ofNat 0 = 0 from rfl, show FP.i2d 0 = 0 from OwnFp.i2d_zero]
  | m + 1, hm, h => by
    have i := own_ap_low m (by omega) (fun i hi => h i (by omega))
    unfold own_ap
    rw [if_pos (h m (by omega)), i]
    show (FP.dadd (FP.i2d (Int32.ofNat m)) (FP.ddiv (FP.i2d (Int32.ofNat (m + 1))) (FP.i2d (Int32.ofNat (m + 1)))), m + 1) = _
    rw [show FP.ddiv (FP.i2d (Int32.ofNat (m + 1))) (FP.i2d (Int32.ofNat (m + 1))) = 4607182418800017408 from OwnFp.quo_self (by rw [own_i32 (by omega)]; omega)]
    rw [show FP.dadd (FP.i2d (Int32.ofNat m)) 4607182418800017408 = FP.i2d (Int32.ofNat (m + 1)) from OwnFp.add_one (by rw [own_i32 (by omega)]; omega) (by rw [own_i32 (by omega), own_i32 (by omega)]; omega)]
/-- m relevant ranks at the top, none besides -/
theorem own_ap_m {bit : Nat → Bool} {m n : Nat} (hmn : m ≤ n) (hn : n < 1000) (h1 : ∀ i, i < m → bit i = true) (h2 : ∀ i, m ≤ i → i < n → bit i = false) : (own_ap bit n).1 = FP.i2d (Int32.ofNat m) := by
  obtain ⟨d, rfl⟩ : ∃ d, n = m + d := ⟨n - m, by omega⟩
  rw [own_ap_rest d h2, own_ap_low m (by omega) h1]
/-- .. and one at the place p -/
theorem own_ap_p {bit : Nat → Bool} {m p n : Nat} (hmp : m ≤ p) (hpn : p < n) (hn : n < 1000) (h1 : ∀ i, i < m → bit i = true) (h2 : ∀ i, m ≤ i → i < n → (bit i = true ↔ i = p)) :
    (own_ap bit n).1 = FP.dadd (FP.i2d (Int32.ofNat m)) (FP.ddiv (FP.i2d (Int32.ofNat (m + 1))) (FP.i2d (Int32.ofNat (p + 1)))) := by
  obtain ⟨d, rfl⟩ : ∃ d, n = (p + 1) + d := ⟨n - (p + 1), by omega⟩
  have r1 : own_ap bit (p + 1 + d) = own_ap bit (p + 1) := own_ap_rest d fun i a b => by
    have := h2 i (by omega) (by omega)
    cases hb : bit i
    · rfl
    · have := this.mp hb; omega
  obtain ⟨k, rfl⟩ : ∃ k, p = m + k := ⟨p - m, by omega⟩
  have r2 : own_ap bit (m + k) = own_ap bit m := own_ap_rest k fun i a b => by
    have := h2 i (by omega) (by omega)
    cases hb : bit i
    · rfl
    · have := this.mp hb; omega
  rw [r1]
  have hb : bit (m + k) = true := (h2 (m + k) (by omega) (by omega)).mpr rfl
  show (own_ap bit (m + k + 1)).1 = _
  unfold own_ap
  rw [if_pos hb, r2, own_ap_low m (by omega) h1]
/-- the law's n, m, p as naturals -/
theorem own_n (x : Int32) : ∃ n : Nat, n ≤ 33 ∧ (x &&& (2147483647 : Int32)) % (34 : Int32) = Int32.ofNat n := by
  have h := (c_and x 2147483647 (by decide)).1
  have q := (c_irem (x &&& (2147483647 : Int32)) 34 34 (by decide)).1 h
  refine ⟨((x &&& (2147483647 : Int32)) % (34 : Int32)).toInt.toNat, by omega, Int32.toInt_inj.mp ?_⟩
  rw [own_i32 (by omega)]
  omega
theorem own_mm (x : Int32) {n : Nat} (hn : n ≤ 33) : ∃ m : Nat, m ≤ n ∧ (x &&& (2147483647 : Int32)) % (Int32.ofNat n + (1 : Int32)) = Int32.ofNat m := by
  have h := (c_and x 2147483647 (by decide)).1
  have e : (Int32.ofNat n + (1 : Int32)).toInt = ((n + 1 : Nat) : Int) := by rw [own_succ, own_i32 (by omega)]
  have q := (c_irem (x &&& (2147483647 : Int32)) (Int32.ofNat n + (1 : Int32)) _ e).1 h
  have q1 := Int.emod_nonneg (x &&& (2147483647 : Int32)).toInt (show ((n + 1 : Nat) : Int) ≠ 0 by omega)
  have q2 := Int.emod_lt_of_pos (x &&& (2147483647 : Int32)).toInt (show (0 : Int) < ((n + 1 : Nat) : Int) by omega)
  refine ⟨((x &&& (2147483647 : Int32)) % (Int32.ofNat n + (1 : Int32))).toInt.toNat, by omega, Int32.toInt_inj.mp ?_⟩
  rw [own_i32 (by omega)]
  omega
theorem own_mnz {n : Nat} (hn : n ≤ 33) : Int32.ofNat n + (1 : Int32) ≠ 0 := fun q => by
  have := congrArg Int32.toInt q
  rw [own_succ, own_i32 (by omega), show (0 : Int32).toInt = 0 by decide] at this
  omega
theorem own_dsub {m n : Nat} (hmn : m ≤ n) (hn : n ≤ 33) : (Int32.ofNat n - Int32.ofNat m).toInt = ((n - m : Nat) : Int) := by
  have e := c_isub (Int32.ofNat n) (Int32.ofNat m)
  rw [own_i32 (by omega), own_i32 (by omega)] at e
  have r := rng32 (Int32.ofNat n - Int32.ofNat m)
  omega
theorem own_pnz {m n : Nat} (hmn : m < n) (hn : n ≤ 33) : Int32.ofNat n - Int32.ofNat m ≠ 0 := fun q => by
  have := congrArg Int32.toInt q
  rw [own_dsub (by omega) hn, show (0 : Int32).toInt = 0 by decide] at this
  omega
theorem own_pp (x : Int32) {m n : Nat} (hmn : m < n) (hn : n ≤ 33) : ∃ p : Nat, m ≤ p ∧ p < n ∧ Int32.ofNat m + (((x.toUInt32 >>> ((1 : Int32) &&& 31).toUInt32).toInt32) % (Int32.ofNat n - Int32.ofNat m)) = Int32.ofNat p := by
  have hu := c_iushr x 1 1 (by decide) (by decide)
  have h : 0 ≤ ((x.toUInt32 >>> ((1 : Int32) &&& 31).toUInt32).toInt32).toInt := by
    rw [hu]
    exact Int.ediv_nonneg (Int.emod_nonneg _ (by decide)) (by decide)
  generalize (x.toUInt32 >>> ((1 : Int32) &&& 31).toUInt32).toInt32 = y at *
  have e := own_dsub (Nat.le_of_lt hmn) hn
  have q := (c_irem y (Int32.ofNat n - Int32.ofNat m) _ e).1 h
  have q1 := Int.emod_nonneg y.toInt (show ((n - m : Nat) : Int) ≠ 0 by omega)
  have q2 := Int.emod_lt_of_pos y.toInt (show (0 : Int) < ((n - m : Nat) : Int) by omega)
  have a := c_iadd (Int32.ofNat m) (y % (Int32.ofNat n - Int32.ofNat m))
  rw [own_i32 (by omega)] at a
  have r := rng32 (Int32.ofNat m + y % (Int32.ofNat n - Int32.ofNat m))
  refine ⟨(Int32.ofNat m + y % (Int32.ofNat n - Int32.ofNat m)).toInt.toNat, by omega, by omega, Int32.toInt_inj.mp ?_⟩
  rw [own_i32 (by omega)]
  omega
theorem own_ilt {a b : Nat} (ha : a < 2147483648) (hb : b < 2147483648) : Int32.ofNat a < Int32.ofNat b ↔ a < b := by
  rw [Int32.lt_iff_toInt_lt, own_i32 ha, own_i32 hb]
  omega
theorem own_pos {a : Nat} (ha : a < 2147483648) : ¬ Int32.ofNat a < 0 := fun q => by
  have := Int32.lt_iff_toInt_lt.mp q
  rw [own_i32 ha, show (0 : Int32).toInt = 0 by decide] at this
  omega
/-- the pattern's bits, in the MAP case -/
theorem own_pat_m {m : Nat} (hm : m ≤ 33) (j : Nat) : own_bit (own_low (Int32.ofNat m) ||| (0 : Int64)) j = decide (j < m) := by
  unfold own_bit
  rw [own_N_or, own_low_N (by omega), show own_N (0 : Int64) = 0 by decide, Nat.or_zero, Nat.testBit_two_pow_sub_one]
theorem own_pat_p {m p : Nat} (hm : m ≤ 33) (hp : p ≤ 33) (j : Nat) : own_bit (own_low (Int32.ofNat m) ||| ((1 : Int64) <<< ((Int32.ofNat p) &&& 0x3f).toInt64)) j = (decide (j < m) || decide (p = j)) := by
  unfold own_bit
  rw [own_N_or, own_low_N (by omega), own_shl1 (by omega), Nat.testBit_or, Nat.testBit_two_pow_sub_one, Nat.testBit_two_pow]
end OwnAp
theorem d1_0 : decode method_3_code 0 = .ok (.iload_n 1, 1) := by decide +kernel
theorem d1_1 : decode method_3_code 1 = .ok (.aload_n 0, 1) := by decide +kernel
theorem d1_2 : decode method_3_code 2 = .ok (.arraylength, 1) := by decide +kernel
theorem d1_3 : decode method_3_code 3 = .ok (.if_icmp .ge 21, 3) := by decide +kernel
theorem d1_6 : decode method_3_code 6 = .ok (.aload_n 0, 1) := by decide +kernel
theorem d1_7 : decode method_3_code 7 = .ok (.iload_n 1, 1) := by decide +kernel
theorem d1_8 : decode method_3_code 8 = .ok (.lload_n 2, 1) := by decide +kernel
theorem d1_9 : decode method_3_code 9 = .ok (.iload_n 1, 1) := by decide +kernel
theorem d1_10 : decode method_3_code 10 = .ok (.lushr, 1) := by decide +kernel
theorem d1_11 : decode method_3_code 11 = .ok (.lconst 1, 1) := by decide +kernel
theorem d1_12 : decode method_3_code 12 = .ok (.land, 1) := by decide +kernel
theorem d1_13 : decode method_3_code 13 = .ok (.lconst 0, 1) := by decide +kernel
theorem d1_14 : decode method_3_code 14 = .ok (.lcmp, 1) := by decide +kernel
theorem d1_15 : decode method_3_code 15 = .ok (.ifCond .eq 7, 3) := by decide +kernel
theorem d1_18 : decode method_3_code 18 = .ok (.iconst 1, 1) := by decide +kernel
theorem d1_19 : decode method_3_code 19 = .ok (.goto 4, 3) := by decide +kernel
theorem d1_22 : decode method_3_code 22 = .ok (.iconst 0, 1) := by decide +kernel
theorem d1_23 : decode method_3_code 23 = .ok (.bastore, 1) := by decide +kernel
theorem d1_24 : decode method_3_code 24 = .ok (.return_, 1) := by decide +kernel
theorem pn_d1 : plainName "com/example/kobe/kobe/eval/MeasureScorePinLaw" = true := by first | (simp [plainName, overriddenIn]; done) | decide +kernel
theorem pd_d1 : parseMethodDescriptor "([ZIJ)V" = some ⟨[(.array .boolean), .int, .long], none⟩ := by decide +kernel
theorem d2_0 : decode prog_11_method_5_code 0 = .ok (.aload_n 0, 1) := by decide +kernel
theorem d2_1 : decode prog_11_method_5_code 1 = .ok (.getstatic 13, 3) := by decide +kernel
theorem d2_4 : decode prog_11_method_5_code 4 = .ok (.if_acmp .ne 11, 3) := by decide +kernel
theorem d2_7 : decode prog_11_method_5_code 7 = .ok (.aload_n 1, 1) := by decide +kernel
theorem d2_8 : decode prog_11_method_5_code 8 = .ok (.iload_n 2, 1) := by decide +kernel
theorem d2_9 : decode prog_11_method_5_code 9 = .ok (.invokestatic 43, 3) := by decide +kernel
theorem d2_12 : decode prog_11_method_5_code 12 = .ok (.goto 11, 3) := by decide +kernel
theorem d2_15 : decode prog_11_method_5_code 15 = .ok (.aload_n 0, 1) := by decide +kernel
theorem d2_16 : decode prog_11_method_5_code 16 = .ok (.getfield 39, 3) := by decide +kernel
theorem d2_19 : decode prog_11_method_5_code 19 = .ok (.aload_n 1, 1) := by decide +kernel
theorem d2_20 : decode prog_11_method_5_code 20 = .ok (.invokestatic 47, 3) := by decide +kernel
theorem d2_23 : decode prog_11_method_5_code 23 = .ok (.dreturn, 1) := by decide +kernel
theorem pn_d2 : plainName "com/example/kobe/kobe/eval/Measure" = true := by first | (simp [plainName, overriddenIn]; done) | decide +kernel
theorem pd_d2 : parseMethodDescriptor "([ZI)D" = some ⟨[(.array .boolean), .int], some .double⟩ := by decide +kernel
theorem d3_0 : decode prog_11_method_7_code 0 = .ok (.iconst 0, 1) := by decide +kernel
theorem d3_1 : decode prog_11_method_7_code 1 = .ok (.istore_n 2, 1) := by decide +kernel
theorem d3_2 : decode prog_11_method_7_code 2 = .ok (.iconst 0, 1) := by decide +kernel
theorem d3_3 : decode prog_11_method_7_code 3 = .ok (.istore_n 3, 1) := by decide +kernel
theorem d3_4 : decode prog_11_method_7_code 4 = .ok (.iload_n 3, 1) := by decide +kernel
theorem d3_5 : decode prog_11_method_7_code 5 = .ok (.iload_n 0, 1) := by decide +kernel
theorem d3_6 : decode prog_11_method_7_code 6 = .ok (.aload_n 1, 1) := by decide +kernel
theorem d3_7 : decode prog_11_method_7_code 7 = .ok (.arraylength, 1) := by decide +kernel
theorem d3_8 : decode prog_11_method_7_code 8 = .ok (.invokestatic 51, 3) := by decide +kernel
theorem d3_11 : decode prog_11_method_7_code 11 = .ok (.if_icmp .ge 18, 3) := by decide +kernel
theorem d3_14 : decode prog_11_method_7_code 14 = .ok (.aload_n 1, 1) := by decide +kernel
theorem d3_15 : decode prog_11_method_7_code 15 = .ok (.iload_n 3, 1) := by decide +kernel
theorem d3_16 : decode prog_11_method_7_code 16 = .ok (.baload, 1) := by decide +kernel
theorem d3_17 : decode prog_11_method_7_code 17 = .ok (.ifCond .eq 6, 3) := by decide +kernel
theorem d3_20 : decode prog_11_method_7_code 20 = .ok (.iinc 2 1, 3) := by decide +kernel
theorem d3_23 : decode prog_11_method_7_code 23 = .ok (.iinc 3 1, 3) := by decide +kernel
theorem d3_26 : decode prog_11_method_7_code 26 = .ok (.goto (-22), 3) := by decide +kernel
theorem d3_29 : decode prog_11_method_7_code 29 = .ok (.iload_n 2, 1) := by decide +kernel
theorem d3_30 : decode prog_11_method_7_code 30 = .ok (.i2d, 1) := by decide +kernel
theorem d3_31 : decode prog_11_method_7_code 31 = .ok (.iload_n 0, 1) := by decide +kernel
theorem d3_32 : decode prog_11_method_7_code 32 = .ok (.i2d, 1) := by decide +kernel
theorem d3_33 : decode prog_11_method_7_code 33 = .ok (.ddiv, 1) := by decide +kernel
theorem d3_34 : decode prog_11_method_7_code 34 = .ok (.dreturn, 1) := by decide +kernel
theorem pn_d3 : plainName "com/example/kobe/kobe/eval/Measure" = true := by first | (simp [plainName, overriddenIn]; done) | decide +kernel
theorem pd_d3 : parseMethodDescriptor "(I[Z)D" = some ⟨[.int, (.array .boolean)], some .double⟩ := by decide +kernel
theorem d4_0 : decode jdk_29_method_69_code 0 = .ok (.iload_n 0, 1) := by decide +kernel
theorem d4_1 : decode jdk_29_method_69_code 1 = .ok (.iload_n 1, 1) := by decide +kernel
theorem d4_2 : decode jdk_29_method_69_code 2 = .ok (.if_icmp .gt 7, 3) := by decide +kernel
theorem d4_5 : decode jdk_29_method_69_code 5 = .ok (.iload_n 0, 1) := by decide +kernel
theorem d4_6 : decode jdk_29_method_69_code 6 = .ok (.goto 4, 3) := by decide +kernel
theorem d4_9 : decode jdk_29_method_69_code 9 = .ok (.iload_n 1, 1) := by decide +kernel
theorem d4_10 : decode jdk_29_method_69_code 10 = .ok (.ireturn, 1) := by decide +kernel
theorem pd_d4 : parseMethodDescriptor "(II)I" = some ⟨[.int, .int], some .int⟩ := by decide +kernel
theorem d5_0 : decode method_4_code 0 = .ok (.lconst 1, 1) := by decide +kernel
theorem d5_1 : decode method_4_code 1 = .ok (.iload_n 0, 1) := by decide +kernel
theorem d5_2 : decode method_4_code 2 = .ok (.lshl, 1) := by decide +kernel
theorem d5_3 : decode method_4_code 3 = .ok (.lconst 1, 1) := by decide +kernel
theorem d5_4 : decode method_4_code 4 = .ok (.lsub, 1) := by decide +kernel
theorem d5_5 : decode method_4_code 5 = .ok (.lreturn, 1) := by decide +kernel
theorem pn_d5 : plainName "com/example/kobe/kobe/eval/MeasureScorePinLaw" = true := by first | (simp [plainName, overriddenIn]; done) | decide +kernel
theorem pd_d5 : parseMethodDescriptor "(I)J" = some ⟨[.int], some .long⟩ := by decide +kernel
theorem d6_0 : decode method_5_code 0 = .ok (.lload_n 0, 1) := by decide +kernel
theorem d6_1 : decode method_5_code 1 = .ok (.lstore_n 2, 1) := by decide +kernel
theorem d6_2 : decode method_5_code 2 = .ok (.lload_n 2, 1) := by decide +kernel
theorem d6_3 : decode method_5_code 3 = .ok (.lload_n 2, 1) := by decide +kernel
theorem d6_4 : decode method_5_code 4 = .ok (.iconst 1, 1) := by decide +kernel
theorem d6_5 : decode method_5_code 5 = .ok (.lushr, 1) := by decide +kernel
theorem d6_6 : decode method_5_code 6 = .ok (.ldc2_w 47, 3) := by decide +kernel
theorem d6_9 : decode method_5_code 9 = .ok (.land, 1) := by decide +kernel
theorem d6_10 : decode method_5_code 10 = .ok (.lsub, 1) := by decide +kernel
theorem d6_11 : decode method_5_code 11 = .ok (.lstore_n 2, 1) := by decide +kernel
theorem d6_12 : decode method_5_code 12 = .ok (.lload_n 2, 1) := by decide +kernel
theorem d6_13 : decode method_5_code 13 = .ok (.ldc2_w 49, 3) := by decide +kernel
theorem d6_16 : decode method_5_code 16 = .ok (.land, 1) := by decide +kernel
theorem d6_17 : decode method_5_code 17 = .ok (.lload_n 2, 1) := by decide +kernel
theorem d6_18 : decode method_5_code 18 = .ok (.iconst 2, 1) := by decide +kernel
theorem d6_19 : decode method_5_code 19 = .ok (.lushr, 1) := by decide +kernel
theorem d6_20 : decode method_5_code 20 = .ok (.ldc2_w 49, 3) := by decide +kernel
theorem d6_23 : decode method_5_code 23 = .ok (.land, 1) := by decide +kernel
theorem d6_24 : decode method_5_code 24 = .ok (.ladd, 1) := by decide +kernel
theorem d6_25 : decode method_5_code 25 = .ok (.lstore_n 2, 1) := by decide +kernel
theorem d6_26 : decode method_5_code 26 = .ok (.lload_n 2, 1) := by decide +kernel
theorem d6_27 : decode method_5_code 27 = .ok (.lload_n 2, 1) := by decide +kernel
theorem d6_28 : decode method_5_code 28 = .ok (.iconst 4, 1) := by decide +kernel
theorem d6_29 : decode method_5_code 29 = .ok (.lushr, 1) := by decide +kernel
theorem d6_30 : decode method_5_code 30 = .ok (.ladd, 1) := by decide +kernel
theorem d6_31 : decode method_5_code 31 = .ok (.ldc2_w 51, 3) := by decide +kernel
theorem d6_34 : decode method_5_code 34 = .ok (.land, 1) := by decide +kernel
theorem d6_35 : decode method_5_code 35 = .ok (.lstore_n 2, 1) := by decide +kernel
theorem d6_36 : decode method_5_code 36 = .ok (.lload_n 2, 1) := by decide +kernel
theorem d6_37 : decode method_5_code 37 = .ok (.ldc2_w 53, 3) := by decide +kernel
theorem d6_40 : decode method_5_code 40 = .ok (.lmul, 1) := by decide +kernel
theorem d6_41 : decode method_5_code 41 = .ok (.bipush 56, 2) := by decide +kernel
theorem d6_43 : decode method_5_code 43 = .ok (.lushr, 1) := by decide +kernel
theorem d6_44 : decode method_5_code 44 = .ok (.l2i, 1) := by decide +kernel
theorem d6_45 : decode method_5_code 45 = .ok (.ireturn, 1) := by decide +kernel
theorem pn_d6 : plainName "com/example/kobe/kobe/eval/MeasureScorePinLaw" = true := by first | (simp [plainName, overriddenIn]; done) | decide +kernel
theorem pd_d6 : parseMethodDescriptor "(J)I" = some ⟨[.long], some .int⟩ := by decide +kernel
theorem d7_0 : decode prog_11_method_6_code 0 = .ok (.iload_n 1, 1) := by decide +kernel
theorem d7_1 : decode prog_11_method_6_code 1 = .ok (.ifCond .ne 5, 3) := by decide +kernel
theorem d7_4 : decode prog_11_method_6_code 4 = .ok (.dconst 0, 1) := by decide +kernel
theorem d7_5 : decode prog_11_method_6_code 5 = .ok (.dreturn, 1) := by decide +kernel
theorem d7_6 : decode prog_11_method_6_code 6 = .ok (.dconst 0, 1) := by decide +kernel
theorem d7_7 : decode prog_11_method_6_code 7 = .ok (.dstore_n 2, 1) := by decide +kernel
theorem d7_8 : decode prog_11_method_6_code 8 = .ok (.iconst 0, 1) := by decide +kernel
theorem d7_9 : decode prog_11_method_6_code 9 = .ok (.istore 4, 2) := by decide +kernel
theorem d7_11 : decode prog_11_method_6_code 11 = .ok (.iconst 0, 1) := by decide +kernel
theorem d7_12 : decode prog_11_method_6_code 12 = .ok (.istore 5, 2) := by decide +kernel
theorem d7_14 : decode prog_11_method_6_code 14 = .ok (.iload 5, 2) := by decide +kernel
theorem d7_16 : decode prog_11_method_6_code 16 = .ok (.aload_n 0, 1) := by decide +kernel
theorem d7_17 : decode prog_11_method_6_code 17 = .ok (.arraylength, 1) := by decide +kernel
theorem d7_18 : decode prog_11_method_6_code 18 = .ok (.if_icmp .ge 31, 3) := by decide +kernel
theorem d7_21 : decode prog_11_method_6_code 21 = .ok (.aload_n 0, 1) := by decide +kernel
theorem d7_22 : decode prog_11_method_6_code 22 = .ok (.iload 5, 2) := by decide +kernel
theorem d7_24 : decode prog_11_method_6_code 24 = .ok (.baload, 1) := by decide +kernel
theorem d7_25 : decode prog_11_method_6_code 25 = .ok (.ifCond .eq 18, 3) := by decide +kernel
theorem d7_28 : decode prog_11_method_6_code 28 = .ok (.iinc 4 1, 3) := by decide +kernel
theorem d7_31 : decode prog_11_method_6_code 31 = .ok (.dload_n 2, 1) := by decide +kernel
theorem d7_32 : decode prog_11_method_6_code 32 = .ok (.iload 4, 2) := by decide +kernel
theorem d7_34 : decode prog_11_method_6_code 34 = .ok (.i2d, 1) := by decide +kernel
theorem d7_35 : decode prog_11_method_6_code 35 = .ok (.iload 5, 2) := by decide +kernel
theorem d7_37 : decode prog_11_method_6_code 37 = .ok (.iconst 1, 1) := by decide +kernel
theorem d7_38 : decode prog_11_method_6_code 38 = .ok (.iadd, 1) := by decide +kernel
theorem d7_39 : decode prog_11_method_6_code 39 = .ok (.i2d, 1) := by decide +kernel
theorem d7_40 : decode prog_11_method_6_code 40 = .ok (.ddiv, 1) := by decide +kernel
theorem d7_41 : decode prog_11_method_6_code 41 = .ok (.dadd, 1) := by decide +kernel
theorem d7_42 : decode prog_11_method_6_code 42 = .ok (.dstore_n 2, 1) := by decide +kernel
theorem d7_43 : decode prog_11_method_6_code 43 = .ok (.iinc 5 1, 3) := by decide +kernel
theorem d7_46 : decode prog_11_method_6_code 46 = .ok (.goto (-32), 3) := by decide +kernel
theorem d7_49 : decode prog_11_method_6_code 49 = .ok (.dload_n 2, 1) := by decide +kernel
theorem d7_50 : decode prog_11_method_6_code 50 = .ok (.iload_n 1, 1) := by decide +kernel
theorem d7_51 : decode prog_11_method_6_code 51 = .ok (.i2d, 1) := by decide +kernel
theorem d7_52 : decode prog_11_method_6_code 52 = .ok (.ddiv, 1) := by decide +kernel
theorem d7_53 : decode prog_11_method_6_code 53 = .ok (.dreturn, 1) := by decide +kernel
theorem pn_d7 : plainName "com/example/kobe/kobe/eval/Measure" = true := by first | (simp [plainName, overriddenIn]; done) | decide +kernel
theorem pd_d7 : parseMethodDescriptor "([ZI)D" = some ⟨[(.array .boolean), .int], some .double⟩ := by decide +kernel
theorem pn_at : plainName "com/example/kobe/kobe/eval/MeasureScorePinLaw" = true := by first | (simp [plainName, overriddenIn]; done) | decide +kernel
theorem ef_rm_min (m : MethodId) (x0 : Int32) (x1 : Int32) : entryFrame m #[(.int x0), (.int x1)] 2 = mkF m 0 #[.val (.int x0), .val (.int x1)] [] := by first | (simp [entryFrame, mkF, argsToLocals, Value.category]; done) | rfl
set_option maxRecDepth 65536 in
set_option maxHeartbeats 40000000 in
theorem rm_min (l : Launch) (Z : State) (a0 : Array Value) (hw : ∀ d ∈ tables_1, d.before a0 Z = true) (ws : List Jvm.Cond) (a b : Int32) (h0 : Heap) (n0 : Nat) (Z0 : n0 ≤ h0.size)  :
    own_Ctr l Z (⟨"java/lang/Math", "min", "(II)I"⟩ : MethodName) jdk_29_method_69_code 2 (some .int) ws ({ frames := 0, cells := 0, slots := 0, locals := 0 } : Room) #[(.int a), (.int b)] h0 (fun v h L => v = some (.int (if b < a then b else a)) ∧ Fr n0 L ∧ h = h0) := by
  refine own_enter (Jvm.Free.JP.mathPlain rfl (by decide +kernel)) ?_
  intro p e s m below meth c s₁ Bd hZ hml X0 e0
  have hx := Bd.exec
  have hby := Bd.bytes
  have hown : s.vm.findClass "java/lang/Math" = some m.cls := findClass_of_methodNamed Bd.named
  have hnm := (name_of_methodNamed Bd.named Bd.method).1
  have N0 := Fr.nil n0
  refine own_go (t' := s₁.setTop (mkF m 0 #[.val (.int a), .val (.int b)] [])) (fun _ k_ => castTop (ef_rm_min m a b) k_) ?_
  refine own_go (t' := s₁.setTop (mkF m 1 #[.val (.int a), .val (.int b)] [(.int a)])) (fun _ k_ => XS.iloadN X0.here hx rfl (Jvm.hb hby d4_0) rfl k_) ?_
  refine own_go (t' := s₁.setTop (mkF m 2 #[.val (.int a), .val (.int b)] [(.int b), (.int a)])) (fun _ k_ => XS.iloadN X0.here hx rfl (Jvm.hb hby d4_1) rfl k_) ?_
  by_cases hc : b < a
  ·
    refine own_go (t' := s₁.setTop (mkF m 9 #[.val (.int a), .val (.int b)] [])) (fun _ k_ => XS.icmpYes X0.here hx rfl (pc0 := 2) (pc' := 9) rfl (Jvm.hb hby d4_2) rfl (tlt hc).2.2.1 (by decide) (by decide) k_) ?_
    refine own_go (t' := s₁.setTop (mkF m 10 #[.val (.int a), .val (.int b)] [(.int b)])) (fun _ k_ => XS.iloadN X0.here hx rfl (Jvm.hb hby d4_9) rfl k_) ?_
    exact own_retI X0 hx Bd.returns (BodyLoose.notSynchronized Bd) (Jvm.hb hby d4_10) (by decide) (by decide) ⟨by rw [if_pos hc], N0, e0⟩
  ·
    refine own_go (t' := s₁.setTop (mkF m 5 #[.val (.int a), .val (.int b)] [])) (fun _ k_ => XS.icmpNo X0.here hx rfl (Jvm.hb hby d4_2) rfl (flt hc).2.2.1 k_) ?_
    refine own_go (t' := s₁.setTop (mkF m 6 #[.val (.int a), .val (.int b)] [(.int a)])) (fun _ k_ => XS.iloadN X0.here hx rfl (Jvm.hb hby d4_5) rfl k_) ?_
    refine own_go (t' := s₁.setTop (mkF m 10 #[.val (.int a), .val (.int b)] [(.int a)])) (fun _ k_ => XS.goto X0.here hx rfl (pc0 := 6) (pc' := 10) rfl (Jvm.hb hby d4_6) (by decide) (by decide) k_) ?_
    exact own_retI X0 hx Bd.returns (BodyLoose.notSynchronized Bd) (Jvm.hb hby d4_10) (by decide) (by decide) ⟨by rw [if_neg hc], N0, e0⟩
theorem own_minI {a b : Nat} (ha : a < 2147483648) (hb : b < 2147483648) : (if Int32.ofNat b < Int32.ofNat a then Int32.ofNat b else Int32.ofNat a) = Int32.ofNat (min a b) := by
  by_cases h : b < a
  · rw [if_pos ((own_ilt hb ha).mpr h), Nat.min_eq_right (Nat.le_of_lt h)]
  · rw [if_neg (fun q => h ((own_ilt hb ha).mp q)), Nat.min_eq_left (by omega)]
theorem ef_rm_low (m : MethodId) (x0 : Int32) : entryFrame m #[(.int x0)] 1 = mkF m 0 #[.val (.int x0)] [] := by first | (simp [entryFrame, mkF, argsToLocals, Value.category]; done) | rfl
set_option maxRecDepth 65536 in
set_option maxHeartbeats 40000000 in
theorem rm_low (l : Launch) (Z : State) (a0 : Array Value) (hw : ∀ d ∈ tables_1, d.before a0 Z = true) (ws : List Jvm.Cond) (p0 : Int32) (h0 : Heap) (n0 : Nat) (Z0 : n0 ≤ h0.size)  :
    own_Ctr l Z (⟨"com/example/kobe/kobe/eval/MeasureScorePinLaw", "lowOnes", "(I)J"⟩ : MethodName) method_4_code 1 (some .long) ws ({ frames := 0, cells := 0, slots := 0, locals := 0 } : Room) #[(.int p0)] h0 (fun v h L => v = some (.long (own_low p0)) ∧ Fr n0 L ∧ h = h0) := by
  refine own_enter (plainFor_of_name pn_d5) ?_
  intro p e s m below meth c s₁ Bd hZ hml X0 e0
  have hx := Bd.exec
  have hby := Bd.bytes
  have hown : s.vm.findClass "com/example/kobe/kobe/eval/MeasureScorePinLaw" = some m.cls := findClass_of_methodNamed Bd.named
  have hnm := (name_of_methodNamed Bd.named Bd.method).1
  have N0 := Fr.nil n0
  refine own_go (t' := s₁.setTop (mkF m 0 #[.val (.int p0)] [])) (fun _ k_ => castTop (ef_rm_low m p0) k_) ?_
  refine own_go (t' := s₁.setTop (mkF m 1 #[.val (.int p0)] [(.long (1 : Int64))])) (fun _ k_ => XS.lconst X0.here hx rfl (Jvm.hb hby d5_0) k_) ?_
  refine own_go (t' := s₁.setTop (mkF m 2 #[.val (.int p0)] [(.int p0), (.long (1 : Int64))])) (fun _ k_ => XS.iloadN X0.here hx rfl (Jvm.hb hby d5_1) rfl k_) ?_
  refine own_go (t' := s₁.setTop (mkF m 3 #[.val (.int p0)] [(.long ((1 : Int64) <<< (p0 &&& 0x3f).toInt64))])) (fun _ k_ => XS.lshl X0.here hx rfl (Jvm.hb hby d5_2) rfl k_) ?_
  refine own_go (t' := s₁.setTop (mkF m 4 #[.val (.int p0)] [(.long (1 : Int64)), (.long ((1 : Int64) <<< (p0 &&& 0x3f).toInt64))])) (fun _ k_ => XS.lconst X0.here hx rfl (Jvm.hb hby d5_3) k_) ?_
  refine own_go (t' := s₁.setTop (mkF m 5 #[.val (.int p0)] [(.long (((1 : Int64) <<< (p0 &&& 0x3f).toInt64) - (1 : Int64)))])) (fun _ k_ => XS.lsub X0.here hx rfl (Jvm.hb hby d5_4) rfl k_) ?_
  exact own_retJ X0 hx Bd.returns (BodyLoose.notSynchronized Bd) (Jvm.hb hby d5_5) (by decide) (by decide) ⟨rfl, N0, e0⟩
theorem ef_rm_pop (m : MethodId) (x0 : Int64) : entryFrame m #[(.long x0)] 4 = mkF m 0 #[.val (.long x0), .second, .unset, .unset] [] := by first | (simp [entryFrame, mkF, argsToLocals, Value.category]; done) | rfl
set_option maxRecDepth 65536 in
set_option maxHeartbeats 40000000 in
theorem rm_pop (l : Launch) (Z : State) (a0 : Array Value) (hw : ∀ d ∈ tables_1, d.before a0 Z = true) (ws : List Jvm.Cond) (p0 : Int64) (h0 : Heap) (n0 : Nat) (Z0 : n0 ≤ h0.size)  :
    own_Ctr l Z (⟨"com/example/kobe/kobe/eval/MeasureScorePinLaw", "popcount", "(J)I"⟩ : MethodName) method_5_code 4 (some .int) ws ({ frames := 0, cells := 0, slots := 0, locals := 0 } : Room) #[(.long p0)] h0 (fun v h L => v = some (.int (own_pop p0)) ∧ Fr n0 L ∧ h = h0) := by
  refine own_enter (plainFor_of_name pn_d6) ?_
  intro p e s m below meth c s₁ Bd hZ hml X0 e0
  have hx := Bd.exec
  have hby := Bd.bytes
  have hown : s.vm.findClass "com/example/kobe/kobe/eval/MeasureScorePinLaw" = some m.cls := findClass_of_methodNamed Bd.named
  have hnm := (name_of_methodNamed Bd.named Bd.method).1
  have N0 := Fr.nil n0
  refine own_go (t' := s₁.setTop (mkF m 0 #[.val (.long p0), .second, .unset, .unset] [])) (fun _ k_ => castTop (ef_rm_pop m p0) k_) ?_
  refine own_go (t' := s₁.setTop (mkF m 1 #[.val (.long p0), .second, .unset, .unset] [(.long p0)])) (fun _ k_ => XS.lloadN X0.here hx rfl (Jvm.hb hby d6_0) rfl k_) ?_
  refine own_go (t' := s₁.setTop (mkF m 2 #[.val (.long p0), .second, .val (.long p0), .second] [])) (fun _ k_ => XS.lstoreN X0.here hx rfl (Jvm.hb hby d6_1) rfl (l' := #[.val (.long p0), .second, .val (.long p0), .second]) rfl k_) ?_
  refine own_go (t' := s₁.setTop (mkF m 3 #[.val (.long p0), .second, .val (.long p0), .second] [(.long p0)])) (fun _ k_ => XS.lloadN X0.here hx rfl (Jvm.hb hby d6_2) rfl k_) ?_
  refine own_go (t' := s₁.setTop (mkF m 4 #[.val (.long p0), .second, .val (.long p0), .second] [(.long p0), (.long p0)])) (fun _ k_ => XS.lloadN X0.here hx rfl (Jvm.hb hby d6_3) rfl k_) ?_
  refine own_go (t' := s₁.setTop (mkF m 5 #[.val (.long p0), .second, .val (.long p0), .second] [(.int (1 : Int32)), (.long p0), (.long p0)])) (fun _ k_ => XS.iconst X0.here hx rfl (Jvm.hb hby d6_4) k_) ?_
  refine own_go (t' := s₁.setTop (mkF m 6 #[.val (.long p0), .second, .val (.long p0), .second] [(.long ((p0.toUInt64 >>> ((1 : Int32) &&& 0x3f).toInt64.toUInt64).toInt64)), (.long p0)])) (fun _ k_ => XS.lushr X0.here hx rfl (Jvm.hb hby d6_5) rfl k_) ?_
  refine own_go (t' := s₁.setTop (mkF m 9 #[.val (.long p0), .second, .val (.long p0), .second] [(.long (6148914691236517205 : Int64)), (.long ((p0.toUInt64 >>> ((1 : Int32) &&& 0x3f).toInt64.toUInt64).toInt64)), (.long p0)])) (fun _ k_ => X0.ldc2J (own := "com/example/kobe/kobe/eval/MeasureScorePinLaw") (index := 47) (v := (6148914691236517205 : Int64)) hx hown (mvT hZ (hw _ (List.mem_of_getElem? (i := 32) rfl))) rfl (Jvm.hb hby d6_6) k_) ?_
  refine own_go (t' := s₁.setTop (mkF m 10 #[.val (.long p0), .second, .val (.long p0), .second] [(.long (((p0.toUInt64 >>> ((1 : Int32) &&& 0x3f).toInt64.toUInt64).toInt64) &&& (6148914691236517205 : Int64))), (.long p0)])) (fun _ k_ => XS.land X0.here hx rfl (Jvm.hb hby d6_9) rfl k_) ?_
  refine own_go (t' := s₁.setTop (mkF m 11 #[.val (.long p0), .second, .val (.long p0), .second] [(.long (p0 - (((p0.toUInt64 >>> ((1 : Int32) &&& 0x3f).toInt64.toUInt64).toInt64) &&& (6148914691236517205 : Int64))))])) (fun _ k_ => XS.lsub X0.here hx rfl (Jvm.hb hby d6_10) rfl k_) ?_
  refine own_go (t' := s₁.setTop (mkF m 12 #[.val (.long p0), .second, .val (.long (p0 - (((p0.toUInt64 >>> ((1 : Int32) &&& 0x3f).toInt64.toUInt64).toInt64) &&& (6148914691236517205 : Int64)))), .second] [])) (fun _ k_ => XS.lstoreN X0.here hx rfl (Jvm.hb hby d6_11) rfl (l' := #[.val (.long p0), .second, .val (.long (p0 - (((p0.toUInt64 >>> ((1 : Int32) &&& 0x3f).toInt64.toUInt64).toInt64) &&& (6148914691236517205 : Int64)))), .second]) rfl k_) ?_
  refine own_go (t' := s₁.setTop (mkF m 13 #[.val (.long p0), .second, .val (.long (p0 - (((p0.toUInt64 >>> ((1 : Int32) &&& 0x3f).toInt64.toUInt64).toInt64) &&& (6148914691236517205 : Int64)))), .second] [(.long (p0 - (((p0.toUInt64 >>> ((1 : Int32) &&& 0x3f).toInt64.toUInt64).toInt64) &&& (6148914691236517205 : Int64))))])) (fun _ k_ => XS.lloadN X0.here hx rfl (Jvm.hb hby d6_12) rfl k_) ?_
  refine own_go (t' := s₁.setTop (mkF m 16 #[.val (.long p0), .second, .val (.long (p0 - (((p0.toUInt64 >>> ((1 : Int32) &&& 0x3f).toInt64.toUInt64).toInt64) &&& (6148914691236517205 : Int64)))), .second] [(.long (3689348814741910323 : Int64)), (.long (p0 - (((p0.toUInt64 >>> ((1 : Int32) &&& 0x3f).toInt64.toUInt64).toInt64) &&& (6148914691236517205 : Int64))))])) (fun _ k_ => X0.ldc2J (own := "com/example/kobe/kobe/eval/MeasureScorePinLaw") (index := 49) (v := (3689348814741910323 : Int64)) hx hown (mvT hZ (hw _ (List.mem_of_getElem? (i := 33) rfl))) rfl (Jvm.hb hby d6_13) k_) ?_
  refine own_go (t' := s₁.setTop (mkF m 17 #[.val (.long p0), .second, .val (.long (p0 - (((p0.toUInt64 >>> ((1 : Int32) &&& 0x3f).toInt64.toUInt64).toInt64) &&& (6148914691236517205 : Int64)))), .second] [(.long ((p0 - (((p0.toUInt64 >>> ((1 : Int32) &&& 0x3f).toInt64.toUInt64).toInt64) &&& (6148914691236517205 : Int64))) &&& (3689348814741910323 : Int64)))])) (fun _ k_ => XS.land X0.here hx rfl (Jvm.hb hby d6_16) rfl k_) ?_
  refine own_go (t' := s₁.setTop (mkF m 18 #[.val (.long p0), .second, .val (.long (p0 - (((p0.toUInt64 >>> ((1 : Int32) &&& 0x3f).toInt64.toUInt64).toInt64) &&& (6148914691236517205 : Int64)))), .second] [(.long (p0 - (((p0.toUInt64 >>> ((1 : Int32) &&& 0x3f).toInt64.toUInt64).toInt64) &&& (6148914691236517205 : Int64)))), (.long ((p0 - (((p0.toUInt64 >>> ((1 : Int32) &&& 0x3f).toInt64.toUInt64).toInt64) &&& (6148914691236517205 : Int64))) &&& (3689348814741910323 : Int64)))])) (fun _ k_ => XS.lloadN X0.here hx rfl (Jvm.hb hby d6_17) rfl k_) ?_
  refine own_go (t' := s₁.setTop (mkF m 19 #[.val (.long p0), .second, .val (.long (p0 - (((p0.toUInt64 >>> ((1 : Int32) &&& 0x3f).toInt64.toUInt64).toInt64) &&& (6148914691236517205 : Int64)))), .second] [(.int (2 : Int32)), (.long (p0 - (((p0.toUInt64 >>> ((1 : Int32) &&& 0x3f).toInt64.toUInt64).toInt64) &&& (6148914691236517205 : Int64)))), (.long ((p0 - (((p0.toUInt64 >>> ((1 : Int32) &&& 0x3f).toInt64.toUInt64).toInt64) &&& (6148914691236517205 : Int64))) &&& (3689348814741910323 : Int64)))])) (fun _ k_ => XS.iconst X0.here hx rfl (Jvm.hb hby d6_18) k_) ?_
  refine own_go (t' := s₁.setTop (mkF m 20 #[.val (.long p0), .second, .val (.long (p0 - (((p0.toUInt64 >>> ((1 : Int32) &&& 0x3f).toInt64.toUInt64).toInt64) &&& (6148914691236517205 : Int64)))), .second] [(.long (((p0 - (((p0.toUInt64 >>> ((1 : Int32) &&& 0x3f).toInt64.toUInt64).toInt64) &&& (6148914691236517205 : Int64))).toUInt64 >>> ((2 : Int32) &&& 0x3f).toInt64.toUInt64).toInt64)), (.long ((p0 - (((p0.toUInt64 >>> ((1 : Int32) &&& 0x3f).toInt64.toUInt64).toInt64) &&& (6148914691236517205 : Int64))) &&& (3689348814741910323 : Int64)))])) (fun _ k_ => XS.lushr X0.here hx rfl (Jvm.hb hby d6_19) rfl k_) ?_
  refine own_go (t' := s₁.setTop (mkF m 23 #[.val (.long p0), .second, .val (.long (p0 - (((p0.toUInt64 >>> ((1 : Int32) &&& 0x3f).toInt64.toUInt64).toInt64) &&& (6148914691236517205 : Int64)))), .second] [(.long (3689348814741910323 : Int64)), (.long (((p0 - (((p0.toUInt64 >>> ((1 : Int32) &&& 0x3f).toInt64.toUInt64).toInt64) &&& (6148914691236517205 : Int64))).toUInt64 >>> ((2 : Int32) &&& 0x3f).toInt64.toUInt64).toInt64)), (.long ((p0 - (((p0.toUInt64 >>> ((1 : Int32) &&& 0x3f).toInt64.toUInt64).toInt64) &&& (6148914691236517205 : Int64))) &&& (3689348814741910323 : Int64)))])) (fun _ k_ => X0.ldc2J (own := "com/example/kobe/kobe/eval/MeasureScorePinLaw") (index := 49) (v := (3689348814741910323 : Int64)) hx hown (mvT hZ (hw _ (List.mem_of_getElem? (i := 33) rfl))) rfl (Jvm.hb hby d6_20) k_) ?_
  refine own_go (t' := s₁.setTop (mkF m 24 #[.val (.long p0), .second, .val (.long (p0 - (((p0.toUInt64 >>> ((1 : Int32) &&& 0x3f).toInt64.toUInt64).toInt64) &&& (6148914691236517205 : Int64)))), .second] [(.long ((((p0 - (((p0.toUInt64 >>> ((1 : Int32) &&& 0x3f).toInt64.toUInt64).toInt64) &&& (6148914691236517205 : Int64))).toUInt64 >>> ((2 : Int32) &&& 0x3f).toInt64.toUInt64).toInt64) &&& (3689348814741910323 : Int64))), (.long ((p0 - (((p0.toUInt64 >>> ((1 : Int32) &&& 0x3f).toInt64.toUInt64).toInt64) &&& (6148914691236517205 : Int64))) &&& (3689348814741910323 : Int64)))])) (fun _ k_ => XS.land X0.here hx rfl (Jvm.hb hby d6_23) rfl k_) ?_
  refine own_go (t' := s₁.setTop (mkF m 25 #[.val (.long p0), .second, .val (.long (p0 - (((p0.toUInt64 >>> ((1 : Int32) &&& 0x3f).toInt64.toUInt64).toInt64) &&& (6148914691236517205 : Int64)))), .second] [(.long (((p0 - (((p0.toUInt64 >>> ((1 : Int32) &&& 0x3f).toInt64.toUInt64).toInt64) &&& (6148914691236517205 : Int64))) &&& (3689348814741910323 : Int64)) + ((((p0 - (((p0.toUInt64 >>> ((1 : Int32) &&& 0x3f).toInt64.toUInt64).toInt64) &&& (6148914691236517205 : Int64))).toUInt64 >>> ((2 : Int32) &&& 0x3f).toInt64.toUInt64).toInt64) &&& (3689348814741910323 : Int64))))])) (fun _ k_ => XS.ladd X0.here hx rfl (Jvm.hb hby d6_24) rfl k_) ?_
  refine own_go (t' := s₁.setTop (mkF m 26 #[.val (.long p0), .second, .val (.long (((p0 - (((p0.toUInt64 >>> ((1 : Int32) &&& 0x3f).toInt64.toUInt64).toInt64) &&& (6148914691236517205 : Int64))) &&& (3689348814741910323 : Int64)) + ((((p0 - (((p0.toUInt64 >>> ((1 : Int32) &&& 0x3f).toInt64.toUInt64).toInt64) &&& (6148914691236517205 : Int64))).toUInt64 >>> ((2 : Int32) &&& 0x3f).toInt64.toUInt64).toInt64) &&& (3689348814741910323 : Int64)))), .second] [])) (fun _ k_ => XS.lstoreN X0.here hx rfl (Jvm.hb hby d6_25) rfl (l' := #[.val (.long p0), .second, .val (.long (((p0 - (((p0.toUInt64 >>> ((1 : Int32) &&& 0x3f).toInt64.toUInt64).toInt64) &&& (6148914691236517205 : Int64))) &&& (3689348814741910323 : Int64)) + ((((p0 - (((p0.toUInt64 >>> ((1 : Int32) &&& 0x3f).toInt64.toUInt64).toInt64) &&& (6148914691236517205 : Int64))).toUInt64 >>> ((2 : Int32) &&& 0x3f).toInt64.toUInt64).toInt64) &&& (3689348814741910323 : Int64)))), .second]) rfl k_) ?_
  refine own_go (t' := s₁.setTop (mkF m 27 #[.val (.long p0), .second, .val (.long (((p0 - (((p0.toUInt64 >>> ((1 : Int32) &&& 0x3f).toInt64.toUInt64).toInt64) &&& (6148914691236517205 : Int64))) &&& (3689348814741910323 : Int64)) + ((((p0 - (((p0.toUInt64 >>> ((1 : Int32) &&& 0x3f).toInt64.toUInt64).toInt64) &&& (6148914691236517205 : Int64))).toUInt64 >>> ((2 : Int32) &&& 0x3f).toInt64.toUInt64).toInt64) &&& (3689348814741910323 : Int64)))), .second] [(.long (((p0 - (((p0.toUInt64 >>> ((1 : Int32) &&& 0x3f).toInt64.toUInt64).toInt64) &&& (6148914691236517205 : Int64))) &&& (3689348814741910323 : Int64)) + ((((p0 - (((p0.toUInt64 >>> ((1 : Int32) &&& 0x3f).toInt64.toUInt64).toInt64) &&& (6148914691236517205 : Int64))).toUInt64 >>> ((2 : Int32) &&& 0x3f).toInt64.toUInt64).toInt64) &&& (3689348814741910323 : Int64))))])) (fun _ k_ => XS.lloadN X0.here hx rfl (Jvm.hb hby d6_26) rfl k_) ?_
  refine own_go (t' := s₁.setTop (mkF m 28 #[.val (.long p0), .second, .val (.long (((p0 - (((p0.toUInt64 >>> ((1 : Int32) &&& 0x3f).toInt64.toUInt64).toInt64) &&& (6148914691236517205 : Int64))) &&& (3689348814741910323 : Int64)) + ((((p0 - (((p0.toUInt64 >>> ((1 : Int32) &&& 0x3f).toInt64.toUInt64).toInt64) &&& (6148914691236517205 : Int64))).toUInt64 >>> ((2 : Int32) &&& 0x3f).toInt64.toUInt64).toInt64) &&& (3689348814741910323 : Int64)))), .second] [(.long (((p0 - (((p0.toUInt64 >>> ((1 : Int32) &&& 0x3f).toInt64.toUInt64).toInt64) &&& (6148914691236517205 : Int64))) &&& (3689348814741910323 : Int64)) + ((((p0 - (((p0.toUInt64 >>> ((1 : Int32) &&& 0x3f).toInt64.toUInt64).toInt64) &&& (6148914691236517205 : Int64))).toUInt64 >>> ((2 : Int32) &&& 0x3f).toInt64.toUInt64).toInt64) &&& (3689348814741910323 : Int64)))), (.long (((p0 - (((p0.toUInt64 >>> ((1 : Int32) &&& 0x3f).toInt64.toUInt64).toInt64) &&& (6148914691236517205 : Int64))) &&& (3689348814741910323 : Int64)) + ((((p0 - (((p0.toUInt64 >>> ((1 : Int32) &&& 0x3f).toInt64.toUInt64).toInt64) &&& (6148914691236517205 : Int64))).toUInt64 >>> ((2 : Int32) &&& 0x3f).toInt64.toUInt64).toInt64) &&& (3689348814741910323 : Int64))))])) (fun _ k_ => XS.lloadN X0.here hx rfl (Jvm.hb hby d6_27) rfl k_) ?_
  refine own_go (t' := s₁.setTop (mkF m 29 #[.val (.long p0), .second, .val (.long (((p0 - (((p0.toUInt64 >>> ((1 : Int32) &&& 0x3f).toInt64.toUInt64).toInt64) &&& (6148914691236517205 : Int64))) &&& (3689348814741910323 : Int64)) + ((((p0 - (((p0.toUInt64 >>> ((1 : Int32) &&& 0x3f).toInt64.toUInt64).toInt64) &&& (6148914691236517205 : Int64))).toUInt64 >>> ((2 : Int32) &&& 0x3f).toInt64.toUInt64).toInt64) &&& (3689348814741910323 : Int64)))), .second] [(.int (4 : Int32)), (.long (((p0 - (((p0.toUInt64 >>> ((1 : Int32) &&& 0x3f).toInt64.toUInt64).toInt64) &&& (6148914691236517205 : Int64))) &&& (3689348814741910323 : Int64)) + ((((p0 - (((p0.toUInt64 >>> ((1 : Int32) &&& 0x3f).toInt64.toUInt64).toInt64) &&& (6148914691236517205 : Int64))).toUInt64 >>> ((2 : Int32) &&& 0x3f).toInt64.toUInt64).toInt64) &&& (3689348814741910323 : Int64)))), (.long (((p0 - (((p0.toUInt64 >>> ((1 : Int32) &&& 0x3f).toInt64.toUInt64).toInt64) &&& (6148914691236517205 : Int64))) &&& (3689348814741910323 : Int64)) + ((((p0 - (((p0.toUInt64 >>> ((1 : Int32) &&& 0x3f).toInt64.toUInt64).toInt64) &&& (6148914691236517205 : Int64))).toUInt64 >>> ((2 : Int32) &&& 0x3f).toInt64.toUInt64).toInt64) &&& (3689348814741910323 : Int64))))])) (fun _ k_ => XS.iconst X0.here hx rfl (Jvm.hb hby d6_28) k_) ?_
  refine own_go (t' := s₁.setTop (mkF m 30 #[.val (.long p0), .second, .val (.long (((p0 - (((p0.toUInt64 >>> ((1 : Int32) &&& 0x3f).toInt64.toUInt64).toInt64) &&& (6148914691236517205 : Int64))) &&& (3689348814741910323 : Int64)) + ((((p0 - (((p0.toUInt64 >>> ((1 : Int32) &&& 0x3f).toInt64.toUInt64).toInt64) &&& (6148914691236517205 : Int64))).toUInt64 >>> ((2 : Int32) &&& 0x3f).toInt64.toUInt64).toInt64) &&& (3689348814741910323 : Int64)))), .second] [(.long (((((p0 - (((p0.toUInt64 >>> ((1 : Int32) &&& 0x3f).toInt64.toUInt64).toInt64) &&& (6148914691236517205 : Int64))) &&& (3689348814741910323 : Int64)) + ((((p0 - (((p0.toUInt64 >>> ((1 : Int32) &&& 0x3f).toInt64.toUInt64).toInt64) &&& (6148914691236517205 : Int64))).toUInt64 >>> ((2 : Int32) &&& 0x3f).toInt64.toUInt64).toInt64) &&& (3689348814741910323 : Int64))).toUInt64 >>> ((4 : Int32) &&& 0x3f).toInt64.toUInt64).toInt64)), (.long (((p0 - (((p0.toUInt64 >>> ((1 : Int32) &&& 0x3f).toInt64.toUInt64).toInt64) &&& (6148914691236517205 : Int64))) &&& (3689348814741910323 : Int64)) + ((((p0 - (((p0.toUInt64 >>> ((1 : Int32) &&& 0x3f).toInt64.toUInt64).toInt64) &&& (6148914691236517205 : Int64))).toUInt64 >>> ((2 : Int32) &&& 0x3f).toInt64.toUInt64).toInt64) &&& (3689348814741910323 : Int64))))])) (fun _ k_ => XS.lushr X0.here hx rfl (Jvm.hb hby d6_29) rfl k_) ?_
  refine own_go (t' := s₁.setTop (mkF m 31 #[.val (.long p0), .second, .val (.long (((p0 - (((p0.toUInt64 >>> ((1 : Int32) &&& 0x3f).toInt64.toUInt64).toInt64) &&& (6148914691236517205 : Int64))) &&& (3689348814741910323 : Int64)) + ((((p0 - (((p0.toUInt64 >>> ((1 : Int32) &&& 0x3f).toInt64.toUInt64).toInt64) &&& (6148914691236517205 : Int64))).toUInt64 >>> ((2 : Int32) &&& 0x3f).toInt64.toUInt64).toInt64) &&& (3689348814741910323 : Int64)))), .second] [(.long ((((p0 - (((p0.toUInt64 >>> ((1 : Int32) &&& 0x3f).toInt64.toUInt64).toInt64) &&& (6148914691236517205 : Int64))) &&& (3689348814741910323 : Int64)) + ((((p0 - (((p0.toUInt64 >>> ((1 : Int32) &&& 0x3f).toInt64.toUInt64).toInt64) &&& (6148914691236517205 : Int64))).toUInt64 >>> ((2 : Int32) &&& 0x3f).toInt64.toUInt64).toInt64) &&& (3689348814741910323 : Int64))) + (((((p0 - (((p0.toUInt64 >>> ((1 : Int32) &&& 0x3f).toInt64.toUInt64).toInt64) &&& (6148914691236517205 : Int64))) &&& (3689348814741910323 : Int64)) + ((((p0 - (((p0.toUInt64 >>> ((1 : Int32) &&& 0x3f).toInt64.toUInt64).toInt64) &&& (6148914691236517205 : Int64))).toUInt64 >>> ((2 : Int32) &&& 0x3f).toInt64.toUInt64).toInt64) &&& (3689348814741910323 : Int64))).toUInt64 >>> ((4 : Int32) &&& 0x3f).toInt64.toUInt64).toInt64)))])) (fun _ k_ => XS.ladd X0.here hx rfl (Jvm.hb hby d6_30) rfl k_) ?_
  refine own_go (t' := s₁.setTop (mkF m 34 #[.val (.long p0), .second, .val (.long (((p0 - (((p0.toUInt64 >>> ((1 : Int32) &&& 0x3f).toInt64.toUInt64).toInt64) &&& (6148914691236517205 : Int64))) &&& (3689348814741910323 : Int64)) + ((((p0 - (((p0.toUInt64 >>> ((1 : Int32) &&& 0x3f).toInt64.toUInt64).toInt64) &&& (6148914691236517205 : Int64))).toUInt64 >>> ((2 : Int32) &&& 0x3f).toInt64.toUInt64).toInt64) &&& (3689348814741910323 : Int64)))), .second] [(.long (1085102592571150095 : Int64)), (.long ((((p0 - (((p0.toUInt64 >>> ((1 : Int32) &&& 0x3f).toInt64.toUInt64).toInt64) &&& (6148914691236517205 : Int64))) &&& (3689348814741910323 : Int64)) + ((((p0 - (((p0.toUInt64 >>> ((1 : Int32) &&& 0x3f).toInt64.toUInt64).toInt64) &&& (6148914691236517205 : Int64))).toUInt64 >>> ((2 : Int32) &&& 0x3f).toInt64.toUInt64).toInt64) &&& (3689348814741910323 : Int64))) + (((((p0 - (((p0.toUInt64 >>> ((1 : Int32) &&& 0x3f).toInt64.toUInt64).toInt64) &&& (6148914691236517205 : Int64))) &&& (3689348814741910323 : Int64)) + ((((p0 - (((p0.toUInt64 >>> ((1 : Int32) &&& 0x3f).toInt64.toUInt64).toInt64) &&& (6148914691236517205 : Int64))).toUInt64 >>> ((2 : Int32) &&& 0x3f).toInt64.toUInt64).toInt64) &&& (3689348814741910323 : Int64))).toUInt64 >>> ((4 : Int32) &&& 0x3f).toInt64.toUInt64).toInt64)))])) (fun _ k_ => X0.ldc2J (own := "com/example/kobe/kobe/eval/MeasureScorePinLaw") (index := 51) (v := (1085102592571150095 : Int64)) hx hown (mvT hZ (hw _ (List.mem_of_getElem? (i := 34) rfl))) rfl (Jvm.hb hby d6_31) k_) ?_
  refine own_go (t' := s₁.setTop (mkF m 35 #[.val (.long p0), .second, .val (.long (((p0 - (((p0.toUInt64 >>> ((1 : Int32) &&& 0x3f).toInt64.toUInt64).toInt64) &&& (6148914691236517205 : Int64))) &&& (3689348814741910323 : Int64)) + ((((p0 - (((p0.toUInt64 >>> ((1 : Int32) &&& 0x3f).toInt64.toUInt64).toInt64) &&& (6148914691236517205 : Int64))).toUInt64 >>> ((2 : Int32) &&& 0x3f).toInt64.toUInt64).toInt64) &&& (3689348814741910323 : Int64)))), .second] [(.long (((((p0 - (((p0.toUInt64 >>> ((1 : Int32) &&& 0x3f).toInt64.toUInt64).toInt64) &&& (6148914691236517205 : Int64))) &&& (3689348814741910323 : Int64)) + ((((p0 - (((p0.toUInt64 >>> ((1 : Int32) &&& 0x3f).toInt64.toUInt64).toInt64) &&& (6148914691236517205 : Int64))).toUInt64 >>> ((2 : Int32) &&& 0x3f).toInt64.toUInt64).toInt64) &&& (3689348814741910323 : Int64))) + (((((p0 - (((p0.toUInt64 >>> ((1 : Int32) &&& 0x3f).toInt64.toUInt64).toInt64) &&& (6148914691236517205 : Int64))) &&& (3689348814741910323 : Int64)) + ((((p0 - (((p0.toUInt64 >>> ((1 : Int32) &&& 0x3f).toInt64.toUInt64).toInt64) &&& (6148914691236517205 : Int64))).toUInt64 >>> ((2 : Int32) &&& 0x3f).toInt64.toUInt64).toInt64) &&& (3689348814741910323 : Int64))).toUInt64 >>> ((4 : Int32) &&& 0x3f).toInt64.toUInt64).toInt64)) &&& (1085102592571150095 : Int64)))])) (fun _ k_ => XS.land X0.here hx rfl (Jvm.hb hby d6_34) rfl k_) ?_
  refine own_go (t' := s₁.setTop (mkF m 36 #[.val (.long p0), .second, .val (.long (((((p0 - (((p0.toUInt64 >>> ((1 : Int32) &&& 0x3f).toInt64.toUInt64).toInt64) &&& (6148914691236517205 : Int64))) &&& (3689348814741910323 : Int64)) + ((((p0 - (((p0.toUInt64 >>> ((1 : Int32) &&& 0x3f).toInt64.toUInt64).toInt64) &&& (6148914691236517205 : Int64))).toUInt64 >>> ((2 : Int32) &&& 0x3f).toInt64.toUInt64).toInt64) &&& (3689348814741910323 : Int64))) + (((((p0 - (((p0.toUInt64 >>> ((1 : Int32) &&& 0x3f).toInt64.toUInt64).toInt64) &&& (6148914691236517205 : Int64))) &&& (3689348814741910323 : Int64)) + ((((p0 - (((p0.toUInt64 >>> ((1 : Int32) &&& 0x3f).toInt64.toUInt64).toInt64) &&& (6148914691236517205 : Int64))).toUInt64 >>> ((2 : Int32) &&& 0x3f).toInt64.toUInt64).toInt64) &&& (3689348814741910323 : Int64))).toUInt64 >>> ((4 : Int32) &&& 0x3f).toInt64.toUInt64).toInt64)) &&& (1085102592571150095 : Int64))), .second] [])) (fun _ k_ => XS.lstoreN X0.here hx rfl (Jvm.hb hby d6_35) rfl (l' := #[.val (.long p0), .second, .val (.long (((((p0 - (((p0.toUInt64 >>> ((1 : Int32) &&& 0x3f).toInt64.toUInt64).toInt64) &&& (6148914691236517205 : Int64))) &&& (3689348814741910323 : Int64)) + ((((p0 - (((p0.toUInt64 >>> ((1 : Int32) &&& 0x3f).toInt64.toUInt64).toInt64) &&& (6148914691236517205 : Int64))).toUInt64 >>> ((2 : Int32) &&& 0x3f).toInt64.toUInt64).toInt64) &&& (3689348814741910323 : Int64))) + (((((p0 - (((p0.toUInt64 >>> ((1 : Int32) &&& 0x3f).toInt64.toUInt64).toInt64) &&& (6148914691236517205 : Int64))) &&& (3689348814741910323 : Int64)) + ((((p0 - (((p0.toUInt64 >>> ((1 : Int32) &&& 0x3f).toInt64.toUInt64).toInt64) &&& (6148914691236517205 : Int64))).toUInt64 >>> ((2 : Int32) &&& 0x3f).toInt64.toUInt64).toInt64) &&& (3689348814741910323 : Int64))).toUInt64 >>> ((4 : Int32) &&& 0x3f).toInt64.toUInt64).toInt64)) &&& (1085102592571150095 : Int64))), .second]) rfl k_) ?_
  refine own_go (t' := s₁.setTop (mkF m 37 #[.val (.long p0), .second, .val (.long (((((p0 - (((p0.toUInt64 >>> ((1 : Int32) &&& 0x3f).toInt64.toUInt64).toInt64) &&& (6148914691236517205 : Int64))) &&& (3689348814741910323 : Int64)) + ((((p0 - (((p0.toUInt64 >>> ((1 : Int32) &&& 0x3f).toInt64.toUInt64).toInt64) &&& (6148914691236517205 : Int64))).toUInt64 >>> ((2 : Int32) &&& 0x3f).toInt64.toUInt64).toInt64) &&& (3689348814741910323 : Int64))) + (((((p0 - (((p0.toUInt64 >>> ((1 : Int32) &&& 0x3f).toInt64.toUInt64).toInt64) &&& (6148914691236517205 : Int64))) &&& (3689348814741910323 : Int64)) + ((((p0 - (((p0.toUInt64 >>> ((1 : Int32) &&& 0x3f).toInt64.toUInt64).toInt64) &&& (6148914691236517205 : Int64))).toUInt64 >>> ((2 : Int32) &&& 0x3f).toInt64.toUInt64).toInt64) &&& (3689348814741910323 : Int64))).toUInt64 >>> ((4 : Int32) &&& 0x3f).toInt64.toUInt64).toInt64)) &&& (1085102592571150095 : Int64))), .second] [(.long (((((p0 - (((p0.toUInt64 >>> ((1 : Int32) &&& 0x3f).toInt64.toUInt64).toInt64) &&& (6148914691236517205 : Int64))) &&& (3689348814741910323 : Int64)) + ((((p0 - (((p0.toUInt64 >>> ((1 : Int32) &&& 0x3f).toInt64.toUInt64).toInt64) &&& (6148914691236517205 : Int64))).toUInt64 >>> ((2 : Int32) &&& 0x3f).toInt64.toUInt64).toInt64) &&& (3689348814741910323 : Int64))) + (((((p0 - (((p0.toUInt64 >>> ((1 : Int32) &&& 0x3f).toInt64.toUInt64).toInt64) &&& (6148914691236517205 : Int64))) &&& (3689348814741910323 : Int64)) + ((((p0 - (((p0.toUInt64 >>> ((1 : Int32) &&& 0x3f).toInt64.toUInt64).toInt64) &&& (6148914691236517205 : Int64))).toUInt64 >>> ((2 : Int32) &&& 0x3f).toInt64.toUInt64).toInt64) &&& (3689348814741910323 : Int64))).toUInt64 >>> ((4 : Int32) &&& 0x3f).toInt64.toUInt64).toInt64)) &&& (1085102592571150095 : Int64)))])) (fun _ k_ => XS.lloadN X0.here hx rfl (Jvm.hb hby d6_36) rfl k_) ?_
  refine own_go (t' := s₁.setTop (mkF m 40 #[.val (.long p0), .second, .val (.long (((((p0 - (((p0.toUInt64 >>> ((1 : Int32) &&& 0x3f).toInt64.toUInt64).toInt64) &&& (6148914691236517205 : Int64))) &&& (3689348814741910323 : Int64)) + ((((p0 - (((p0.toUInt64 >>> ((1 : Int32) &&& 0x3f).toInt64.toUInt64).toInt64) &&& (6148914691236517205 : Int64))).toUInt64 >>> ((2 : Int32) &&& 0x3f).toInt64.toUInt64).toInt64) &&& (3689348814741910323 : Int64))) + (((((p0 - (((p0.toUInt64 >>> ((1 : Int32) &&& 0x3f).toInt64.toUInt64).toInt64) &&& (6148914691236517205 : Int64))) &&& (3689348814741910323 : Int64)) + ((((p0 - (((p0.toUInt64 >>> ((1 : Int32) &&& 0x3f).toInt64.toUInt64).toInt64) &&& (6148914691236517205 : Int64))).toUInt64 >>> ((2 : Int32) &&& 0x3f).toInt64.toUInt64).toInt64) &&& (3689348814741910323 : Int64))).toUInt64 >>> ((4 : Int32) &&& 0x3f).toInt64.toUInt64).toInt64)) &&& (1085102592571150095 : Int64))), .second] [(.long (72340172838076673 : Int64)), (.long (((((p0 - (((p0.toUInt64 >>> ((1 : Int32) &&& 0x3f).toInt64.toUInt64).toInt64) &&& (6148914691236517205 : Int64))) &&& (3689348814741910323 : Int64)) + ((((p0 - (((p0.toUInt64 >>> ((1 : Int32) &&& 0x3f).toInt64.toUInt64).toInt64) &&& (6148914691236517205 : Int64))).toUInt64 >>> ((2 : Int32) &&& 0x3f).toInt64.toUInt64).toInt64) &&& (3689348814741910323 : Int64))) + (((((p0 - (((p0.toUInt64 >>> ((1 : Int32) &&& 0x3f).toInt64.toUInt64).toInt64) &&& (6148914691236517205 : Int64))) &&& (3689348814741910323 : Int64)) + ((((p0 - (((p0.toUInt64 >>> ((1 : Int32) &&& 0x3f).toInt64.toUInt64).toInt64) &&& (6148914691236517205 : Int64))).toUInt64 >>> ((2 : Int32) &&& 0x3f).toInt64.toUInt64).toInt64) &&& (3689348814741910323 : Int64))).toUInt64 >>> ((4 : Int32) &&& 0x3f).toInt64.toUInt64).toInt64)) &&& (1085102592571150095 : Int64)))])) (fun _ k_ => X0.ldc2J (own := "com/example/kobe/kobe/eval/MeasureScorePinLaw") (index := 53) (v := (72340172838076673 : Int64)) hx hown (mvT hZ (hw _ (List.mem_of_getElem? (i := 35) rfl))) rfl (Jvm.hb hby d6_37) k_) ?_
  refine own_go (t' := s₁.setTop (mkF m 41 #[.val (.long p0), .second, .val (.long (((((p0 - (((p0.toUInt64 >>> ((1 : Int32) &&& 0x3f).toInt64.toUInt64).toInt64) &&& (6148914691236517205 : Int64))) &&& (3689348814741910323 : Int64)) + ((((p0 - (((p0.toUInt64 >>> ((1 : Int32) &&& 0x3f).toInt64.toUInt64).toInt64) &&& (6148914691236517205 : Int64))).toUInt64 >>> ((2 : Int32) &&& 0x3f).toInt64.toUInt64).toInt64) &&& (3689348814741910323 : Int64))) + (((((p0 - (((p0.toUInt64 >>> ((1 : Int32) &&& 0x3f).toInt64.toUInt64).toInt64) &&& (6148914691236517205 : Int64))) &&& (3689348814741910323 : Int64)) + ((((p0 - (((p0.toUInt64 >>> ((1 : Int32) &&& 0x3f).toInt64.toUInt64).toInt64) &&& (6148914691236517205 : Int64))).toUInt64 >>> ((2 : Int32) &&& 0x3f).toInt64.toUInt64).toInt64) &&& (3689348814741910323 : Int64))).toUInt64 >>> ((4 : Int32) &&& 0x3f).toInt64.toUInt64).toInt64)) &&& (1085102592571150095 : Int64))), .second] [(.long ((((((p0 - (((p0.toUInt64 >>> ((1 : Int32) &&& 0x3f).toInt64.toUInt64).toInt64) &&& (6148914691236517205 : Int64))) &&& (3689348814741910323 : Int64)) + ((((p0 - (((p0.toUInt64 >>> ((1 : Int32) &&& 0x3f).toInt64.toUInt64).toInt64) &&& (6148914691236517205 : Int64))).toUInt64 >>> ((2 : Int32) &&& 0x3f).toInt64.toUInt64).toInt64) &&& (3689348814741910323 : Int64))) + (((((p0 - (((p0.toUInt64 >>> ((1 : Int32) &&& 0x3f).toInt64.toUInt64).toInt64) &&& (6148914691236517205 : Int64))) &&& (3689348814741910323 : Int64)) + ((((p0 - (((p0.toUInt64 >>> ((1 : Int32) &&& 0x3f).toInt64.toUInt64).toInt64) &&& (6148914691236517205 : Int64))).toUInt64 >>> ((2 : Int32) &&& 0x3f).toInt64.toUInt64).toInt64) &&& (3689348814741910323 : Int64))).toUInt64 >>> ((4 : Int32) &&& 0x3f).toInt64.toUInt64).toInt64)) &&& (1085102592571150095 : Int64)) * (72340172838076673 : Int64)))])) (fun _ k_ => XS.lmul X0.here hx rfl (Jvm.hb hby d6_40) rfl k_) ?_
  refine own_go (t' := s₁.setTop (mkF m 43 #[.val (.long p0), .second, .val (.long (((((p0 - (((p0.toUInt64 >>> ((1 : Int32) &&& 0x3f).toInt64.toUInt64).toInt64) &&& (6148914691236517205 : Int64))) &&& (3689348814741910323 : Int64)) + ((((p0 - (((p0.toUInt64 >>> ((1 : Int32) &&& 0x3f).toInt64.toUInt64).toInt64) &&& (6148914691236517205 : Int64))).toUInt64 >>> ((2 : Int32) &&& 0x3f).toInt64.toUInt64).toInt64) &&& (3689348814741910323 : Int64))) + (((((p0 - (((p0.toUInt64 >>> ((1 : Int32) &&& 0x3f).toInt64.toUInt64).toInt64) &&& (6148914691236517205 : Int64))) &&& (3689348814741910323 : Int64)) + ((((p0 - (((p0.toUInt64 >>> ((1 : Int32) &&& 0x3f).toInt64.toUInt64).toInt64) &&& (6148914691236517205 : Int64))).toUInt64 >>> ((2 : Int32) &&& 0x3f).toInt64.toUInt64).toInt64) &&& (3689348814741910323 : Int64))).toUInt64 >>> ((4 : Int32) &&& 0x3f).toInt64.toUInt64).toInt64)) &&& (1085102592571150095 : Int64))), .second] [(.int (56 : Int32)), (.long ((((((p0 - (((p0.toUInt64 >>> ((1 : Int32) &&& 0x3f).toInt64.toUInt64).toInt64) &&& (6148914691236517205 : Int64))) &&& (3689348814741910323 : Int64)) + ((((p0 - (((p0.toUInt64 >>> ((1 : Int32) &&& 0x3f).toInt64.toUInt64).toInt64) &&& (6148914691236517205 : Int64))).toUInt64 >>> ((2 : Int32) &&& 0x3f).toInt64.toUInt64).toInt64) &&& (3689348814741910323 : Int64))) + (((((p0 - (((p0.toUInt64 >>> ((1 : Int32) &&& 0x3f).toInt64.toUInt64).toInt64) &&& (6148914691236517205 : Int64))) &&& (3689348814741910323 : Int64)) + ((((p0 - (((p0.toUInt64 >>> ((1 : Int32) &&& 0x3f).toInt64.toUInt64).toInt64) &&& (6148914691236517205 : Int64))).toUInt64 >>> ((2 : Int32) &&& 0x3f).toInt64.toUInt64).toInt64) &&& (3689348814741910323 : Int64))).toUInt64 >>> ((4 : Int32) &&& 0x3f).toInt64.toUInt64).toInt64)) &&& (1085102592571150095 : Int64)) * (72340172838076673 : Int64)))])) (fun _ k_ => XS.bipush X0.here hx rfl (Jvm.hb hby d6_41) k_) ?_
  refine own_go (t' := s₁.setTop (mkF m 44 #[.val (.long p0), .second, .val (.long (((((p0 - (((p0.toUInt64 >>> ((1 : Int32) &&& 0x3f).toInt64.toUInt64).toInt64) &&& (6148914691236517205 : Int64))) &&& (3689348814741910323 : Int64)) + ((((p0 - (((p0.toUInt64 >>> ((1 : Int32) &&& 0x3f).toInt64.toUInt64).toInt64) &&& (6148914691236517205 : Int64))).toUInt64 >>> ((2 : Int32) &&& 0x3f).toInt64.toUInt64).toInt64) &&& (3689348814741910323 : Int64))) + (((((p0 - (((p0.toUInt64 >>> ((1 : Int32) &&& 0x3f).toInt64.toUInt64).toInt64) &&& (6148914691236517205 : Int64))) &&& (3689348814741910323 : Int64)) + ((((p0 - (((p0.toUInt64 >>> ((1 : Int32) &&& 0x3f).toInt64.toUInt64).toInt64) &&& (6148914691236517205 : Int64))).toUInt64 >>> ((2 : Int32) &&& 0x3f).toInt64.toUInt64).toInt64) &&& (3689348814741910323 : Int64))).toUInt64 >>> ((4 : Int32) &&& 0x3f).toInt64.toUInt64).toInt64)) &&& (1085102592571150095 : Int64))), .second] [(.long ((((((((p0 - (((p0.toUInt64 >>> ((1 : Int32) &&& 0x3f).toInt64.toUInt64).toInt64) &&& (6148914691236517205 : Int64))) &&& (3689348814741910323 : Int64)) + ((((p0 - (((p0.toUInt64 >>> ((1 : Int32) &&& 0x3f).toInt64.toUInt64).toInt64) &&& (6148914691236517205 : Int64))).toUInt64 >>> ((2 : Int32) &&& 0x3f).toInt64.toUInt64).toInt64) &&& (3689348814741910323 : Int64))) + (((((p0 - (((p0.toUInt64 >>> ((1 : Int32) &&& 0x3f).toInt64.toUInt64).toInt64) &&& (6148914691236517205 : Int64))) &&& (3689348814741910323 : Int64)) + ((((p0 - (((p0.toUInt64 >>> ((1 : Int32) &&& 0x3f).toInt64.toUInt64).toInt64) &&& (6148914691236517205 : Int64))).toUInt64 >>> ((2 : Int32) &&& 0x3f).toInt64.toUInt64).toInt64) &&& (3689348814741910323 : Int64))).toUInt64 >>> ((4 : Int32) &&& 0x3f).toInt64.toUInt64).toInt64)) &&& (1085102592571150095 : Int64)) * (72340172838076673 : Int64)).toUInt64 >>> ((56 : Int32) &&& 0x3f).toInt64.toUInt64).toInt64))])) (fun _ k_ => XS.lushr X0.here hx rfl (Jvm.hb hby d6_43) rfl k_) ?_
  refine own_go (t' := s₁.setTop (mkF m 45 #[.val (.long p0), .second, .val (.long (((((p0 - (((p0.toUInt64 >>> ((1 : Int32) &&& 0x3f).toInt64.toUInt64).toInt64) &&& (6148914691236517205 : Int64))) &&& (3689348814741910323 : Int64)) + ((((p0 - (((p0.toUInt64 >>> ((1 : Int32) &&& 0x3f).toInt64.toUInt64).toInt64) &&& (6148914691236517205 : Int64))).toUInt64 >>> ((2 : Int32) &&& 0x3f).toInt64.toUInt64).toInt64) &&& (3689348814741910323 : Int64))) + (((((p0 - (((p0.toUInt64 >>> ((1 : Int32) &&& 0x3f).toInt64.toUInt64).toInt64) &&& (6148914691236517205 : Int64))) &&& (3689348814741910323 : Int64)) + ((((p0 - (((p0.toUInt64 >>> ((1 : Int32) &&& 0x3f).toInt64.toUInt64).toInt64) &&& (6148914691236517205 : Int64))).toUInt64 >>> ((2 : Int32) &&& 0x3f).toInt64.toUInt64).toInt64) &&& (3689348814741910323 : Int64))).toUInt64 >>> ((4 : Int32) &&& 0x3f).toInt64.toUInt64).toInt64)) &&& (1085102592571150095 : Int64))), .second] [(.int ((((((((p0 - (((p0.toUInt64 >>> ((1 : Int32) &&& 0x3f).toInt64.toUInt64).toInt64) &&& (6148914691236517205 : Int64))) &&& (3689348814741910323 : Int64)) + ((((p0 - (((p0.toUInt64 >>> ((1 : Int32) &&& 0x3f).toInt64.toUInt64).toInt64) &&& (6148914691236517205 : Int64))).toUInt64 >>> ((2 : Int32) &&& 0x3f).toInt64.toUInt64).toInt64) &&& (3689348814741910323 : Int64))) + (((((p0 - (((p0.toUInt64 >>> ((1 : Int32) &&& 0x3f).toInt64.toUInt64).toInt64) &&& (6148914691236517205 : Int64))) &&& (3689348814741910323 : Int64)) + ((((p0 - (((p0.toUInt64 >>> ((1 : Int32) &&& 0x3f).toInt64.toUInt64).toInt64) &&& (6148914691236517205 : Int64))).toUInt64 >>> ((2 : Int32) &&& 0x3f).toInt64.toUInt64).toInt64) &&& (3689348814741910323 : Int64))).toUInt64 >>> ((4 : Int32) &&& 0x3f).toInt64.toUInt64).toInt64)) &&& (1085102592571150095 : Int64)) * (72340172838076673 : Int64)).toUInt64 >>> ((56 : Int32) &&& 0x3f).toInt64.toUInt64).toInt64).toInt32)])) (fun _ k_ => XS.l2i X0.here hx rfl (Jvm.hb hby d6_44) rfl k_) ?_
  exact own_retI X0 hx Bd.returns (BodyLoose.notSynchronized Bd) (Jvm.hb hby d6_45) (by decide) (by decide) ⟨rfl, N0, e0⟩
theorem own_set_at {p3 : Int64} {i n : Nat} {f : Nat → Value} {z : Int32} (hz : (.int z : Value) = own_bv p3 i) (hf : ∀ j, j < i → j < n → f j = own_bv p3 j) : ∀ j, j < i + 1 → j < n → own_upd f i (.int z) j = own_bv p3 j := fun j hj hjn => by
  unfold own_upd
  by_cases q : j = i
  · subst q; rw [if_pos rfl]; exact hz
  · rw [if_neg q]; exact hf j (by omega) hjn
theorem own_bit_true {p3 : Int64} {i : Nat} (h : ¬ own_bit p3 i = false) : own_bit p3 i = true := by
  cases q : own_bit p3 i with
  | false => exact absurd q h
  | true => rfl
theorem ef_rm_set (m : MethodId) (x0 : Addr) (x1 : Int32) (x2 : Int64) : entryFrame m #[(.ref x0), (.int x1), (.long x2)] 4 = mkF m 0 #[.val (.ref x0), .val (.int x1), .val (.long x2), .second] [] := by first | (simp [entryFrame, mkF, argsToLocals, Value.category]; done) | rfl
set_option maxRecDepth 65536 in
set_option maxHeartbeats 40000000 in
theorem rm_set (l : Launch) (Z : State) (a0 : Array Value) (hw : ∀ d ∈ tables_1, d.before a0 Z = true) (ws : List Jvm.Cond) (a1 : Addr) (i n : Nat) (p3 : Int64) (f : Nat → Value) (h0 : Heap) (n0 : Nat) (Z0 : n0 ≤ h0.size) (A : own_Ar Z h0 a1 .boolean n f) (hn : n ≤ 33) (hi : i ≤ 32) (hf : ∀ j, j < i → j < n → f j = own_bv p3 j) (g1 : n0 ≤ a1) :
    own_Ctr l Z (⟨"com/example/kobe/kobe/eval/MeasureScorePinLaw", "set", "([ZIJ)V"⟩ : MethodName) method_3_code 4 none ws ({ frames := 0, cells := 0, slots := 0, locals := 0 } : Room) #[(.ref a1), (.int (Int32.ofNat i)), (.long p3)] h0 (fun v h L => v = none ∧ Fr n0 L ∧ Keep h0 h [a1] ∧ (∀ (C0 f0 d0 : String) (v0 : Value), Sta Z h0 C0 f0 d0 v0 → Sta Z h C0 f0 d0 v0) ∧ ∃ f', own_Ar Z h a1 .boolean n f' ∧ ∀ j, j < i + 1 → j < n → f' j = own_bv p3 j) := by
  refine own_enter (plainFor_of_name pn_d1) ?_
  intro p e s m below meth c s₁ Bd hZ hml X0 e0
  have hx := Bd.exec
  have hby := Bd.bytes
  have hown : s.vm.findClass "com/example/kobe/kobe/eval/MeasureScorePinLaw" = some m.cls := findClass_of_methodNamed Bd.named
  have hnm := (name_of_methodNamed Bd.named Bd.method).1
  have N0 := Fr.nil n0
  refine own_go (t' := s₁.setTop (mkF m 0 #[.val (.ref a1), .val (.int (Int32.ofNat i)), .val (.long p3), .second] [])) (fun _ k_ => castTop (ef_rm_set m a1 (Int32.ofNat i) p3) k_) ?_
  refine own_go (t' := s₁.setTop (mkF m 1 #[.val (.ref a1), .val (.int (Int32.ofNat i)), .val (.long p3), .second] [(.int (Int32.ofNat i))])) (fun _ k_ => XS.iloadN X0.here hx rfl (Jvm.hb hby d1_0) rfl k_) ?_
  refine own_go (t' := s₁.setTop (mkF m 2 #[.val (.ref a1), .val (.int (Int32.ofNat i)), .val (.long p3), .second] [(.ref a1), (.int (Int32.ofNat i))])) (fun _ k_ => XS.aloadN X0.here hx rfl (Jvm.hb hby d1_1) rfl rfl k_) ?_
  refine own_go (t' := s₁.setTop (mkF m 3 #[.val (.ref a1), .val (.int (Int32.ofNat i)), .val (.long p3), .second] [(.int (Int32.ofNat n)), (.int (Int32.ofNat i))])) (own_alen X0 hx hZ e0 A (g := (mkF m 2 #[.val (.ref a1), .val (.int (Int32.ofNat i)), .val (.long p3), .second] [(.ref a1), (.int (Int32.ofNat i))])) rfl rfl (Jvm.hb hby d1_2)) ?_
  by_cases hc : i < n
  ·
    refine own_go (t' := s₁.setTop (mkF m 6 #[.val (.ref a1), .val (.int (Int32.ofNat i)), .val (.long p3), .second] [])) (fun _ k_ => XS.icmpNo X0.here hx rfl (Jvm.hb hby d1_3) rfl (tlt ((own_ilt (by omega) (by omega)).mpr hc)).2.1 k_) ?_
    refine own_go (t' := s₁.setTop (mkF m 7 #[.val (.ref a1), .val (.int (Int32.ofNat i)), .val (.long p3), .second] [(.ref a1)])) (fun _ k_ => XS.aloadN X0.here hx rfl (Jvm.hb hby d1_6) rfl rfl k_) ?_
    refine own_go (t' := s₁.setTop (mkF m 8 #[.val (.ref a1), .val (.int (Int32.ofNat i)), .val (.long p3), .second] [(.int (Int32.ofNat i)), (.ref a1)])) (fun _ k_ => XS.iloadN X0.here hx rfl (Jvm.hb hby d1_7) rfl k_) ?_
    refine own_go (t' := s₁.setTop (mkF m 9 #[.val (.ref a1), .val (.int (Int32.ofNat i)), .val (.long p3), .second] [(.long p3), (.int (Int32.ofNat i)), (.ref a1)])) (fun _ k_ => XS.lloadN X0.here hx rfl (Jvm.hb hby d1_8) rfl k_) ?_
    refine own_go (t' := s₁.setTop (mkF m 10 #[.val (.ref a1), .val (.int (Int32.ofNat i)), .val (.long p3), .second] [(.int (Int32.ofNat i)), (.long p3), (.int (Int32.ofNat i)), (.ref a1)])) (fun _ k_ => XS.iloadN X0.here hx rfl (Jvm.hb hby d1_9) rfl k_) ?_
    refine own_go (t' := s₁.setTop (mkF m 11 #[.val (.ref a1), .val (.int (Int32.ofNat i)), .val (.long p3), .second] [(.long ((p3.toUInt64 >>> ((Int32.ofNat i) &&& 0x3f).toInt64.toUInt64).toInt64)), (.int (Int32.ofNat i)), (.ref a1)])) (fun _ k_ => XS.lushr X0.here hx rfl (Jvm.hb hby d1_10) rfl k_) ?_
    refine own_go (t' := s₁.setTop (mkF m 12 #[.val (.ref a1), .val (.int (Int32.ofNat i)), .val (.long p3), .second] [(.long (1 : Int64)), (.long ((p3.toUInt64 >>> ((Int32.ofNat i) &&& 0x3f).toInt64.toUInt64).toInt64)), (.int (Int32.ofNat i)), (.ref a1)])) (fun _ k_ => XS.lconst X0.here hx rfl (Jvm.hb hby d1_11) k_) ?_
    refine own_go (t' := s₁.setTop (mkF m 13 #[.val (.ref a1), .val (.int (Int32.ofNat i)), .val (.long p3), .second] [(.long (((p3.toUInt64 >>> ((Int32.ofNat i) &&& 0x3f).toInt64.toUInt64).toInt64) &&& (1 : Int64))), (.int (Int32.ofNat i)), (.ref a1)])) (fun _ k_ => XS.land X0.here hx rfl (Jvm.hb hby d1_12) rfl k_) ?_
    refine own_go (t' := s₁.setTop (mkF m 14 #[.val (.ref a1), .val (.int (Int32.ofNat i)), .val (.long p3), .second] [(.long (0 : Int64)), (.long (((p3.toUInt64 >>> ((Int32.ofNat i) &&& 0x3f).toInt64.toUInt64).toInt64) &&& (1 : Int64))), (.int (Int32.ofNat i)), (.ref a1)])) (fun _ k_ => XS.lconst X0.here hx rfl (Jvm.hb hby d1_13) k_) ?_
    refine own_go (t' := s₁.setTop (mkF m 15 #[.val (.ref a1), .val (.int (Int32.ofNat i)), .val (.long p3), .second] [(.int (lcmpW (((p3.toUInt64 >>> ((Int32.ofNat i) &&& 0x3f).toInt64.toUInt64).toInt64) &&& (1 : Int64)) (0 : Int64))), (.int (Int32.ofNat i)), (.ref a1)])) (fun _ k_ => XS.lcmp X0.here hx rfl (Jvm.hb hby d1_14) rfl k_) ?_
    have J23 : ∀ z : Int32, (.int z : Value) = own_bv p3 i → nar .boolean z = z → own_Ends p.tables e below (own_F s (fun v h L => v = none ∧ Fr n0 L ∧ Keep h0 h [a1] ∧ (∀ (C0 f0 d0 : String) (v0 : Value), Sta Z h0 C0 f0 d0 v0 → Sta Z h C0 f0 d0 v0) ∧ ∃ f', own_Ar Z h a1 .boolean n f' ∧ ∀ j, j < i + 1 → j < n → f' j = own_bv p3 j) ({ frames := 0, cells := 0, slots := 0, locals := 0 } : Room).cells ({ frames := 0, cells := 0, slots := 0, locals := 0 } : Room).slots) (s₁.setTop (mkF m 23 #[.val (.ref a1), .val (.int (Int32.ofNat i)), .val (.long p3), .second] [(.int z), (.int (Int32.ofNat i)), (.ref a1)])) := by
      intro z hz hnz
      obtain ⟨T1, h1, X1, e1, W1, A1, st1⟩ := own_stZ X0 hx hZ e0 A (by omega) hc hnz (g := (mkF m 23 #[.val (.ref a1), .val (.int (Int32.ofNat i)), .val (.long p3), .second] [(.int z), (.int (Int32.ofNat i)), (.ref a1)])) rfl rfl (Jvm.hb hby d1_23)
      refine own_go (t' := T1.setTop (mkF m 24 #[.val (.ref a1), .val (.int (Int32.ofNat i)), .val (.long p3), .second] [])) st1 ?_
      have N1 := Fr.snoc X1 N0 g1
      exact own_retV X1 hx Bd.returns (BodyLoose.notSynchronized Bd) (Jvm.hb hby d1_24) (by decide) (by decide) ⟨rfl, N1, by rw [e1]; exact (Keep.refl _ _).wr W1 (Or.inl (List.mem_of_getElem? (i := 0) rfl)), by rw [e1]; exact fun _ _ _ _ S0 => S0.wr W1, _, by rw [e1]; exact A1, own_set_at hz hf⟩
    by_cases hb : (((p3.toUInt64 >>> ((Int32.ofNat i) &&& 0x3f).toInt64.toUInt64).toInt64) &&& (1 : Int64)) = 0
    ·
      refine own_go (t' := s₁.setTop (mkF m 22 #[.val (.ref a1), .val (.int (Int32.ofNat i)), .val (.long p3), .second] [(.int (Int32.ofNat i)), (.ref a1)])) (fun _ k_ => XS.ifYes X0.here hx rfl (pc0 := 15) (pc' := 22) rfl (Jvm.hb hby d1_15) rfl ((if0 _ _).trans (teq ((lw_eq _ _).mpr hb)).1) (by decide) (by decide) k_) ?_
      refine own_go (t' := s₁.setTop (mkF m 23 #[.val (.ref a1), .val (.int (Int32.ofNat i)), .val (.long p3), .second] [(.int (0 : Int32)), (.int (Int32.ofNat i)), (.ref a1)])) (fun _ k_ => XS.iconst X0.here hx rfl (Jvm.hb hby d1_22) k_) ?_
      exact J23 _ (by unfold own_bv; rw [(own_bit_at p3 (by omega)).mp hb]; rfl) rfl
    ·
      refine own_go (t' := s₁.setTop (mkF m 18 #[.val (.ref a1), .val (.int (Int32.ofNat i)), .val (.long p3), .second] [(.int (Int32.ofNat i)), (.ref a1)])) (fun _ k_ => XS.ifNo X0.here hx rfl (Jvm.hb hby d1_15) rfl ((if0 _ _).trans (feq (fun q => hb ((lw_eq _ _).mp q))).1) k_) ?_
      refine own_go (t' := s₁.setTop (mkF m 19 #[.val (.ref a1), .val (.int (Int32.ofNat i)), .val (.long p3), .second] [(.int (1 : Int32)), (.int (Int32.ofNat i)), (.ref a1)])) (fun _ k_ => XS.iconst X0.here hx rfl (Jvm.hb hby d1_18) k_) ?_
      refine own_go (t' := s₁.setTop (mkF m 23 #[.val (.ref a1), .val (.int (Int32.ofNat i)), .val (.long p3), .second] [(.int (1 : Int32)), (.int (Int32.ofNat i)), (.ref a1)])) (fun _ k_ => XS.goto X0.here hx rfl (pc0 := 19) (pc' := 23) rfl (Jvm.hb hby d1_19) (by decide) (by decide) k_) ?_
      exact J23 _ (by unfold own_bv; rw [own_bit_true (fun q => hb ((own_bit_at p3 (by omega)).mpr q))]; rfl) rfl
  ·
    refine own_go (t' := s₁.setTop (mkF m 24 #[.val (.ref a1), .val (.int (Int32.ofNat i)), .val (.long p3), .second] [])) (fun _ k_ => XS.icmpYes X0.here hx rfl (pc0 := 3) (pc' := 24) rfl (Jvm.hb hby d1_3) rfl (flt (fun q => hc ((own_ilt (by omega) (by omega)).mp q))).2.1 (by decide) (by decide) k_) ?_
    exact own_retV X0 hx Bd.returns (BodyLoose.notSynchronized Bd) (Jvm.hb hby d1_24) (by decide) (by decide) ⟨rfl, N0, by rw [e0]; exact Keep.refl _ _, by rw [e0]; exact fun _ _ _ _ S0 => S0, f, by rw [e0]; exact A, fun j hj hjn => hf j (by omega) hjn⟩
theorem own_knz {k : Nat} (h : 1 ≤ k) (h2 : k ≤ 1000) : Int32.ofNat k ≠ 0 := fun q => by
  have := congrArg Int32.toInt q
  rw [own_i32 (by omega), show (0 : Int32).toInt = 0 by decide] at this
  omega
theorem ef_rm_prec (m : MethodId) (x0 : Int32) (x1 : Addr) : entryFrame m #[(.int x0), (.ref x1)] 4 = mkF m 0 #[.val (.int x0), .val (.ref x1), .unset, .unset] [] := by first | (simp [entryFrame, mkF, argsToLocals, Value.category]; done) | rfl
set_option maxRecDepth 65536 in
set_option maxHeartbeats 40000000 in
theorem rm_prec (l : Launch) (Z : State) (a0 : Array Value) (hw : ∀ d ∈ tables_1, d.before a0 Z = true) (ws : List Jvm.Cond) (kk nn : Nat) (ar : Addr) (pat : Int64) (f : Nat → Value) (h0 : Heap) (n0 : Nat) (Z0 : n0 ≤ h0.size) (A : own_Ar Z h0 ar .boolean nn f) (hn : nn ≤ 33) (hf : ∀ j, j < nn → f j = own_bv pat j) (hk : 1 ≤ kk) (hk2 : kk ≤ 1000) :
    own_Ctr l Z (⟨"com/example/kobe/kobe/eval/Measure", "precisionAt", "(I[Z)D"⟩ : MethodName) prog_11_method_7_code 4 (some .double) ws ({ frames := 1, cells := 0, slots := 0, locals := 14 } : Room) #[(.int (Int32.ofNat kk)), (.ref ar)] h0 (fun v h L => v = some (.double (FP.ddiv (FP.i2d (Int32.ofNat (own_cnt (own_bit pat) (min kk nn)))) (FP.i2d (Int32.ofNat kk)))) ∧ Fr n0 L ∧ h = h0) := by
  refine own_enter (plainFor_of_name pn_d3) ?_
  intro p e s m below meth c s₁ Bd hZ hml X0 e0
  have hx := Bd.exec
  have hby := Bd.bytes
  have hown : s.vm.findClass "com/example/kobe/kobe/eval/Measure" = some m.cls := findClass_of_methodNamed Bd.named
  have hnm := (name_of_methodNamed Bd.named Bd.method).1
  have N0 := Fr.nil n0
  refine own_go (t' := s₁.setTop (mkF m 0 #[.val (.int (Int32.ofNat kk)), .val (.ref ar), .unset, .unset] [])) (fun _ k_ => castTop (ef_rm_prec m (Int32.ofNat kk) ar) k_) ?_
  refine own_go (t' := s₁.setTop (mkF m 1 #[.val (.int (Int32.ofNat kk)), .val (.ref ar), .unset, .unset] [(.int (0 : Int32))])) (fun _ k_ => XS.iconst X0.here hx rfl (Jvm.hb hby d3_0) k_) ?_
  refine own_go (t' := s₁.setTop (mkF m 2 #[.val (.int (Int32.ofNat kk)), .val (.ref ar), .val (.int (0 : Int32)), .unset] [])) (fun _ k_ => XS.istoreN X0.here hx rfl (Jvm.hb hby d3_1) rfl (l' := #[.val (.int (Int32.ofNat kk)), .val (.ref ar), .val (.int (0 : Int32)), .unset]) rfl k_) ?_
  refine own_go (t' := s₁.setTop (mkF m 3 #[.val (.int (Int32.ofNat kk)), .val (.ref ar), .val (.int (0 : Int32)), .unset] [(.int (0 : Int32))])) (fun _ k_ => XS.iconst X0.here hx rfl (Jvm.hb hby d3_2) k_) ?_
  refine own_go (t' := s₁.setTop (mkF m 4 #[.val (.int (Int32.ofNat kk)), .val (.ref ar), .val (.int (0 : Int32)), .val (.int (0 : Int32))] [])) (fun _ k_ => XS.istoreN X0.here hx rfl (Jvm.hb hby d3_3) rfl (l' := #[.val (.int (Int32.ofNat kk)), .val (.ref ar), .val (.int (0 : Int32)), .val (.int (0 : Int32))]) rfl k_) ?_
  have loop : ∀ d i : Nat, i + d = min kk nn → ∀ (Tj : State) (lj : List Loc), Stand p l e ({ frames := 1, cells := 0, slots := 0, locals := 14 } : Room) s m #[(.int (Int32.ofNat kk)), (.ref ar)] below meth c Tj lj 0 0 → Tj.heap = h0 → Fr n0 lj → own_Ends p.tables e below (own_F s (fun v h L => v = some (.double (FP.ddiv (FP.i2d (Int32.ofNat (own_cnt (own_bit pat) (min kk nn)))) (FP.i2d (Int32.ofNat kk)))) ∧ Fr n0 L ∧ h = h0) ({ frames := 1, cells := 0, slots := 0, locals := 14 } : Room).cells ({ frames := 1, cells := 0, slots := 0, locals := 14 } : Room).slots) (Tj.setTop (mkF m 4 #[.val (.int (Int32.ofNat kk)), .val (.ref ar), .val (.int (Int32.ofNat (own_cnt (own_bit pat) i))), .val (.int (Int32.ofNat i))] [])) := by
    intro d
    induction d with
    | zero =>
      intro i hid Tj lj Xj ej Nj
      refine own_go (t' := Tj.setTop (mkF m 5 #[.val (.int (Int32.ofNat kk)), .val (.ref ar), .val (.int (Int32.ofNat (own_cnt (own_bit pat) i))), .val (.int (Int32.ofNat i))] [(.int (Int32.ofNat i))])) (fun _ k_ => XS.iloadN Xj.here hx rfl (Jvm.hb hby d3_4) rfl k_) ?_
      refine own_go (t' := Tj.setTop (mkF m 6 #[.val (.int (Int32.ofNat kk)), .val (.ref ar), .val (.int (Int32.ofNat (own_cnt (own_bit pat) i))), .val (.int (Int32.ofNat i))] [(.int (Int32.ofNat kk)), (.int (Int32.ofNat i))])) (fun _ k_ => XS.iloadN Xj.here hx rfl (Jvm.hb hby d3_5) rfl k_) ?_
      refine own_go (t' := Tj.setTop (mkF m 7 #[.val (.int (Int32.ofNat kk)), .val (.ref ar), .val (.int (Int32.ofNat (own_cnt (own_bit pat) i))), .val (.int (Int32.ofNat i))] [(.ref ar), (.int (Int32.ofNat kk)), (.int (Int32.ofNat i))])) (fun _ k_ => XS.aloadN Xj.here hx rfl (Jvm.hb hby d3_6) rfl rfl k_) ?_
      refine own_go (t' := Tj.setTop (mkF m 8 #[.val (.int (Int32.ofNat kk)), .val (.ref ar), .val (.int (Int32.ofNat (own_cnt (own_bit pat) i))), .val (.int (Int32.ofNat i))] [(.int (Int32.ofNat nn)), (.int (Int32.ofNat kk)), (.int (Int32.ofNat i))])) (own_alen Xj hx hZ ej A (g := (mkF m 7 #[.val (.int (Int32.ofNat kk)), .val (.ref ar), .val (.int (Int32.ofNat (own_cnt (own_bit pat) i))), .val (.int (Int32.ofNat i))] [(.ref ar), (.int (Int32.ofNat kk)), (.int (Int32.ofNat i))])) rfl rfl (Jvm.hb hby d3_7)) ?_
      obtain ⟨T1, L1, v1, X1, hQ1, st1⟩ := own_static Xj hx hZ hown (hw _ (List.mem_of_getElem? (i := 21) rfl)) (hw _ (List.mem_of_getElem? (i := 22) rfl)) (hw _ (List.mem_of_getElem? (i := 23) rfl)) (hw _ (List.mem_of_getElem? (i := 24) rfl)) (by decide) (rm_min l Z a0 hw [] _ _ h0 n0 Z0) ej (g := (mkF m 8 #[.val (.int (Int32.ofNat kk)), .val (.ref ar), .val (.int (Int32.ofNat (own_cnt (own_bit pat) i))), .val (.int (Int32.ofNat i))] [(.int (Int32.ofNat nn)), (.int (Int32.ofNat kk)), (.int (Int32.ofNat i))])) rfl (by rw [hml]; rfl) (argsL := [(.int (Int32.ofNat kk)), (.int (Int32.ofNat nn))]) (rest := [(.int (Int32.ofNat i))]) (lenOf pd_d4 rfl) rfl (W := 1) (by show 2 * 0 + _ ≤ _; exact Nat.le_of_eq rfl) (Jvm.hb hby d3_8) (by decide) (by decide) (by decide) (by decide)
      obtain ⟨rfl, Nq1, e1⟩ := hQ1
      have N1 := Fr.app Nj Nq1
      refine own_go (t' := T1.setTop (mkF m 11 #[.val (.int (Int32.ofNat kk)), .val (.ref ar), .val (.int (Int32.ofNat (own_cnt (own_bit pat) i))), .val (.int (Int32.ofNat i))] [(.int (if Int32.ofNat nn < Int32.ofNat kk then Int32.ofNat nn else Int32.ofNat kk)), (.int (Int32.ofNat i))])) st1 ?_
      rw [own_minI (by omega) (by omega)]
      have hie : i = min kk nn := by omega
      subst hie
      refine own_go (t' := T1.setTop (mkF m 29 #[.val (.int (Int32.ofNat kk)), .val (.ref ar), .val (.int (Int32.ofNat (own_cnt (own_bit pat) (min kk nn)))), .val (.int (Int32.ofNat (min kk nn)))] [])) (fun _ k_ => XS.icmpYes X1.here hx rfl (pc0 := 11) (pc' := 29) rfl (Jvm.hb hby d3_11) rfl (flt Int32.lt_irrefl).2.1 (by decide) (by decide) k_) ?_
      refine own_go (t' := T1.setTop (mkF m 30 #[.val (.int (Int32.ofNat kk)), .val (.ref ar), .val (.int (Int32.ofNat (own_cnt (own_bit pat) (min kk nn)))), .val (.int (Int32.ofNat (min kk nn)))] [(.int (Int32.ofNat (own_cnt (own_bit pat) (min kk nn))))])) (fun _ k_ => XS.iloadN X1.here hx rfl (Jvm.hb hby d3_29) rfl k_) ?_
      refine own_go (t' := T1.setTop (mkF m 31 #[.val (.int (Int32.ofNat kk)), .val (.ref ar), .val (.int (Int32.ofNat (own_cnt (own_bit pat) (min kk nn)))), .val (.int (Int32.ofNat (min kk nn)))] [(.double (FP.i2d (Int32.ofNat (own_cnt (own_bit pat) (min kk nn)))))])) (fun _ k_ => XS.i2dS X1.here hx rfl (Jvm.hb hby d3_30) rfl rfl k_) ?_
      refine own_go (t' := T1.setTop (mkF m 32 #[.val (.int (Int32.ofNat kk)), .val (.ref ar), .val (.int (Int32.ofNat (own_cnt (own_bit pat) (min kk nn)))), .val (.int (Int32.ofNat (min kk nn)))] [(.int (Int32.ofNat kk)), (.double (FP.i2d (Int32.ofNat (own_cnt (own_bit pat) (min kk nn)))))])) (fun _ k_ => XS.iloadN X1.here hx rfl (Jvm.hb hby d3_31) rfl k_) ?_
      refine own_go (t' := T1.setTop (mkF m 33 #[.val (.int (Int32.ofNat kk)), .val (.ref ar), .val (.int (Int32.ofNat (own_cnt (own_bit pat) (min kk nn)))), .val (.int (Int32.ofNat (min kk nn)))] [(.double (FP.i2d (Int32.ofNat kk))), (.double (FP.i2d (Int32.ofNat (own_cnt (own_bit pat) (min kk nn)))))])) (fun _ k_ => XS.i2dS X1.here hx rfl (Jvm.hb hby d3_32) rfl rfl k_) ?_
      refine own_go (t' := T1.setTop (mkF m 34 #[.val (.int (Int32.ofNat kk)), .val (.ref ar), .val (.int (Int32.ofNat (own_cnt (own_bit pat) (min kk nn)))), .val (.int (Int32.ofNat (min kk nn)))] [(.double (FP.ddiv (FP.i2d (Int32.ofNat (own_cnt (own_bit pat) (min kk nn)))) (FP.i2d (Int32.ofNat kk))))])) (fun _ k_ => XS.ddivS X1.here hx rfl (Jvm.hb hby d3_33) rfl (OwnFp.div_any (OwnFp.fin_nan (OwnFp.i2d_f _)) (own_knz hk hk2)) rfl k_) ?_
      exact own_retD X1 hx Bd.returns (BodyLoose.notSynchronized Bd) (Jvm.hb hby d3_34) (by decide) (by decide) ⟨rfl, N1, e1⟩
    | succ d ih =>
      intro i hid Tj lj Xj ej Nj
      refine own_go (t' := Tj.setTop (mkF m 5 #[.val (.int (Int32.ofNat kk)), .val (.ref ar), .val (.int (Int32.ofNat (own_cnt (own_bit pat) i))), .val (.int (Int32.ofNat i))] [(.int (Int32.ofNat i))])) (fun _ k_ => XS.iloadN Xj.here hx rfl (Jvm.hb hby d3_4) rfl k_) ?_
      refine own_go (t' := Tj.setTop (mkF m 6 #[.val (.int (Int32.ofNat kk)), .val (.ref ar), .val (.int (Int32.ofNat (own_cnt (own_bit pat) i))), .val (.int (Int32.ofNat i))] [(.int (Int32.ofNat kk)), (.int (Int32.ofNat i))])) (fun _ k_ => XS.iloadN Xj.here hx rfl (Jvm.hb hby d3_5) rfl k_) ?_
      refine own_go (t' := Tj.setTop (mkF m 7 #[.val (.int (Int32.ofNat kk)), .val (.ref ar), .val (.int (Int32.ofNat (own_cnt (own_bit pat) i))), .val (.int (Int32.ofNat i))] [(.ref ar), (.int (Int32.ofNat kk)), (.int (Int32.ofNat i))])) (fun _ k_ => XS.aloadN Xj.here hx rfl (Jvm.hb hby d3_6) rfl rfl k_) ?_
      refine own_go (t' := Tj.setTop (mkF m 8 #[.val (.int (Int32.ofNat kk)), .val (.ref ar), .val (.int (Int32.ofNat (own_cnt (own_bit pat) i))), .val (.int (Int32.ofNat i))] [(.int (Int32.ofNat nn)), (.int (Int32.ofNat kk)), (.int (Int32.ofNat i))])) (own_alen Xj hx hZ ej A (g := (mkF m 7 #[.val (.int (Int32.ofNat kk)), .val (.ref ar), .val (.int (Int32.ofNat (own_cnt (own_bit pat) i))), .val (.int (Int32.ofNat i))] [(.ref ar), (.int (Int32.ofNat kk)), (.int (Int32.ofNat i))])) rfl rfl (Jvm.hb hby d3_7)) ?_
      obtain ⟨T2, L2, v2, X2, hQ2, st2⟩ := own_static Xj hx hZ hown (hw _ (List.mem_of_getElem? (i := 21) rfl)) (hw _ (List.mem_of_getElem? (i := 22) rfl)) (hw _ (List.mem_of_getElem? (i := 23) rfl)) (hw _ (List.mem_of_getElem? (i := 24) rfl)) (by decide) (rm_min l Z a0 hw [] _ _ h0 n0 Z0) ej (g := (mkF m 8 #[.val (.int (Int32.ofNat kk)), .val (.ref ar), .val (.int (Int32.ofNat (own_cnt (own_bit pat) i))), .val (.int (Int32.ofNat i))] [(.int (Int32.ofNat nn)), (.int (Int32.ofNat kk)), (.int (Int32.ofNat i))])) rfl (by rw [hml]; rfl) (argsL := [(.int (Int32.ofNat kk)), (.int (Int32.ofNat nn))]) (rest := [(.int (Int32.ofNat i))]) (lenOf pd_d4 rfl) rfl (W := 1) (by show 2 * 0 + _ ≤ _; exact Nat.le_of_eq rfl) (Jvm.hb hby d3_8) (by decide) (by decide) (by decide) (by decide)
      obtain ⟨rfl, Nq2, e2⟩ := hQ2
      have N2 := Fr.app Nj Nq2
      refine own_go (t' := T2.setTop (mkF m 11 #[.val (.int (Int32.ofNat kk)), .val (.ref ar), .val (.int (Int32.ofNat (own_cnt (own_bit pat) i))), .val (.int (Int32.ofNat i))] [(.int (if Int32.ofNat nn < Int32.ofNat kk then Int32.ofNat nn else Int32.ofNat kk)), (.int (Int32.ofNat i))])) st2 ?_
      rw [own_minI (by omega) (by omega)]
      have hlt : i < nn := by omega
      refine own_go (t' := T2.setTop (mkF m 14 #[.val (.int (Int32.ofNat kk)), .val (.ref ar), .val (.int (Int32.ofNat (own_cnt (own_bit pat) i))), .val (.int (Int32.ofNat i))] [])) (fun _ k_ => XS.icmpNo X2.here hx rfl (Jvm.hb hby d3_11) rfl (tlt ((own_ilt (by omega) (by omega)).mpr (by omega))).2.1 k_) ?_
      refine own_go (t' := T2.setTop (mkF m 15 #[.val (.int (Int32.ofNat kk)), .val (.ref ar), .val (.int (Int32.ofNat (own_cnt (own_bit pat) i))), .val (.int (Int32.ofNat i))] [(.ref ar)])) (fun _ k_ => XS.aloadN X2.here hx rfl (Jvm.hb hby d3_14) rfl rfl k_) ?_
      refine own_go (t' := T2.setTop (mkF m 16 #[.val (.int (Int32.ofNat kk)), .val (.ref ar), .val (.int (Int32.ofNat (own_cnt (own_bit pat) i))), .val (.int (Int32.ofNat i))] [(.int (Int32.ofNat i)), (.ref ar)])) (fun _ k_ => XS.iloadN X2.here hx rfl (Jvm.hb hby d3_15) rfl k_) ?_
      refine own_go (t' := T2.setTop (mkF m 17 #[.val (.int (Int32.ofNat kk)), .val (.ref ar), .val (.int (Int32.ofNat (own_cnt (own_bit pat) i))), .val (.int (Int32.ofNat i))] [(own_bv pat i)])) (own_ldZ X2 hx hZ e2 A (by omega) hlt (hf i hlt) (g := (mkF m 16 #[.val (.int (Int32.ofNat kk)), .val (.ref ar), .val (.int (Int32.ofNat (own_cnt (own_bit pat) i))), .val (.int (Int32.ofNat i))] [(.int (Int32.ofNat i)), (.ref ar)])) rfl rfl (Jvm.hb hby d3_16)) ?_
      by_cases hb : own_bit pat i = true
      ·
        rw [show own_bv pat i = .int 1 by (unfold own_bv; rw [if_pos hb])]
        refine own_go (t' := T2.setTop (mkF m 20 #[.val (.int (Int32.ofNat kk)), .val (.ref ar), .val (.int (Int32.ofNat (own_cnt (own_bit pat) i))), .val (.int (Int32.ofNat i))] [])) (fun _ k_ => XS.ifNo X2.here hx rfl (Jvm.hb hby d3_17) rfl ((if0 _ _).trans (feq (by decide)).1) k_) ?_
        refine own_go (t' := T2.setTop (mkF m 23 #[.val (.int (Int32.ofNat kk)), .val (.ref ar), .val (.int ((Int32.ofNat (own_cnt (own_bit pat) i)) + (1 : Int32))), .val (.int (Int32.ofNat i))] [])) (fun _ k_ => XS.iinc X2.here hx rfl (Jvm.hb hby d3_20) rfl (l' := #[.val (.int (Int32.ofNat kk)), .val (.ref ar), .val (.int ((Int32.ofNat (own_cnt (own_bit pat) i)) + (1 : Int32))), .val (.int (Int32.ofNat i))]) rfl k_) ?_
        refine own_go (t' := T2.setTop (mkF m 26 #[.val (.int (Int32.ofNat kk)), .val (.ref ar), .val (.int ((Int32.ofNat (own_cnt (own_bit pat) i)) + (1 : Int32))), .val (.int ((Int32.ofNat i) + (1 : Int32)))] [])) (fun _ k_ => XS.iinc X2.here hx rfl (Jvm.hb hby d3_23) rfl (l' := #[.val (.int (Int32.ofNat kk)), .val (.ref ar), .val (.int ((Int32.ofNat (own_cnt (own_bit pat) i)) + (1 : Int32))), .val (.int ((Int32.ofNat i) + (1 : Int32)))]) rfl k_) ?_
        refine own_go (t' := T2.setTop (mkF m 4 #[.val (.int (Int32.ofNat kk)), .val (.ref ar), .val (.int ((Int32.ofNat (own_cnt (own_bit pat) i)) + (1 : Int32))), .val (.int ((Int32.ofNat i) + (1 : Int32)))] [])) (fun _ k_ => XS.goto X2.here hx rfl (pc0 := 26) (pc' := 4) rfl (Jvm.hb hby d3_26) (by decide) (by decide) k_) ?_
        rw [own_succ, own_succ]
        have hcn : own_cnt (own_bit pat) (i + 1) = own_cnt (own_bit pat) i + 1 := by show own_cnt (own_bit pat) i + _ = _; rw [if_pos hb]
        rw [← hcn]
        exact ih (i + 1) (by omega) _ _ X2 e2 N2
      ·
        rw [show own_bv pat i = .int 0 by (unfold own_bv; rw [if_neg hb])]
        refine own_go (t' := T2.setTop (mkF m 23 #[.val (.int (Int32.ofNat kk)), .val (.ref ar), .val (.int (Int32.ofNat (own_cnt (own_bit pat) i))), .val (.int (Int32.ofNat i))] [])) (fun _ k_ => XS.ifYes X2.here hx rfl (pc0 := 17) (pc' := 23) rfl (Jvm.hb hby d3_17) rfl ((if0 _ _).trans (teq rfl).1) (by decide) (by decide) k_) ?_
        refine own_go (t' := T2.setTop (mkF m 26 #[.val (.int (Int32.ofNat kk)), .val (.ref ar), .val (.int (Int32.ofNat (own_cnt (own_bit pat) i))), .val (.int ((Int32.ofNat i) + (1 : Int32)))] [])) (fun _ k_ => XS.iinc X2.here hx rfl (Jvm.hb hby d3_23) rfl (l' := #[.val (.int (Int32.ofNat kk)), .val (.ref ar), .val (.int (Int32.ofNat (own_cnt (own_bit pat) i))), .val (.int ((Int32.ofNat i) + (1 : Int32)))]) rfl k_) ?_
        refine own_go (t' := T2.setTop (mkF m 4 #[.val (.int (Int32.ofNat kk)), .val (.ref ar), .val (.int (Int32.ofNat (own_cnt (own_bit pat) i))), .val (.int ((Int32.ofNat i) + (1 : Int32)))] [])) (fun _ k_ => XS.goto X2.here hx rfl (pc0 := 26) (pc' := 4) rfl (Jvm.hb hby d3_26) (by decide) (by decide) k_) ?_
        rw [own_succ]
        have hcn : own_cnt (own_bit pat) (i + 1) = own_cnt (own_bit pat) i := by show own_cnt (own_bit pat) i + _ = _; rw [if_neg hb]; rfl
        rw [← hcn]
        exact ih (i + 1) (by omega) _ _ X2 e2 N2
  exact loop (min kk nn) 0 (by omega) s₁ [] X0 e0 N0
theorem ef_rm_avg (m : MethodId) (x0 : Addr) (x1 : Int32) : entryFrame m #[(.ref x0), (.int x1)] 6 = mkF m 0 #[.val (.ref x0), .val (.int x1), .unset, .unset, .unset, .unset] [] := by first | (simp [entryFrame, mkF, argsToLocals, Value.category]; done) | rfl
set_option maxRecDepth 65536 in
set_option maxHeartbeats 40000000 in
theorem rm_avg (l : Launch) (Z : State) (a0 : Array Value) (hw : ∀ d ∈ tables_1, d.before a0 Z = true) (ws : List Jvm.Cond) (nn : Nat) (ar : Addr) (rj : Int32) (pat : Int64) (f : Nat → Value) (h0 : Heap) (n0 : Nat) (Z0 : n0 ≤ h0.size) (A : own_Ar Z h0 ar .boolean nn f) (hn : nn ≤ 33) (hf : ∀ j, j < nn → f j = own_bv pat j) :
    own_Ctr l Z (⟨"com/example/kobe/kobe/eval/Measure", "averagePrecision", "([ZI)D"⟩ : MethodName) prog_11_method_6_code 6 (some .double) ws ({ frames := 0, cells := 0, slots := 0, locals := 0 } : Room) #[(.ref ar), (.int rj)] h0 (fun v h L => v = some (.double (if rj = 0 then (0 : UInt64) else FP.ddiv (own_ap (own_bit pat) nn).1 (FP.i2d rj))) ∧ Fr n0 L ∧ h = h0) := by
  refine own_enter (plainFor_of_name pn_d7) ?_
  intro p e s m below meth c s₁ Bd hZ hml X0 e0
  have hx := Bd.exec
  have hby := Bd.bytes
  have hown : s.vm.findClass "com/example/kobe/kobe/eval/Measure" = some m.cls := findClass_of_methodNamed Bd.named
  have hnm := (name_of_methodNamed Bd.named Bd.method).1
  have N0 := Fr.nil n0
  refine own_go (t' := s₁.setTop (mkF m 0 #[.val (.ref ar), .val (.int rj), .unset, .unset, .unset, .unset] [])) (fun _ k_ => castTop (ef_rm_avg m ar rj) k_) ?_
  refine own_go (t' := s₁.setTop (mkF m 1 #[.val (.ref ar), .val (.int rj), .unset, .unset, .unset, .unset] [(.int rj)])) (fun _ k_ => XS.iloadN X0.here hx rfl (Jvm.hb hby d7_0) rfl k_) ?_
  by_cases hz : rj = 0
  ·
    refine own_go (t' := s₁.setTop (mkF m 4 #[.val (.ref ar), .val (.int rj), .unset, .unset, .unset, .unset] [])) (fun _ k_ => XS.ifNo X0.here hx rfl (Jvm.hb hby d7_1) rfl ((if0 _ _).trans (teq hz).2) k_) ?_
    refine own_go (t' := s₁.setTop (mkF m 5 #[.val (.ref ar), .val (.int rj), .unset, .unset, .unset, .unset] [(.double (0 : UInt64))])) (fun _ k_ => XS.dconst0 X0.here hx rfl (Jvm.hb hby d7_4) rfl k_) ?_
    exact own_retD X0 hx Bd.returns (BodyLoose.notSynchronized Bd) (Jvm.hb hby d7_5) (by decide) (by decide) ⟨by rw [if_pos hz], N0, e0⟩
  ·
    refine own_go (t' := s₁.setTop (mkF m 6 #[.val (.ref ar), .val (.int rj), .unset, .unset, .unset, .unset] [])) (fun _ k_ => XS.ifYes X0.here hx rfl (pc0 := 1) (pc' := 6) rfl (Jvm.hb hby d7_1) rfl ((if0 _ _).trans (feq hz).2) (by decide) (by decide) k_) ?_
    refine own_go (t' := s₁.setTop (mkF m 7 #[.val (.ref ar), .val (.int rj), .unset, .unset, .unset, .unset] [(.double (0 : UInt64))])) (fun _ k_ => XS.dconst0 X0.here hx rfl (Jvm.hb hby d7_6) rfl k_) ?_
    refine own_go (t' := s₁.setTop (mkF m 8 #[.val (.ref ar), .val (.int rj), .val (.double (0 : UInt64)), .second, .unset, .unset] [])) (fun _ k_ => XS.dstoreN X0.here hx rfl (Jvm.hb hby d7_7) rfl (l' := #[.val (.ref ar), .val (.int rj), .val (.double (0 : UInt64)), .second, .unset, .unset]) rfl k_) ?_
    refine own_go (t' := s₁.setTop (mkF m 9 #[.val (.ref ar), .val (.int rj), .val (.double (0 : UInt64)), .second, .unset, .unset] [(.int (0 : Int32))])) (fun _ k_ => XS.iconst X0.here hx rfl (Jvm.hb hby d7_8) k_) ?_
    refine own_go (t' := s₁.setTop (mkF m 11 #[.val (.ref ar), .val (.int rj), .val (.double (0 : UInt64)), .second, .val (.int (0 : Int32)), .unset] [])) (fun _ k_ => XS.istore X0.here hx rfl (Jvm.hb hby d7_9) rfl (l' := #[.val (.ref ar), .val (.int rj), .val (.double (0 : UInt64)), .second, .val (.int (0 : Int32)), .unset]) rfl k_) ?_
    refine own_go (t' := s₁.setTop (mkF m 12 #[.val (.ref ar), .val (.int rj), .val (.double (0 : UInt64)), .second, .val (.int (0 : Int32)), .unset] [(.int (0 : Int32))])) (fun _ k_ => XS.iconst X0.here hx rfl (Jvm.hb hby d7_11) k_) ?_
    refine own_go (t' := s₁.setTop (mkF m 14 #[.val (.ref ar), .val (.int rj), .val (.double (0 : UInt64)), .second, .val (.int (0 : Int32)), .val (.int (0 : Int32))] [])) (fun _ k_ => XS.istore X0.here hx rfl (Jvm.hb hby d7_12) rfl (l' := #[.val (.ref ar), .val (.int rj), .val (.double (0 : UInt64)), .second, .val (.int (0 : Int32)), .val (.int (0 : Int32))]) rfl k_) ?_
    have loop : ∀ d i : Nat, i + d = nn → own_Ends p.tables e below (own_F s (fun v h L => v = some (.double (if rj = 0 then (0 : UInt64) else FP.ddiv (own_ap (own_bit pat) nn).1 (FP.i2d rj))) ∧ Fr n0 L ∧ h = h0) ({ frames := 0, cells := 0, slots := 0, locals := 0 } : Room).cells ({ frames := 0, cells := 0, slots := 0, locals := 0 } : Room).slots) (s₁.setTop (mkF m 14 #[.val (.ref ar), .val (.int rj), .val (.double (own_ap (own_bit pat) i).1), .second, .val (.int (Int32.ofNat (own_ap (own_bit pat) i).2)), .val (.int (Int32.ofNat i))] [])) := by
      intro d
      induction d with
      | zero =>
        intro i hid
        refine own_go (t' := s₁.setTop (mkF m 16 #[.val (.ref ar), .val (.int rj), .val (.double (own_ap (own_bit pat) i).1), .second, .val (.int (Int32.ofNat (own_ap (own_bit pat) i).2)), .val (.int (Int32.ofNat i))] [(.int (Int32.ofNat i))])) (fun _ k_ => XS.iload X0.here hx rfl (Jvm.hb hby d7_14) rfl k_) ?_
        refine own_go (t' := s₁.setTop (mkF m 17 #[.val (.ref ar), .val (.int rj), .val (.double (own_ap (own_bit pat) i).1), .second, .val (.int (Int32.ofNat (own_ap (own_bit pat) i).2)), .val (.int (Int32.ofNat i))] [(.ref ar), (.int (Int32.ofNat i))])) (fun _ k_ => XS.aloadN X0.here hx rfl (Jvm.hb hby d7_16) rfl rfl k_) ?_
        refine own_go (t' := s₁.setTop (mkF m 18 #[.val (.ref ar), .val (.int rj), .val (.double (own_ap (own_bit pat) i).1), .second, .val (.int (Int32.ofNat (own_ap (own_bit pat) i).2)), .val (.int (Int32.ofNat i))] [(.int (Int32.ofNat nn)), (.int (Int32.ofNat i))])) (own_alen X0 hx hZ e0 A (g := (mkF m 17 #[.val (.ref ar), .val (.int rj), .val (.double (own_ap (own_bit pat) i).1), .second, .val (.int (Int32.ofNat (own_ap (own_bit pat) i).2)), .val (.int (Int32.ofNat i))] [(.ref ar), (.int (Int32.ofNat i))])) rfl rfl (Jvm.hb hby d7_17)) ?_
        have hie : i = nn := by omega
        subst hie
        refine own_go (t' := s₁.setTop (mkF m 49 #[.val (.ref ar), .val (.int rj), .val (.double (own_ap (own_bit pat) i).1), .second, .val (.int (Int32.ofNat (own_ap (own_bit pat) i).2)), .val (.int (Int32.ofNat i))] [])) (fun _ k_ => XS.icmpYes X0.here hx rfl (pc0 := 18) (pc' := 49) rfl (Jvm.hb hby d7_18) rfl (flt Int32.lt_irrefl).2.1 (by decide) (by decide) k_) ?_
        refine own_go (t' := s₁.setTop (mkF m 50 #[.val (.ref ar), .val (.int rj), .val (.double (own_ap (own_bit pat) i).1), .second, .val (.int (Int32.ofNat (own_ap (own_bit pat) i).2)), .val (.int (Int32.ofNat i))] [(.double (own_ap (own_bit pat) i).1)])) (fun _ k_ => XS.dloadN X0.here hx rfl (Jvm.hb hby d7_49) rfl k_) ?_
        refine own_go (t' := s₁.setTop (mkF m 51 #[.val (.ref ar), .val (.int rj), .val (.double (own_ap (own_bit pat) i).1), .second, .val (.int (Int32.ofNat (own_ap (own_bit pat) i).2)), .val (.int (Int32.ofNat i))] [(.int rj), (.double (own_ap (own_bit pat) i).1)])) (fun _ k_ => XS.iloadN X0.here hx rfl (Jvm.hb hby d7_50) rfl k_) ?_
        refine own_go (t' := s₁.setTop (mkF m 52 #[.val (.ref ar), .val (.int rj), .val (.double (own_ap (own_bit pat) i).1), .second, .val (.int (Int32.ofNat (own_ap (own_bit pat) i).2)), .val (.int (Int32.ofNat i))] [(.double (FP.i2d rj)), (.double (own_ap (own_bit pat) i).1)])) (fun _ k_ => XS.i2dS X0.here hx rfl (Jvm.hb hby d7_51) rfl rfl k_) ?_
        refine own_go (t' := s₁.setTop (mkF m 53 #[.val (.ref ar), .val (.int rj), .val (.double (own_ap (own_bit pat) i).1), .second, .val (.int (Int32.ofNat (own_ap (own_bit pat) i).2)), .val (.int (Int32.ofNat i))] [(.double (FP.ddiv (own_ap (own_bit pat) i).1 (FP.i2d rj)))])) (fun _ k_ => XS.ddivS X0.here hx rfl (Jvm.hb hby d7_52) rfl (OwnFp.div_any (own_ap_fin _ _ (by omega)) hz) rfl k_) ?_
        exact own_retD X0 hx Bd.returns (BodyLoose.notSynchronized Bd) (Jvm.hb hby d7_53) (by decide) (by decide) ⟨by rw [if_neg hz], N0, e0⟩
      | succ d ih =>
        intro i hid
        refine own_go (t' := s₁.setTop (mkF m 16 #[.val (.ref ar), .val (.int rj), .val (.double (own_ap (own_bit pat) i).1), .second, .val (.int (Int32.ofNat (own_ap (own_bit pat) i).2)), .val (.int (Int32.ofNat i))] [(.int (Int32.ofNat i))])) (fun _ k_ => XS.iload X0.here hx rfl (Jvm.hb hby d7_14) rfl k_) ?_
        refine own_go (t' := s₁.setTop (mkF m 17 #[.val (.ref ar), .val (.int rj), .val (.double (own_ap (own_bit pat) i).1), .second, .val (.int (Int32.ofNat (own_ap (own_bit pat) i).2)), .val (.int (Int32.ofNat i))] [(.ref ar), (.int (Int32.ofNat i))])) (fun _ k_ => XS.aloadN X0.here hx rfl (Jvm.hb hby d7_16) rfl rfl k_) ?_
        refine own_go (t' := s₁.setTop (mkF m 18 #[.val (.ref ar), .val (.int rj), .val (.double (own_ap (own_bit pat) i).1), .second, .val (.int (Int32.ofNat (own_ap (own_bit pat) i).2)), .val (.int (Int32.ofNat i))] [(.int (Int32.ofNat nn)), (.int (Int32.ofNat i))])) (own_alen X0 hx hZ e0 A (g := (mkF m 17 #[.val (.ref ar), .val (.int rj), .val (.double (own_ap (own_bit pat) i).1), .second, .val (.int (Int32.ofNat (own_ap (own_bit pat) i).2)), .val (.int (Int32.ofNat i))] [(.ref ar), (.int (Int32.ofNat i))])) rfl rfl (Jvm.hb hby d7_17)) ?_
        have hlt : i < nn := by omega
        refine own_go (t' := s₁.setTop (mkF m 21 #[.val (.ref ar), .val (.int rj), .val (.double (own_ap (own_bit pat) i).1), .second, .val (.int (Int32.ofNat (own_ap (own_bit pat) i).2)), .val (.int (Int32.ofNat i))] [])) (fun _ k_ => XS.icmpNo X0.here hx rfl (Jvm.hb hby d7_18) rfl (tlt ((own_ilt (by omega) (by omega)).mpr hlt)).2.1 k_) ?_
        refine own_go (t' := s₁.setTop (mkF m 22 #[.val (.ref ar), .val (.int rj), .val (.double (own_ap (own_bit pat) i).1), .second, .val (.int (Int32.ofNat (own_ap (own_bit pat) i).2)), .val (.int (Int32.ofNat i))] [(.ref ar)])) (fun _ k_ => XS.aloadN X0.here hx rfl (Jvm.hb hby d7_21) rfl rfl k_) ?_
        refine own_go (t' := s₁.setTop (mkF m 24 #[.val (.ref ar), .val (.int rj), .val (.double (own_ap (own_bit pat) i).1), .second, .val (.int (Int32.ofNat (own_ap (own_bit pat) i).2)), .val (.int (Int32.ofNat i))] [(.int (Int32.ofNat i)), (.ref ar)])) (fun _ k_ => XS.iload X0.here hx rfl (Jvm.hb hby d7_22) rfl k_) ?_
        refine own_go (t' := s₁.setTop (mkF m 25 #[.val (.ref ar), .val (.int rj), .val (.double (own_ap (own_bit pat) i).1), .second, .val (.int (Int32.ofNat (own_ap (own_bit pat) i).2)), .val (.int (Int32.ofNat i))] [(own_bv pat i)])) (own_ldZ X0 hx hZ e0 A (by omega) hlt (hf i hlt) (g := (mkF m 24 #[.val (.ref ar), .val (.int rj), .val (.double (own_ap (own_bit pat) i).1), .second, .val (.int (Int32.ofNat (own_ap (own_bit pat) i).2)), .val (.int (Int32.ofNat i))] [(.int (Int32.ofNat i)), (.ref ar)])) rfl rfl (Jvm.hb hby d7_24)) ?_
        by_cases hb : own_bit pat i = true
        ·
          rw [show own_bv pat i = .int 1 by (unfold own_bv; rw [if_pos hb])]
          refine own_go (t' := s₁.setTop (mkF m 28 #[.val (.ref ar), .val (.int rj), .val (.double (own_ap (own_bit pat) i).1), .second, .val (.int (Int32.ofNat (own_ap (own_bit pat) i).2)), .val (.int (Int32.ofNat i))] [])) (fun _ k_ => XS.ifNo X0.here hx rfl (Jvm.hb hby d7_25) rfl ((if0 _ _).trans (feq (by decide)).1) k_) ?_
          refine own_go (t' := s₁.setTop (mkF m 31 #[.val (.ref ar), .val (.int rj), .val (.double (own_ap (own_bit pat) i).1), .second, .val (.int ((Int32.ofNat (own_ap (own_bit pat) i).2) + (1 : Int32))), .val (.int (Int32.ofNat i))] [])) (fun _ k_ => XS.iinc X0.here hx rfl (Jvm.hb hby d7_28) rfl (l' := #[.val (.ref ar), .val (.int rj), .val (.double (own_ap (own_bit pat) i).1), .second, .val (.int ((Int32.ofNat (own_ap (own_bit pat) i).2) + (1 : Int32))), .val (.int (Int32.ofNat i))]) rfl k_) ?_
          rw [own_succ]
          refine own_go (t' := s₁.setTop (mkF m 32 #[.val (.ref ar), .val (.int rj), .val (.double (own_ap (own_bit pat) i).1), .second, .val (.int (Int32.ofNat ((own_ap (own_bit pat) i).2 + 1))), .val (.int (Int32.ofNat i))] [(.double (own_ap (own_bit pat) i).1)])) (fun _ k_ => XS.dloadN X0.here hx rfl (Jvm.hb hby d7_31) rfl k_) ?_
          refine own_go (t' := s₁.setTop (mkF m 34 #[.val (.ref ar), .val (.int rj), .val (.double (own_ap (own_bit pat) i).1), .second, .val (.int (Int32.ofNat ((own_ap (own_bit pat) i).2 + 1))), .val (.int (Int32.ofNat i))] [(.int (Int32.ofNat ((own_ap (own_bit pat) i).2 + 1))), (.double (own_ap (own_bit pat) i).1)])) (fun _ k_ => XS.iload X0.here hx rfl (Jvm.hb hby d7_32) rfl k_) ?_
          refine own_go (t' := s₁.setTop (mkF m 35 #[.val (.ref ar), .val (.int rj), .val (.double (own_ap (own_bit pat) i).1), .second, .val (.int (Int32.ofNat ((own_ap (own_bit pat) i).2 + 1))), .val (.int (Int32.ofNat i))] [(.double (FP.i2d (Int32.ofNat ((own_ap (own_bit pat) i).2 + 1)))), (.double (own_ap (own_bit pat) i).1)])) (fun _ k_ => XS.i2dS X0.here hx rfl (Jvm.hb hby d7_34) rfl rfl k_) ?_
          refine own_go (t' := s₁.setTop (mkF m 37 #[.val (.ref ar), .val (.int rj), .val (.double (own_ap (own_bit pat) i).1), .second, .val (.int (Int32.ofNat ((own_ap (own_bit pat) i).2 + 1))), .val (.int (Int32.ofNat i))] [(.int (Int32.ofNat i)), (.double (FP.i2d (Int32.ofNat ((own_ap (own_bit pat) i).2 + 1)))), (.double (own_ap (own_bit pat) i).1)])) (fun _ k_ => XS.iload X0.here hx rfl (Jvm.hb hby d7_35) rfl k_) ?_
          refine own_go (t' := s₁.setTop (mkF m 38 #[.val (.ref ar), .val (.int rj), .val (.double (own_ap (own_bit pat) i).1), .second, .val (.int (Int32.ofNat ((own_ap (own_bit pat) i).2 + 1))), .val (.int (Int32.ofNat i))] [(.int (1 : Int32)), (.int (Int32.ofNat i)), (.double (FP.i2d (Int32.ofNat ((own_ap (own_bit pat) i).2 + 1)))), (.double (own_ap (own_bit pat) i).1)])) (fun _ k_ => XS.iconst X0.here hx rfl (Jvm.hb hby d7_37) k_) ?_
          refine own_go (t' := s₁.setTop (mkF m 39 #[.val (.ref ar), .val (.int rj), .val (.double (own_ap (own_bit pat) i).1), .second, .val (.int (Int32.ofNat ((own_ap (own_bit pat) i).2 + 1))), .val (.int (Int32.ofNat i))] [(.int ((Int32.ofNat i) + (1 : Int32))), (.double (FP.i2d (Int32.ofNat ((own_ap (own_bit pat) i).2 + 1)))), (.double (own_ap (own_bit pat) i).1)])) (fun _ k_ => XS.iadd X0.here hx rfl (Jvm.hb hby d7_38) rfl k_) ?_
          rw [own_succ]
          refine own_go (t' := s₁.setTop (mkF m 40 #[.val (.ref ar), .val (.int rj), .val (.double (own_ap (own_bit pat) i).1), .second, .val (.int (Int32.ofNat ((own_ap (own_bit pat) i).2 + 1))), .val (.int (Int32.ofNat i))] [(.double (FP.i2d (Int32.ofNat (i + 1)))), (.double (FP.i2d (Int32.ofNat ((own_ap (own_bit pat) i).2 + 1)))), (.double (own_ap (own_bit pat) i).1)])) (fun _ k_ => XS.i2dS X0.here hx rfl (Jvm.hb hby d7_39) rfl rfl k_) ?_
          have hq := own_ap_quo (own_bit pat) (j := i) (by omega)
          refine own_go (t' := s₁.setTop (mkF m 41 #[.val (.ref ar), .val (.int rj), .val (.double (own_ap (own_bit pat) i).1), .second, .val (.int (Int32.ofNat ((own_ap (own_bit pat) i).2 + 1))), .val (.int (Int32.ofNat i))] [(.double (FP.ddiv (FP.i2d (Int32.ofNat ((own_ap (own_bit pat) i).2 + 1))) (FP.i2d (Int32.ofNat (i + 1))))), (.double (own_ap (own_bit pat) i).1)])) (fun _ k_ => XS.ddivS X0.here hx rfl (Jvm.hb hby d7_40) rfl (OwnFp.no_nan (OwnFp.fin_nan hq)) rfl k_) ?_
          refine own_go (t' := s₁.setTop (mkF m 42 #[.val (.ref ar), .val (.int rj), .val (.double (own_ap (own_bit pat) i).1), .second, .val (.int (Int32.ofNat ((own_ap (own_bit pat) i).2 + 1))), .val (.int (Int32.ofNat i))] [(.double (FP.dadd (own_ap (own_bit pat) i).1 (FP.ddiv (FP.i2d (Int32.ofNat ((own_ap (own_bit pat) i).2 + 1))) (FP.i2d (Int32.ofNat (i + 1))))))])) (fun _ k_ => XS.daddS X0.here hx rfl (Jvm.hb hby d7_41) rfl (OwnFp.no_nan (OwnFp.add_nan' (own_ap_fin _ _ (by omega)) hq)) rfl k_) ?_
          refine own_go (t' := s₁.setTop (mkF m 43 #[.val (.ref ar), .val (.int rj), .val (.double (FP.dadd (own_ap (own_bit pat) i).1 (FP.ddiv (FP.i2d (Int32.ofNat ((own_ap (own_bit pat) i).2 + 1))) (FP.i2d (Int32.ofNat (i + 1)))))), .second, .val (.int (Int32.ofNat ((own_ap (own_bit pat) i).2 + 1))), .val (.int (Int32.ofNat i))] [])) (fun _ k_ => XS.dstoreN X0.here hx rfl (Jvm.hb hby d7_42) rfl (l' := #[.val (.ref ar), .val (.int rj), .val (.double (FP.dadd (own_ap (own_bit pat) i).1 (FP.ddiv (FP.i2d (Int32.ofNat ((own_ap (own_bit pat) i).2 + 1))) (FP.i2d (Int32.ofNat (i + 1)))))), .second, .val (.int (Int32.ofNat ((own_ap (own_bit pat) i).2 + 1))), .val (.int (Int32.ofNat i))]) rfl k_) ?_
          refine own_go (t' := s₁.setTop (mkF m 46 #[.val (.ref ar), .val (.int rj), .val (.double (FP.dadd (own_ap (own_bit pat) i).1 (FP.ddiv (FP.i2d (Int32.ofNat ((own_ap (own_bit pat) i).2 + 1))) (FP.i2d (Int32.ofNat (i + 1)))))), .second, .val (.int (Int32.ofNat ((own_ap (own_bit pat) i).2 + 1))), .val (.int ((Int32.ofNat i) + (1 : Int32)))] [])) (fun _ k_ => XS.iinc X0.here hx rfl (Jvm.hb hby d7_43) rfl (l' := #[.val (.ref ar), .val (.int rj), .val (.double (FP.dadd (own_ap (own_bit pat) i).1 (FP.ddiv (FP.i2d (Int32.ofNat ((own_ap (own_bit pat) i).2 + 1))) (FP.i2d (Int32.ofNat (i + 1)))))), .second, .val (.int (Int32.ofNat ((own_ap (own_bit pat) i).2 + 1))), .val (.int ((Int32.ofNat i) + (1 : Int32)))]) rfl k_) ?_
          refine own_go (t' := s₁.setTop (mkF m 14 #[.val (.ref ar), .val (.int rj), .val (.double (FP.dadd (own_ap (own_bit pat) i).1 (FP.ddiv (FP.i2d (Int32.ofNat ((own_ap (own_bit pat) i).2 + 1))) (FP.i2d (Int32.ofNat (i + 1)))))), .second, .val (.int (Int32.ofNat ((own_ap (own_bit pat) i).2 + 1))), .val (.int ((Int32.ofNat i) + (1 : Int32)))] [])) (fun _ k_ => XS.goto X0.here hx rfl (pc0 := 46) (pc' := 14) rfl (Jvm.hb hby d7_46) (by decide) (by decide) k_) ?_
          rw [own_succ]
          have hap : own_ap (own_bit pat) (i + 1) = (FP.dadd (own_ap (own_bit pat) i).1 (FP.ddiv (FP.i2d (Int32.ofNat ((own_ap (own_bit pat) i).2 + 1))) (FP.i2d (Int32.ofNat (i + 1)))), (own_ap (own_bit pat) i).2 + 1) := by show (if own_bit pat i = true then _ else _) = _; rw [if_pos hb]
          have := ih (i + 1) (by omega)
          rw [hap] at this
          exact this
        ·
          rw [show own_bv pat i = .int 0 by (unfold own_bv; rw [if_neg hb])]
          refine own_go (t' := s₁.setTop (mkF m 43 #[.val (.ref ar), .val (.int rj), .val (.double (own_ap (own_bit pat) i).1), .second, .val (.int (Int32.ofNat (own_ap (own_bit pat) i).2)), .val (.int (Int32.ofNat i))] [])) (fun _ k_ => XS.ifYes X0.here hx rfl (pc0 := 25) (pc' := 43) rfl (Jvm.hb hby d7_25) rfl ((if0 _ _).trans (teq rfl).1) (by decide) (by decide) k_) ?_
          refine own_go (t' := s₁.setTop (mkF m 46 #[.val (.ref ar), .val (.int rj), .val (.double (own_ap (own_bit pat) i).1), .second, .val (.int (Int32.ofNat (own_ap (own_bit pat) i).2)), .val (.int ((Int32.ofNat i) + (1 : Int32)))] [])) (fun _ k_ => XS.iinc X0.here hx rfl (Jvm.hb hby d7_43) rfl (l' := #[.val (.ref ar), .val (.int rj), .val (.double (own_ap (own_bit pat) i).1), .second, .val (.int (Int32.ofNat (own_ap (own_bit pat) i).2)), .val (.int ((Int32.ofNat i) + (1 : Int32)))]) rfl k_) ?_
          refine own_go (t' := s₁.setTop (mkF m 14 #[.val (.ref ar), .val (.int rj), .val (.double (own_ap (own_bit pat) i).1), .second, .val (.int (Int32.ofNat (own_ap (own_bit pat) i).2)), .val (.int ((Int32.ofNat i) + (1 : Int32)))] [])) (fun _ k_ => XS.goto X0.here hx rfl (pc0 := 46) (pc' := 14) rfl (Jvm.hb hby d7_46) (by decide) (by decide) k_) ?_
          rw [own_succ]
          have hap : own_ap (own_bit pat) (i + 1) = (own_ap (own_bit pat) i) := by show (if own_bit pat i = true then _ else _) = _; rw [if_neg hb]
          have := ih (i + 1) (by omega)
          rw [hap] at this
          exact this
    exact loop nn 0 (by omega)
theorem ef_rm_scP (m : MethodId) (x0 : Addr) (x1 : Addr) (x2 : Int32) : entryFrame m #[(.ref x0), (.ref x1), (.int x2)] 3 = mkF m 0 #[.val (.ref x0), .val (.ref x1), .val (.int x2)] [] := by first | (simp [entryFrame, mkF, argsToLocals, Value.category]; done) | rfl
set_option maxRecDepth 65536 in
set_option maxHeartbeats 40000000 in
theorem rm_scP (l : Launch) (Z : State) (a0 : Array Value) (hw : ∀ d ∈ tables_1, d.before a0 Z = true) (ws : List Jvm.Cond) (a1 ar aM : Addr) (kk nn : Nat) (rj : Int32) (pat : Int64) (f : Nat → Value) (h0 : Heap) (n0 : Nat) (Z0 : n0 ≤ h0.size) (A : own_Ar Z h0 ar .boolean nn f) (hn : nn ≤ 33) (hf : ∀ j, j < nn → f j = own_bv pat j) (hk : 1 ≤ kk) (hk2 : kk ≤ 1000) (S0 : Sta Z h0 "com/example/kobe/kobe/eval/Measure" "MAP" "Lcom/example/kobe/kobe/eval/Measure;" (.ref aM)) (F0 : Fld Z h0 a1 "com/example/kobe/kobe/eval/Measure" "cutoff" "I" (.int (Int32.ofNat kk))) (hne : a1 ≠ aM) :
    own_Ctr l Z (⟨"com/example/kobe/kobe/eval/Measure", "score", "([ZI)D"⟩ : MethodName) prog_11_method_5_code 3 (some .double) ws ({ frames := 2, cells := 0, slots := 0, locals := 29 } : Room) #[(.ref a1), (.ref ar), (.int rj)] h0 (fun v h L => v = some (.double (FP.ddiv (FP.i2d (Int32.ofNat (own_cnt (own_bit pat) (min kk nn)))) (FP.i2d (Int32.ofNat kk)))) ∧ Fr n0 L ∧ h = h0) := by
  refine own_enter (plainFor_of_name pn_d2) ?_
  intro p e s m below meth c s₁ Bd hZ hml X0 e0
  have hx := Bd.exec
  have hby := Bd.bytes
  have hown : s.vm.findClass "com/example/kobe/kobe/eval/Measure" = some m.cls := findClass_of_methodNamed Bd.named
  have hnm := (name_of_methodNamed Bd.named Bd.method).1
  have N0 := Fr.nil n0
  refine own_go (t' := s₁.setTop (mkF m 0 #[.val (.ref a1), .val (.ref ar), .val (.int rj)] [])) (fun _ k_ => castTop (ef_rm_scP m a1 ar rj) k_) ?_
  refine own_go (t' := s₁.setTop (mkF m 1 #[.val (.ref a1), .val (.ref ar), .val (.int rj)] [(.ref a1)])) (fun _ k_ => XS.aloadN X0.here hx rfl (Jvm.hb hby d2_0) rfl rfl k_) ?_
  obtain ⟨T1, X1, e1, st1⟩ := getS (host := "") X0 hx hZ hown (hw _ (List.mem_of_getElem? (i := 14) rfl)) Via.refl e0 S0 (g := (mkF m 1 #[.val (.ref a1), .val (.ref ar), .val (.int rj)] [(.ref a1)])) rfl (Jvm.hb hby d2_1)
  refine own_go (t' := T1.setTop (mkF m 4 #[.val (.ref a1), .val (.ref ar), .val (.int rj)] [(.ref aM), (.ref a1)])) st1 ?_
  refine own_go (t' := T1.setTop (mkF m 15 #[.val (.ref a1), .val (.ref ar), .val (.int rj)] [])) (fun _ k_ => Jvm.RoadKit.acmp (g := (mkF m 4 #[.val (.ref a1), .val (.ref ar), .val (.int rj)] [(.ref aM), (.ref a1)])) X1 hx rfl rfl rfl (pc0 := 4) (pc' := 15) (same := false) rfl (Jvm.hb hby d2_4) rfl (decide_eq_false fun q => hne (Value.ref.inj q)) (by decide) (by decide) k_) ?_
  refine own_go (t' := T1.setTop (mkF m 16 #[.val (.ref a1), .val (.ref ar), .val (.int rj)] [(.ref a1)])) (fun _ k_ => XS.aloadN X1.here hx rfl (Jvm.hb hby d2_15) rfl rfl k_) ?_
  obtain ⟨T2, X2, e2, st2⟩ := getF X1 hx hZ hown (host := "") (Or.inl (hw _ (List.mem_of_getElem? (i := 16) rfl))) Via.refl e1 F0 (g := (mkF m 16 #[.val (.ref a1), .val (.ref ar), .val (.int rj)] [(.ref a1)])) rfl rfl (Jvm.hb hby d2_16)
  refine own_go (t' := T2.setTop (mkF m 19 #[.val (.ref a1), .val (.ref ar), .val (.int rj)] [(.int (Int32.ofNat kk))])) st2 ?_
  refine own_go (t' := T2.setTop (mkF m 20 #[.val (.ref a1), .val (.ref ar), .val (.int rj)] [(.ref ar), (.int (Int32.ofNat kk))])) (fun _ k_ => XS.aloadN X2.here hx rfl (Jvm.hb hby d2_19) rfl rfl k_) ?_
  obtain ⟨T3, L3, v3, X3, hQ3, st3⟩ := own_static X2 hx hZ hown (hw _ (List.mem_of_getElem? (i := 18) rfl)) (hw _ (List.mem_of_getElem? (i := 19) rfl)) (hw _ (List.mem_of_getElem? (i := 2) rfl)) (hw _ (List.mem_of_getElem? (i := 20) rfl)) (by decide) (rm_prec l Z a0 hw [] kk nn ar pat f h0 n0 Z0 A hn hf hk hk2) e2 (g := (mkF m 20 #[.val (.ref a1), .val (.ref ar), .val (.int rj)] [(.ref ar), (.int (Int32.ofNat kk))])) rfl (by rw [hml]; rfl) (argsL := [(.int (Int32.ofNat kk)), (.ref ar)]) (rest := []) (lenOf pd_d3 rfl) rfl (W := 0) (by show 2 * 0 + _ ≤ _; exact Nat.le_of_eq rfl) (Jvm.hb hby d2_20) (by decide) (by decide) (by decide) (by decide)
  obtain ⟨rfl, Nq3, e3⟩ := hQ3
  have N3 := Fr.app N0 Nq3
  refine own_go (t' := T3.setTop (mkF m 23 #[.val (.ref a1), .val (.ref ar), .val (.int rj)] [(.double (FP.ddiv (FP.i2d (Int32.ofNat (own_cnt (own_bit pat) (min kk nn)))) (FP.i2d (Int32.ofNat kk))))])) st3 ?_
  exact own_retD X3 hx Bd.returns (BodyLoose.notSynchronized Bd) (Jvm.hb hby d2_23) (by decide) (by decide) ⟨rfl, N3, e3⟩
theorem ef_rm_scM (m : MethodId) (x0 : Addr) (x1 : Addr) (x2 : Int32) : entryFrame m #[(.ref x0), (.ref x1), (.int x2)] 3 = mkF m 0 #[.val (.ref x0), .val (.ref x1), .val (.int x2)] [] := by first | (simp [entryFrame, mkF, argsToLocals, Value.category]; done) | rfl
set_option maxRecDepth 65536 in
set_option maxHeartbeats 40000000 in
theorem rm_scM (l : Launch) (Z : State) (a0 : Array Value) (hw : ∀ d ∈ tables_1, d.before a0 Z = true) (ws : List Jvm.Cond) (ar aM : Addr) (nn : Nat) (rj : Int32) (pat : Int64) (f : Nat → Value) (h0 : Heap) (n0 : Nat) (Z0 : n0 ≤ h0.size) (A : own_Ar Z h0 ar .boolean nn f) (hn : nn ≤ 33) (hf : ∀ j, j < nn → f j = own_bv pat j) (S0 : Sta Z h0 "com/example/kobe/kobe/eval/Measure" "MAP" "Lcom/example/kobe/kobe/eval/Measure;" (.ref aM)) :
    own_Ctr l Z (⟨"com/example/kobe/kobe/eval/Measure", "score", "([ZI)D"⟩ : MethodName) prog_11_method_5_code 3 (some .double) ws ({ frames := 1, cells := 0, slots := 0, locals := 17 } : Room) #[(.ref aM), (.ref ar), (.int rj)] h0 (fun v h L => v = some (.double (if rj = 0 then (0 : UInt64) else FP.ddiv (own_ap (own_bit pat) nn).1 (FP.i2d rj))) ∧ Fr n0 L ∧ h = h0) := by
  refine own_enter (plainFor_of_name pn_d2) ?_
  intro p e s m below meth c s₁ Bd hZ hml X0 e0
  have hx := Bd.exec
  have hby := Bd.bytes
  have hown : s.vm.findClass "com/example/kobe/kobe/eval/Measure" = some m.cls := findClass_of_methodNamed Bd.named
  have hnm := (name_of_methodNamed Bd.named Bd.method).1
  have N0 := Fr.nil n0
  refine own_go (t' := s₁.setTop (mkF m 0 #[.val (.ref aM), .val (.ref ar), .val (.int rj)] [])) (fun _ k_ => castTop (ef_rm_scM m aM ar rj) k_) ?_
  refine own_go (t' := s₁.setTop (mkF m 1 #[.val (.ref aM), .val (.ref ar), .val (.int rj)] [(.ref aM)])) (fun _ k_ => XS.aloadN X0.here hx rfl (Jvm.hb hby d2_0) rfl rfl k_) ?_
  obtain ⟨T1, X1, e1, st1⟩ := getS (host := "") X0 hx hZ hown (hw _ (List.mem_of_getElem? (i := 14) rfl)) Via.refl e0 S0 (g := (mkF m 1 #[.val (.ref aM), .val (.ref ar), .val (.int rj)] [(.ref aM)])) rfl (Jvm.hb hby d2_1)
  refine own_go (t' := T1.setTop (mkF m 4 #[.val (.ref aM), .val (.ref ar), .val (.int rj)] [(.ref aM), (.ref aM)])) st1 ?_
  refine own_go (t' := T1.setTop (mkF m 7 #[.val (.ref aM), .val (.ref ar), .val (.int rj)] [])) (fun _ k_ => Jvm.RoadKit.acmp (g := (mkF m 4 #[.val (.ref aM), .val (.ref ar), .val (.int rj)] [(.ref aM), (.ref aM)])) X1 hx rfl rfl rfl (pc0 := 4) (pc' := 7) (same := true) rfl (Jvm.hb hby d2_4) rfl (decide_eq_true rfl) (by decide) (by decide) k_) ?_
  refine own_go (t' := T1.setTop (mkF m 8 #[.val (.ref aM), .val (.ref ar), .val (.int rj)] [(.ref ar)])) (fun _ k_ => XS.aloadN X1.here hx rfl (Jvm.hb hby d2_7) rfl rfl k_) ?_
  refine own_go (t' := T1.setTop (mkF m 9 #[.val (.ref aM), .val (.ref ar), .val (.int rj)] [(.int rj), (.ref ar)])) (fun _ k_ => XS.iloadN X1.here hx rfl (Jvm.hb hby d2_8) rfl k_) ?_
  obtain ⟨T2, L2, v2, X2, hQ2, st2⟩ := own_static X1 hx hZ hown (hw _ (List.mem_of_getElem? (i := 41) rfl)) (hw _ (List.mem_of_getElem? (i := 42) rfl)) (hw _ (List.mem_of_getElem? (i := 2) rfl)) (hw _ (List.mem_of_getElem? (i := 43) rfl)) (by decide) (rm_avg l Z a0 hw [] nn ar rj pat f h0 n0 Z0 A hn hf) e1 (g := (mkF m 9 #[.val (.ref aM), .val (.ref ar), .val (.int rj)] [(.int rj), (.ref ar)])) rfl (by rw [hml]; rfl) (argsL := [(.ref ar), (.int rj)]) (rest := []) (lenOf pd_d7 rfl) rfl (W := 0) (by show 2 * 0 + _ ≤ _; exact Nat.le_of_eq rfl) (Jvm.hb hby d2_9) (by decide) (by decide) (by decide) (by decide)
  obtain ⟨rfl, Nq2, e2⟩ := hQ2
  have N2 := Fr.app N0 Nq2
  refine own_go (t' := T2.setTop (mkF m 12 #[.val (.ref aM), .val (.ref ar), .val (.int rj)] [(.double (if rj = 0 then (0 : UInt64) else FP.ddiv (own_ap (own_bit pat) nn).1 (FP.i2d rj)))])) st2 ?_
  refine own_go (t' := T2.setTop (mkF m 23 #[.val (.ref aM), .val (.ref ar), .val (.int rj)] [(.double (if rj = 0 then (0 : UInt64) else FP.ddiv (own_ap (own_bit pat) nn).1 (FP.i2d rj)))])) (fun _ k_ => XS.goto X2.here hx rfl (pc0 := 12) (pc' := 23) rfl (Jvm.hb hby d2_12) (by decide) (by decide) k_) ?_
  exact own_retD X2 hx Bd.returns (BodyLoose.notSynchronized Bd) (Jvm.hb hby d2_23) (by decide) (by decide) ⟨rfl, N2, e2⟩
theorem own_sel3 {x : Int32} (h0 : ¬ (x &&& (3 : Int32)) = 0) (h1 : ¬ (x &&& (3 : Int32)) = 1) (h2 : ¬ (x &&& (3 : Int32)) = 2) : (x &&& (3 : Int32)) = 3 := by
  have h := c_and x 3 (by decide)
  rw [show (3 : Int32).toInt = 3 by decide] at h
  have e0 : (x &&& (3 : Int32)).toInt ≠ 0 := fun q => h0 (Int32.toInt_inj.mp (q.trans (by decide)))
  have e1 : (x &&& (3 : Int32)).toInt ≠ 1 := fun q => h1 (Int32.toInt_inj.mp (q.trans (by decide)))
  have e2 : (x &&& (3 : Int32)).toInt ≠ 2 := fun q => h2 (Int32.toInt_inj.mp (q.trans (by decide)))
  refine Int32.toInt_inj.mp ?_
  rw [show (3 : Int32).toInt = 3 by decide]
  omega
theorem ef_rm_law (m : MethodId) (x0 : Int32) (x1 : Int32) (x2 : Int64) (x3 : Int32) (x4 : Int32) (x5 : Int32) : entryFrame m #[(.int x0), (.int x1), (.long x2), (.int x3), (.int x4), (.int x5)] maxLocals = mkF m 0 #[.val (.int x0), .val (.int x1), .val (.long x2), .second, .val (.int x3), .val (.int x4), .val (.int x5), .unset, .unset, .unset, .unset, .unset, .unset, .unset, .unset, .unset, .unset, .unset, .unset, .unset, .unset, .unset] [] := by first | (simp [entryFrame, mkF, argsToLocals, Value.category, maxLocals]; done) | rfl
set_option maxRecDepth 65536 in
set_option maxHeartbeats 40000000 in
theorem rm_law (l : Launch) (Z : State) (a0 : Array Value) (hw : ∀ d ∈ tables_1, d.before a0 Z = true) (ws : List Jvm.Cond) (p0 p1 : Int32) (p2 : Int64) (p3 p4 p5 : Int32) (a5 aT a30 aM : Addr) (h0 : Heap) (n0 : Nat) (Z0 : n0 ≤ h0.size) (S_a5 : Sta Z h0 "com/example/kobe/kobe/eval/Measure" "P_5" "Lcom/example/kobe/kobe/eval/Measure;" (.ref a5)) (F_a5 : Fld Z h0 a5 "com/example/kobe/kobe/eval/Measure" "cutoff" "I" (.int (Int32.ofNat 5))) (X_a5 : Exa Z h0 a5 "com/example/kobe/kobe/eval/Measure") (n_a5 : a5 ≠ aM) (S_aT : Sta Z h0 "com/example/kobe/kobe/eval/Measure" "P_10" "Lcom/example/kobe/kobe/eval/Measure;" (.ref aT)) (F_aT : Fld Z h0 aT "com/example/kobe/kobe/eval/Measure" "cutoff" "I" (.int (Int32.ofNat 10))) (X_aT : Exa Z h0 aT "com/example/kobe/kobe/eval/Measure") (n_aT : aT ≠ aM) (S_a30 : Sta Z h0 "com/example/kobe/kobe/eval/Measure" "P_30" "Lcom/example/kobe/kobe/eval/Measure;" (.ref a30)) (F_a30 : Fld Z h0 a30 "com/example/kobe/kobe/eval/Measure" "cutoff" "I" (.int (Int32.ofNat 30))) (X_a30 : Exa Z h0 a30 "com/example/kobe/kobe/eval/Measure") (n_a30 : a30 ≠ aM) (S_M : Sta Z h0 "com/example/kobe/kobe/eval/Measure" "MAP" "Lcom/example/kobe/kobe/eval/Measure;" (.ref aM)) (X_M : Exa Z h0 aM "com/example/kobe/kobe/eval/Measure") :
    own_Ctr l Z x code maxLocals ret ws room_1 #[(.int p0), (.int p1), (.long p2), (.int p3), (.int p4), (.int p5)] h0 (fun v h L => v = some (.int 1) ∧ Fr n0 L) := by
  refine own_enter (plainFor_of_name pn_at) ?_
  intro p e s m below meth c s₁ Bd hZ hml X0 e0
  have hx := Bd.exec
  have hby := Bd.bytes
  have hown : s.vm.findClass "com/example/kobe/kobe/eval/MeasureScorePinLaw" = some m.cls := findClass_of_methodNamed Bd.named
  have hnm := (name_of_methodNamed Bd.named Bd.method).1
  have N0 := Fr.nil n0
  refine own_go (t' := s₁.setTop (mkF m 0 #[.val (.int p0), .val (.int p1), .val (.long p2), .second, .val (.int p3), .val (.int p4), .val (.int p5), .unset, .unset, .unset, .unset, .unset, .unset, .unset, .unset, .unset, .unset, .unset, .unset, .unset, .unset, .unset] [])) (fun _ k_ => castTop (ef_rm_law m p0 p1 p2 p3 p4 p5) k_) ?_
  refine own_go (t' := s₁.setTop (mkF m 1 #[.val (.int p0), .val (.int p1), .val (.long p2), .second, .val (.int p3), .val (.int p4), .val (.int p5), .unset, .unset, .unset, .unset, .unset, .unset, .unset, .unset, .unset, .unset, .unset, .unset, .unset, .unset, .unset] [(.int p1)])) (fun _ k_ => XS.iloadN X0.here hx rfl (Jvm.hb hby at_0) rfl k_) ?_
  refine own_go (t' := s₁.setTop (mkF m 3 #[.val (.int p0), .val (.int p1), .val (.long p2), .second, .val (.int p3), .val (.int p4), .val (.int p5), .unset, .unset, .unset, .unset, .unset, .unset, .unset, .unset, .unset, .unset, .unset, .unset, .unset, .unset, .unset] [(.int (2147483647 : Int32)), (.int p1)])) (fun _ k_ => X0.ldcI (own := "com/example/kobe/kobe/eval/MeasureScorePinLaw") (index := 7) (v := (2147483647 : Int32)) hx hown (mvT hZ (hw _ (List.mem_of_getElem? (i := 0) rfl))) rfl (Jvm.hb hby at_1) k_) ?_
  refine own_go (t' := s₁.setTop (mkF m 4 #[.val (.int p0), .val (.int p1), .val (.long p2), .second, .val (.int p3), .val (.int p4), .val (.int p5), .unset, .unset, .unset, .unset, .unset, .unset, .unset, .unset, .unset, .unset, .unset, .unset, .unset, .unset, .unset] [(.int (p1 &&& (2147483647 : Int32)))])) (fun _ k_ => XS.iand X0.here hx rfl (Jvm.hb hby at_3) rfl k_) ?_
  refine own_go (t' := s₁.setTop (mkF m 6 #[.val (.int p0), .val (.int p1), .val (.long p2), .second, .val (.int p3), .val (.int p4), .val (.int p5), .unset, .unset, .unset, .unset, .unset, .unset, .unset, .unset, .unset, .unset, .unset, .unset, .unset, .unset, .unset] [(.int (34 : Int32)), (.int (p1 &&& (2147483647 : Int32)))])) (fun _ k_ => XS.bipush X0.here hx rfl (Jvm.hb hby at_4) k_) ?_
  refine own_go (t' := s₁.setTop (mkF m 7 #[.val (.int p0), .val (.int p1), .val (.long p2), .second, .val (.int p3), .val (.int p4), .val (.int p5), .unset, .unset, .unset, .unset, .unset, .unset, .unset, .unset, .unset, .unset, .unset, .unset, .unset, .unset, .unset] [(.int ((p1 &&& (2147483647 : Int32)) % (34 : Int32)))])) (fun _ k_ => iremM X0 hx rfl (Jvm.hb hby at_6) rfl (by decide) k_) ?_
  obtain ⟨nn, hnn, en⟩ := own_n p1
  rw [en]
  refine own_go (t' := s₁.setTop (mkF m 9 #[.val (.int p0), .val (.int p1), .val (.long p2), .second, .val (.int p3), .val (.int p4), .val (.int p5), .val (.int (Int32.ofNat nn)), .unset, .unset, .unset, .unset, .unset, .unset, .unset, .unset, .unset, .unset, .unset, .unset, .unset, .unset] [])) (fun _ k_ => XS.istore X0.here hx rfl (Jvm.hb hby at_7) rfl (l' := #[.val (.int p0), .val (.int p1), .val (.long p2), .second, .val (.int p3), .val (.int p4), .val (.int p5), .val (.int (Int32.ofNat nn)), .unset, .unset, .unset, .unset, .unset, .unset, .unset, .unset, .unset, .unset, .unset, .unset, .unset, .unset]) rfl k_) ?_
  refine own_go (t' := s₁.setTop (mkF m 10 #[.val (.int p0), .val (.int p1), .val (.long p2), .second, .val (.int p3), .val (.int p4), .val (.int p5), .val (.int (Int32.ofNat nn)), .unset, .unset, .unset, .unset, .unset, .unset, .unset, .unset, .unset, .unset, .unset, .unset, .unset, .unset] [(.int p0)])) (fun _ k_ => XS.iloadN X0.here hx rfl (Jvm.hb hby at_9) rfl k_) ?_
  refine own_go (t' := s₁.setTop (mkF m 11 #[.val (.int p0), .val (.int p1), .val (.long p2), .second, .val (.int p3), .val (.int p4), .val (.int p5), .val (.int (Int32.ofNat nn)), .unset, .unset, .unset, .unset, .unset, .unset, .unset, .unset, .unset, .unset, .unset, .unset, .unset, .unset] [(.int (3 : Int32)), (.int p0)])) (fun _ k_ => XS.iconst X0.here hx rfl (Jvm.hb hby at_10) k_) ?_
  refine own_go (t' := s₁.setTop (mkF m 12 #[.val (.int p0), .val (.int p1), .val (.long p2), .second, .val (.int p3), .val (.int p4), .val (.int p5), .val (.int (Int32.ofNat nn)), .unset, .unset, .unset, .unset, .unset, .unset, .unset, .unset, .unset, .unset, .unset, .unset, .unset, .unset] [(.int (p0 &&& (3 : Int32)))])) (fun _ k_ => XS.iand X0.here hx rfl (Jvm.hb hby at_11) rfl k_) ?_
  refine own_go (t' := s₁.setTop (mkF m 14 #[.val (.int p0), .val (.int p1), .val (.long p2), .second, .val (.int p3), .val (.int p4), .val (.int p5), .val (.int (Int32.ofNat nn)), .val (.int (p0 &&& (3 : Int32))), .unset, .unset, .unset, .unset, .unset, .unset, .unset, .unset, .unset, .unset, .unset, .unset, .unset] [])) (fun _ k_ => XS.istore X0.here hx rfl (Jvm.hb hby at_12) rfl (l' := #[.val (.int p0), .val (.int p1), .val (.long p2), .second, .val (.int p3), .val (.int p4), .val (.int p5), .val (.int (Int32.ofNat nn)), .val (.int (p0 &&& (3 : Int32))), .unset, .unset, .unset, .unset, .unset, .unset, .unset, .unset, .unset, .unset, .unset, .unset, .unset]) rfl k_) ?_
  have seg : ∀ (Tj : State) (lj : List Loc) (ms : Addr) (kI mI pI : Int32) (pat : Int64), Stand p l e room_1 s m #[(.int p0), (.int p1), (.long p2), (.int p3), (.int p4), (.int p5)] below meth c Tj lj 0 0 → Tj.heap = h0 → Fr n0 lj → (∀ (Tk : State) (lk : List Loc) (hk : Heap) (ar : Addr), Stand p l e room_1 s m #[(.int p0), (.int p1), (.long p2), (.int p3), (.int p4), (.int p5)] below meth c Tk lk 1 33 → Tk.heap = hk → Fr n0 lk → Keep h0 hk [] → (∀ (C0 f0 d0 : String) (v0 : Value), Sta Z h0 C0 f0 d0 v0 → Sta Z hk C0 f0 d0 v0) → (∃ f, own_Ar Z hk ar .boolean nn f ∧ ∀ j, j < nn → f j = own_bv pat j) → own_Ends p.tables e below (own_F s (fun v h L => v = some (.int 1) ∧ Fr n0 L) room_1.cells room_1.slots) (Tk.setTop (mkF m 451 #[.val (.int p0), .val (.int p1), .val (.long p2), .second, .val (.int p3), .val (.int p4), .val (.int p5), .val (.int (Int32.ofNat nn)), .val (.int (p0 &&& (3 : Int32))), .val (.ref ms), .val (.int kI), .val (.int mI), .val (.int pI), .val (.long pat), .second, .val (.ref ar), .unset, .unset, .unset, .unset, .unset, .unset] []))) → own_Ends p.tables e below (own_F s (fun v h L => v = some (.int 1) ∧ Fr n0 L) room_1.cells room_1.slots) (Tj.setTop (mkF m 154 #[.val (.int p0), .val (.int p1), .val (.long p2), .second, .val (.int p3), .val (.int p4), .val (.int p5), .val (.int (Int32.ofNat nn)), .val (.int (p0 &&& (3 : Int32))), .val (.ref ms), .val (.int kI), .val (.int mI), .val (.int pI), .val (.long pat), .second, .unset, .unset, .unset, .unset, .unset, .unset, .unset] [])) := by
    intro Tj lj ms kI mI pI pat Xj ej Nj kont
    refine own_go (t' := Tj.setTop (mkF m 156 #[.val (.int p0), .val (.int p1), .val (.long p2), .second, .val (.int p3), .val (.int p4), .val (.int p5), .val (.int (Int32.ofNat nn)), .val (.int (p0 &&& (3 : Int32))), .val (.ref ms), .val (.int kI), .val (.int mI), .val (.int pI), .val (.long pat), .second, .unset, .unset, .unset, .unset, .unset, .unset, .unset] [(.int (Int32.ofNat nn))])) (fun _ k_ => XS.iload Xj.here hx rfl (Jvm.hb hby at_154) rfl k_) ?_
    obtain ⟨T1, h1, cA1, X1, e1, E1, Ar1, st1⟩ := newP Xj hx hZ (hw _ (List.mem_of_getElem? (i := 4) rfl)) ej (g := (mkF m 156 #[.val (.int p0), .val (.int p1), .val (.long p2), .second, .val (.int p3), .val (.int p4), .val (.int p5), .val (.int (Int32.ofNat nn)), .val (.int (p0 &&& (3 : Int32))), .val (.ref ms), .val (.int kI), .val (.int mI), .val (.int pI), .val (.long pat), .second, .unset, .unset, .unset, .unset, .unset, .unset, .unset] [(.int (Int32.ofNat nn))])) rfl (Jvm.hb hby at_156) rfl (own_pos (by omega)) (cap := 33) (by rw [own_clamp (by omega)]; exact hnn) (by decide) (by decide) (by decide)
    obtain ⟨ar, g1⟩ : ∃ z, z = h0.size := ⟨_, rfl⟩
    rw [← g1] at Ar1 st1
    refine own_go (t' := T1.setTop (mkF m 158 #[.val (.int p0), .val (.int p1), .val (.long p2), .second, .val (.int p3), .val (.int p4), .val (.int p5), .val (.int (Int32.ofNat nn)), .val (.int (p0 &&& (3 : Int32))), .val (.ref ms), .val (.int kI), .val (.int mI), .val (.int pI), .val (.long pat), .second, .unset, .unset, .unset, .unset, .unset, .unset, .unset] [(.ref ar)])) st1 ?_
    refine own_go (t' := T1.setTop (mkF m 160 #[.val (.int p0), .val (.int p1), .val (.long p2), .second, .val (.int p3), .val (.int p4), .val (.int p5), .val (.int (Int32.ofNat nn)), .val (.int (p0 &&& (3 : Int32))), .val (.ref ms), .val (.int kI), .val (.int mI), .val (.int pI), .val (.long pat), .second, .val (.ref ar), .unset, .unset, .unset, .unset, .unset, .unset] [])) (fun _ k_ => XS.astore X1.here hx rfl (Jvm.hb hby at_158) rfl rfl (l' := #[.val (.int p0), .val (.int p1), .val (.long p2), .second, .val (.int p3), .val (.int p4), .val (.int p5), .val (.int (Int32.ofNat nn)), .val (.int (p0 &&& (3 : Int32))), .val (.ref ms), .val (.int kI), .val (.int mI), .val (.int pI), .val (.long pat), .second, .val (.ref ar), .unset, .unset, .unset, .unset, .unset, .unset]) rfl k_) ?_
    have A0 := own_Ar_new (n := nn) (by omega) Ar1
    have gr : n0 ≤ ar := Nat.le_trans Z0 (Nat.le_of_eq g1.symm)
    have KK0 : Keep h0 h1 [] := (Keep.refl _ _).ext E1
    have SS0 : (∀ (C0 f0 d0 : String) (v0 : Value), Sta Z h0 C0 f0 d0 v0 → Sta Z h1 C0 f0 d0 v0) := fun _ _ _ _ q => q.ext E1
    have ZZ0 : n0 ≤ h1.size := Nat.le_trans Z0 E1.1
    have har : ∀ x ∈ [ar], x ∈ ([] : List Addr) ∨ h0.size ≤ x := fun x hx => Or.inr (by cases List.mem_singleton.mp hx; exact Nat.le_of_eq g1.symm)
    have f0 : ∀ j, j < 0 → j < nn → (fun _ => defaultValue .boolean) j = own_bv pat j := fun j hj _ => absurd hj (by omega)
    refine own_go (t' := T1.setTop (mkF m 162 #[.val (.int p0), .val (.int p1), .val (.long p2), .second, .val (.int p3), .val (.int p4), .val (.int p5), .val (.int (Int32.ofNat nn)), .val (.int (p0 &&& (3 : Int32))), .val (.ref ms), .val (.int kI), .val (.int mI), .val (.int pI), .val (.long pat), .second, .val (.ref ar), .unset, .unset, .unset, .unset, .unset, .unset] [(.ref ar)])) (fun _ k_ => XS.aload X1.here hx rfl (Jvm.hb hby at_160) rfl rfl k_) ?_
    refine own_go (t' := T1.setTop (mkF m 163 #[.val (.int p0), .val (.int p1), .val (.long p2), .second, .val (.int p3), .val (.int p4), .val (.int p5), .val (.int (Int32.ofNat nn)), .val (.int (p0 &&& (3 : Int32))), .val (.ref ms), .val (.int kI), .val (.int mI), .val (.int pI), .val (.long pat), .second, .val (.ref ar), .unset, .unset, .unset, .unset, .unset, .unset] [(.int (0 : Int32)), (.ref ar)])) (fun _ k_ => XS.iconst X1.here hx rfl (Jvm.hb hby at_162) k_) ?_
    refine own_go (t' := T1.setTop (mkF m 165 #[.val (.int p0), .val (.int p1), .val (.long p2), .second, .val (.int p3), .val (.int p4), .val (.int p5), .val (.int (Int32.ofNat nn)), .val (.int (p0 &&& (3 : Int32))), .val (.ref ms), .val (.int kI), .val (.int mI), .val (.int pI), .val (.long pat), .second, .val (.ref ar), .unset, .unset, .unset, .unset, .unset, .unset] [(.long pat), (.int (0 : Int32)), (.ref ar)])) (fun _ k_ => XS.lload X1.here hx rfl (Jvm.hb hby at_163) rfl k_) ?_
    obtain ⟨T2, L2, v2, X2, hQ2, st2⟩ := own_static X1 hx hZ hown (hw _ (List.mem_of_getElem? (i := 5) rfl)) (hw _ (List.mem_of_getElem? (i := 6) rfl)) (hw _ (List.mem_of_getElem? (i := 7) rfl)) (hw _ (List.mem_of_getElem? (i := 8) rfl)) (by decide) (rm_set l Z a0 hw [] ar 0 nn pat _ h1 n0 ZZ0 A0 hnn (by omega) f0 gr) e1 (g := (mkF m 165 #[.val (.int p0), .val (.int p1), .val (.long p2), .second, .val (.int p3), .val (.int p4), .val (.int p5), .val (.int (Int32.ofNat nn)), .val (.int (p0 &&& (3 : Int32))), .val (.ref ms), .val (.int kI), .val (.int mI), .val (.int pI), .val (.long pat), .second, .val (.ref ar), .unset, .unset, .unset, .unset, .unset, .unset] [(.long pat), (.int (0 : Int32)), (.ref ar)])) rfl (by rw [hml]; rfl) (argsL := [(.ref ar), (.int (0 : Int32)), (.long pat)]) (rest := []) (lenOf pd_d1 rfl) rfl (W := 0) (by show 2 * 0 + _ ≤ _; exact Nat.le_of_eq rfl) (Jvm.hb hby at_165) (by decide) (by decide) (by decide) (by decide)
    obtain ⟨rfl, Nq2, K_0, S_0, fu_0, A_0, f_0⟩ := hQ2
    have N2 := Fr.app Nj Nq2
    refine own_go (t' := T2.setTop (mkF m 168 #[.val (.int p0), .val (.int p1), .val (.long p2), .second, .val (.int p3), .val (.int p4), .val (.int p5), .val (.int (Int32.ofNat nn)), .val (.int (p0 &&& (3 : Int32))), .val (.ref ms), .val (.int kI), .val (.int mI), .val (.int pI), .val (.long pat), .second, .val (.ref ar), .unset, .unset, .unset, .unset, .unset, .unset] [])) st2 ?_
    have KK1 : Keep h0 T2.heap [] := KK0.trans K_0 har
    have SS1 : (∀ (C0 f0 d0 : String) (v0 : Value), Sta Z h0 C0 f0 d0 v0 → Sta Z T2.heap C0 f0 d0 v0) := fun _ _ _ _ q => S_0 _ _ _ _ (SS0 _ _ _ _ q)
    have ZZ1 : n0 ≤ T2.heap.size := Nat.le_trans ZZ0 K_0.1
    refine own_go (t' := T2.setTop (mkF m 170 #[.val (.int p0), .val (.int p1), .val (.long p2), .second, .val (.int p3), .val (.int p4), .val (.int p5), .val (.int (Int32.ofNat nn)), .val (.int (p0 &&& (3 : Int32))), .val (.ref ms), .val (.int kI), .val (.int mI), .val (.int pI), .val (.long pat), .second, .val (.ref ar), .unset, .unset, .unset, .unset, .unset, .unset] [(.ref ar)])) (fun _ k_ => XS.aload X2.here hx rfl (Jvm.hb hby at_168) rfl rfl k_) ?_
    refine own_go (t' := T2.setTop (mkF m 171 #[.val (.int p0), .val (.int p1), .val (.long p2), .second, .val (.int p3), .val (.int p4), .val (.int p5), .val (.int (Int32.ofNat nn)), .val (.int (p0 &&& (3 : Int32))), .val (.ref ms), .val (.int kI), .val (.int mI), .val (.int pI), .val (.long pat), .second, .val (.ref ar), .unset, .unset, .unset, .unset, .unset, .unset] [(.int (1 : Int32)), (.ref ar)])) (fun _ k_ => XS.iconst X2.here hx rfl (Jvm.hb hby at_170) k_) ?_
    refine own_go (t' := T2.setTop (mkF m 173 #[.val (.int p0), .val (.int p1), .val (.long p2), .second, .val (.int p3), .val (.int p4), .val (.int p5), .val (.int (Int32.ofNat nn)), .val (.int (p0 &&& (3 : Int32))), .val (.ref ms), .val (.int kI), .val (.int mI), .val (.int pI), .val (.long pat), .second, .val (.ref ar), .unset, .unset, .unset, .unset, .unset, .unset] [(.long pat), (.int (1 : Int32)), (.ref ar)])) (fun _ k_ => XS.lload X2.here hx rfl (Jvm.hb hby at_171) rfl k_) ?_
    obtain ⟨T3, L3, v3, X3, hQ3, st3⟩ := own_static X2 hx hZ hown (hw _ (List.mem_of_getElem? (i := 5) rfl)) (hw _ (List.mem_of_getElem? (i := 6) rfl)) (hw _ (List.mem_of_getElem? (i := 7) rfl)) (hw _ (List.mem_of_getElem? (i := 8) rfl)) (by decide) (rm_set l Z a0 hw [] ar 1 nn pat _ T2.heap n0 ZZ1 A_0 hnn (by omega) f_0 gr) (rfl : T2.heap = T2.heap) (g := (mkF m 173 #[.val (.int p0), .val (.int p1), .val (.long p2), .second, .val (.int p3), .val (.int p4), .val (.int p5), .val (.int (Int32.ofNat nn)), .val (.int (p0 &&& (3 : Int32))), .val (.ref ms), .val (.int kI), .val (.int mI), .val (.int pI), .val (.long pat), .second, .val (.ref ar), .unset, .unset, .unset, .unset, .unset, .unset] [(.long pat), (.int (1 : Int32)), (.ref ar)])) rfl (by rw [hml]; rfl) (argsL := [(.ref ar), (.int (1 : Int32)), (.long pat)]) (rest := []) (lenOf pd_d1 rfl) rfl (W := 0) (by show 2 * 0 + _ ≤ _; exact Nat.le_of_eq rfl) (Jvm.hb hby at_173) (by decide) (by decide) (by decide) (by decide)
    obtain ⟨rfl, Nq3, K_1, S_1, fu_1, A_1, f_1⟩ := hQ3
    have N3 := Fr.app N2 Nq3
    refine own_go (t' := T3.setTop (mkF m 176 #[.val (.int p0), .val (.int p1), .val (.long p2), .second, .val (.int p3), .val (.int p4), .val (.int p5), .val (.int (Int32.ofNat nn)), .val (.int (p0 &&& (3 : Int32))), .val (.ref ms), .val (.int kI), .val (.int mI), .val (.int pI), .val (.long pat), .second, .val (.ref ar), .unset, .unset, .unset, .unset, .unset, .unset] [])) st3 ?_
    have KK2 : Keep h0 T3.heap [] := KK1.trans K_1 har
    have SS2 : (∀ (C0 f0 d0 : String) (v0 : Value), Sta Z h0 C0 f0 d0 v0 → Sta Z T3.heap C0 f0 d0 v0) := fun _ _ _ _ q => S_1 _ _ _ _ (SS1 _ _ _ _ q)
    have ZZ2 : n0 ≤ T3.heap.size := Nat.le_trans ZZ1 K_1.1
    refine own_go (t' := T3.setTop (mkF m 178 #[.val (.int p0), .val (.int p1), .val (.long p2), .second, .val (.int p3), .val (.int p4), .val (.int p5), .val (.int (Int32.ofNat nn)), .val (.int (p0 &&& (3 : Int32))), .val (.ref ms), .val (.int kI), .val (.int mI), .val (.int pI), .val (.long pat), .second, .val (.ref ar), .unset, .unset, .unset, .unset, .unset, .unset] [(.ref ar)])) (fun _ k_ => XS.aload X3.here hx rfl (Jvm.hb hby at_176) rfl rfl k_) ?_
    refine own_go (t' := T3.setTop (mkF m 179 #[.val (.int p0), .val (.int p1), .val (.long p2), .second, .val (.int p3), .val (.int p4), .val (.int p5), .val (.int (Int32.ofNat nn)), .val (.int (p0 &&& (3 : Int32))), .val (.ref ms), .val (.int kI), .val (.int mI), .val (.int pI), .val (.long pat), .second, .val (.ref ar), .unset, .unset, .unset, .unset, .unset, .unset] [(.int (2 : Int32)), (.ref ar)])) (fun _ k_ => XS.iconst X3.here hx rfl (Jvm.hb hby at_178) k_) ?_
    refine own_go (t' := T3.setTop (mkF m 181 #[.val (.int p0), .val (.int p1), .val (.long p2), .second, .val (.int p3), .val (.int p4), .val (.int p5), .val (.int (Int32.ofNat nn)), .val (.int (p0 &&& (3 : Int32))), .val (.ref ms), .val (.int kI), .val (.int mI), .val (.int pI), .val (.long pat), .second, .val (.ref ar), .unset, .unset, .unset, .unset, .unset, .unset] [(.long pat), (.int (2 : Int32)), (.ref ar)])) (fun _ k_ => XS.lload X3.here hx rfl (Jvm.hb hby at_179) rfl k_) ?_
    obtain ⟨T4, L4, v4, X4, hQ4, st4⟩ := own_static X3 hx hZ hown (hw _ (List.mem_of_getElem? (i := 5) rfl)) (hw _ (List.mem_of_getElem? (i := 6) rfl)) (hw _ (List.mem_of_getElem? (i := 7) rfl)) (hw _ (List.mem_of_getElem? (i := 8) rfl)) (by decide) (rm_set l Z a0 hw [] ar 2 nn pat _ T3.heap n0 ZZ2 A_1 hnn (by omega) f_1 gr) (rfl : T3.heap = T3.heap) (g := (mkF m 181 #[.val (.int p0), .val (.int p1), .val (.long p2), .second, .val (.int p3), .val (.int p4), .val (.int p5), .val (.int (Int32.ofNat nn)), .val (.int (p0 &&& (3 : Int32))), .val (.ref ms), .val (.int kI), .val (.int mI), .val (.int pI), .val (.long pat), .second, .val (.ref ar), .unset, .unset, .unset, .unset, .unset, .unset] [(.long pat), (.int (2 : Int32)), (.ref ar)])) rfl (by rw [hml]; rfl) (argsL := [(.ref ar), (.int (2 : Int32)), (.long pat)]) (rest := []) (lenOf pd_d1 rfl) rfl (W := 0) (by show 2 * 0 + _ ≤ _; exact Nat.le_of_eq rfl) (Jvm.hb hby at_181) (by decide) (by decide) (by decide) (by decide)
    obtain ⟨rfl, Nq4, K_2, S_2, fu_2, A_2, f_2⟩ := hQ4
    have N4 := Fr.app N3 Nq4
    refine own_go (t' := T4.setTop (mkF m 184 #[.val (.int p0), .val (.int p1), .val (.long p2), .second, .val (.int p3), .val (.int p4), .val (.int p5), .val (.int (Int32.ofNat nn)), .val (.int (p0 &&& (3 : Int32))), .val (.ref ms), .val (.int kI), .val (.int mI), .val (.int pI), .val (.long pat), .second, .val (.ref ar), .unset, .unset, .unset, .unset, .unset, .unset] [])) st4 ?_
    have KK3 : Keep h0 T4.heap [] := KK2.trans K_2 har
    have SS3 : (∀ (C0 f0 d0 : String) (v0 : Value), Sta Z h0 C0 f0 d0 v0 → Sta Z T4.heap C0 f0 d0 v0) := fun _ _ _ _ q => S_2 _ _ _ _ (SS2 _ _ _ _ q)
    have ZZ3 : n0 ≤ T4.heap.size := Nat.le_trans ZZ2 K_2.1
    refine own_go (t' := T4.setTop (mkF m 186 #[.val (.int p0), .val (.int p1), .val (.long p2), .second, .val (.int p3), .val (.int p4), .val (.int p5), .val (.int (Int32.ofNat nn)), .val (.int (p0 &&& (3 : Int32))), .val (.ref ms), .val (.int kI), .val (.int mI), .val (.int pI), .val (.long pat), .second, .val (.ref ar), .unset, .unset, .unset, .unset, .unset, .unset] [(.ref ar)])) (fun _ k_ => XS.aload X4.here hx rfl (Jvm.hb hby at_184) rfl rfl k_) ?_
    refine own_go (t' := T4.setTop (mkF m 187 #[.val (.int p0), .val (.int p1), .val (.long p2), .second, .val (.int p3), .val (.int p4), .val (.int p5), .val (.int (Int32.ofNat nn)), .val (.int (p0 &&& (3 : Int32))), .val (.ref ms), .val (.int kI), .val (.int mI), .val (.int pI), .val (.long pat), .second, .val (.ref ar), .unset, .unset, .unset, .unset, .unset, .unset] [(.int (3 : Int32)), (.ref ar)])) (fun _ k_ => XS.iconst X4.here hx rfl (Jvm.hb hby at_186) k_) ?_
    refine own_go (t' := T4.setTop (mkF m 189 #[.val (.int p0), .val (.int p1), .val (.long p2), .second, .val (.int p3), .val (.int p4), .val (.int p5), .val (.int (Int32.ofNat nn)), .val (.int (p0 &&& (3 : Int32))), .val (.ref ms), .val (.int kI), .val (.int mI), .val (.int pI), .val (.long pat), .second, .val (.ref ar), .unset, .unset, .unset, .unset, .unset, .unset] [(.long pat), (.int (3 : Int32)), (.ref ar)])) (fun _ k_ => XS.lload X4.here hx rfl (Jvm.hb hby at_187) rfl k_) ?_
    obtain ⟨T5, L5, v5, X5, hQ5, st5⟩ := own_static X4 hx hZ hown (hw _ (List.mem_of_getElem? (i := 5) rfl)) (hw _ (List.mem_of_getElem? (i := 6) rfl)) (hw _ (List.mem_of_getElem? (i := 7) rfl)) (hw _ (List.mem_of_getElem? (i := 8) rfl)) (by decide) (rm_set l Z a0 hw [] ar 3 nn pat _ T4.heap n0 ZZ3 A_2 hnn (by omega) f_2 gr) (rfl : T4.heap = T4.heap) (g := (mkF m 189 #[.val (.int p0), .val (.int p1), .val (.long p2), .second, .val (.int p3), .val (.int p4), .val (.int p5), .val (.int (Int32.ofNat nn)), .val (.int (p0 &&& (3 : Int32))), .val (.ref ms), .val (.int kI), .val (.int mI), .val (.int pI), .val (.long pat), .second, .val (.ref ar), .unset, .unset, .unset, .unset, .unset, .unset] [(.long pat), (.int (3 : Int32)), (.ref ar)])) rfl (by rw [hml]; rfl) (argsL := [(.ref ar), (.int (3 : Int32)), (.long pat)]) (rest := []) (lenOf pd_d1 rfl) rfl (W := 0) (by show 2 * 0 + _ ≤ _; exact Nat.le_of_eq rfl) (Jvm.hb hby at_189) (by decide) (by decide) (by decide) (by decide)
    obtain ⟨rfl, Nq5, K_3, S_3, fu_3, A_3, f_3⟩ := hQ5
    have N5 := Fr.app N4 Nq5
    refine own_go (t' := T5.setTop (mkF m 192 #[.val (.int p0), .val (.int p1), .val (.long p2), .second, .val (.int p3), .val (.int p4), .val (.int p5), .val (.int (Int32.ofNat nn)), .val (.int (p0 &&& (3 : Int32))), .val (.ref ms), .val (.int kI), .val (.int mI), .val (.int pI), .val (.long pat), .second, .val (.ref ar), .unset, .unset, .unset, .unset, .unset, .unset] [])) st5 ?_
    have KK4 : Keep h0 T5.heap [] := KK3.trans K_3 har
    have SS4 : (∀ (C0 f0 d0 : String) (v0 : Value), Sta Z h0 C0 f0 d0 v0 → Sta Z T5.heap C0 f0 d0 v0) := fun _ _ _ _ q => S_3 _ _ _ _ (SS3 _ _ _ _ q)
    have ZZ4 : n0 ≤ T5.heap.size := Nat.le_trans ZZ3 K_3.1
    refine own_go (t' := T5.setTop (mkF m 194 #[.val (.int p0), .val (.int p1), .val (.long p2), .second, .val (.int p3), .val (.int p4), .val (.int p5), .val (.int (Int32.ofNat nn)), .val (.int (p0 &&& (3 : Int32))), .val (.ref ms), .val (.int kI), .val (.int mI), .val (.int pI), .val (.long pat), .second, .val (.ref ar), .unset, .unset, .unset, .unset, .unset, .unset] [(.ref ar)])) (fun _ k_ => XS.aload X5.here hx rfl (Jvm.hb hby at_192) rfl rfl k_) ?_
    refine own_go (t' := T5.setTop (mkF m 195 #[.val (.int p0), .val (.int p1), .val (.long p2), .second, .val (.int p3), .val (.int p4), .val (.int p5), .val (.int (Int32.ofNat nn)), .val (.int (p0 &&& (3 : Int32))), .val (.ref ms), .val (.int kI), .val (.int mI), .val (.int pI), .val (.long pat), .second, .val (.ref ar), .unset, .unset, .unset, .unset, .unset, .unset] [(.int (4 : Int32)), (.ref ar)])) (fun _ k_ => XS.iconst X5.here hx rfl (Jvm.hb hby at_194) k_) ?_
    refine own_go (t' := T5.setTop (mkF m 197 #[.val (.int p0), .val (.int p1), .val (.long p2), .second, .val (.int p3), .val (.int p4), .val (.int p5), .val (.int (Int32.ofNat nn)), .val (.int (p0 &&& (3 : Int32))), .val (.ref ms), .val (.int kI), .val (.int mI), .val (.int pI), .val (.long pat), .second, .val (.ref ar), .unset, .unset, .unset, .unset, .unset, .unset] [(.long pat), (.int (4 : Int32)), (.ref ar)])) (fun _ k_ => XS.lload X5.here hx rfl (Jvm.hb hby at_195) rfl k_) ?_
    obtain ⟨T6, L6, v6, X6, hQ6, st6⟩ := own_static X5 hx hZ hown (hw _ (List.mem_of_getElem? (i := 5) rfl)) (hw _ (List.mem_of_getElem? (i := 6) rfl)) (hw _ (List.mem_of_getElem? (i := 7) rfl)) (hw _ (List.mem_of_getElem? (i := 8) rfl)) (by decide) (rm_set l Z a0 hw [] ar 4 nn pat _ T5.heap n0 ZZ4 A_3 hnn (by omega) f_3 gr) (rfl : T5.heap = T5.heap) (g := (mkF m 197 #[.val (.int p0), .val (.int p1), .val (.long p2), .second, .val (.int p3), .val (.int p4), .val (.int p5), .val (.int (Int32.ofNat nn)), .val (.int (p0 &&& (3 : Int32))), .val (.ref ms), .val (.int kI), .val (.int mI), .val (.int pI), .val (.long pat), .second, .val (.ref ar), .unset, .unset, .unset, .unset, .unset, .unset] [(.long pat), (.int (4 : Int32)), (.ref ar)])) rfl (by rw [hml]; rfl) (argsL := [(.ref ar), (.int (4 : Int32)), (.long pat)]) (rest := []) (lenOf pd_d1 rfl) rfl (W := 0) (by show 2 * 0 + _ ≤ _; exact Nat.le_of_eq rfl) (Jvm.hb hby at_197) (by decide) (by decide) (by decide) (by decide)
    obtain ⟨rfl, Nq6, K_4, S_4, fu_4, A_4, f_4⟩ := hQ6
    have N6 := Fr.app N5 Nq6
    refine own_go (t' := T6.setTop (mkF m 200 #[.val (.int p0), .val (.int p1), .val (.long p2), .second, .val (.int p3), .val (.int p4), .val (.int p5), .val (.int (Int32.ofNat nn)), .val (.int (p0 &&& (3 : Int32))), .val (.ref ms), .val (.int kI), .val (.int mI), .val (.int pI), .val (.long pat), .second, .val (.ref ar), .unset, .unset, .unset, .unset, .unset, .unset] [])) st6 ?_
    have KK5 : Keep h0 T6.heap [] := KK4.trans K_4 har
    have SS5 : (∀ (C0 f0 d0 : String) (v0 : Value), Sta Z h0 C0 f0 d0 v0 → Sta Z T6.heap C0 f0 d0 v0) := fun _ _ _ _ q => S_4 _ _ _ _ (SS4 _ _ _ _ q)
    have ZZ5 : n0 ≤ T6.heap.size := Nat.le_trans ZZ4 K_4.1
    refine own_go (t' := T6.setTop (mkF m 202 #[.val (.int p0), .val (.int p1), .val (.long p2), .second, .val (.int p3), .val (.int p4), .val (.int p5), .val (.int (Int32.ofNat nn)), .val (.int (p0 &&& (3 : Int32))), .val (.ref ms), .val (.int kI), .val (.int mI), .val (.int pI), .val (.long pat), .second, .val (.ref ar), .unset, .unset, .unset, .unset, .unset, .unset] [(.ref ar)])) (fun _ k_ => XS.aload X6.here hx rfl (Jvm.hb hby at_200) rfl rfl k_) ?_
    refine own_go (t' := T6.setTop (mkF m 203 #[.val (.int p0), .val (.int p1), .val (.long p2), .second, .val (.int p3), .val (.int p4), .val (.int p5), .val (.int (Int32.ofNat nn)), .val (.int (p0 &&& (3 : Int32))), .val (.ref ms), .val (.int kI), .val (.int mI), .val (.int pI), .val (.long pat), .second, .val (.ref ar), .unset, .unset, .unset, .unset, .unset, .unset] [(.int (5 : Int32)), (.ref ar)])) (fun _ k_ => XS.iconst X6.here hx rfl (Jvm.hb hby at_202) k_) ?_
    refine own_go (t' := T6.setTop (mkF m 205 #[.val (.int p0), .val (.int p1), .val (.long p2), .second, .val (.int p3), .val (.int p4), .val (.int p5), .val (.int (Int32.ofNat nn)), .val (.int (p0 &&& (3 : Int32))), .val (.ref ms), .val (.int kI), .val (.int mI), .val (.int pI), .val (.long pat), .second, .val (.ref ar), .unset, .unset, .unset, .unset, .unset, .unset] [(.long pat), (.int (5 : Int32)), (.ref ar)])) (fun _ k_ => XS.lload X6.here hx rfl (Jvm.hb hby at_203) rfl k_) ?_
    obtain ⟨T7, L7, v7, X7, hQ7, st7⟩ := own_static X6 hx hZ hown (hw _ (List.mem_of_getElem? (i := 5) rfl)) (hw _ (List.mem_of_getElem? (i := 6) rfl)) (hw _ (List.mem_of_getElem? (i := 7) rfl)) (hw _ (List.mem_of_getElem? (i := 8) rfl)) (by decide) (rm_set l Z a0 hw [] ar 5 nn pat _ T6.heap n0 ZZ5 A_4 hnn (by omega) f_4 gr) (rfl : T6.heap = T6.heap) (g := (mkF m 205 #[.val (.int p0), .val (.int p1), .val (.long p2), .second, .val (.int p3), .val (.int p4), .val (.int p5), .val (.int (Int32.ofNat nn)), .val (.int (p0 &&& (3 : Int32))), .val (.ref ms), .val (.int kI), .val (.int mI), .val (.int pI), .val (.long pat), .second, .val (.ref ar), .unset, .unset, .unset, .unset, .unset, .unset] [(.long pat), (.int (5 : Int32)), (.ref ar)])) rfl (by rw [hml]; rfl) (argsL := [(.ref ar), (.int (5 : Int32)), (.long pat)]) (rest := []) (lenOf pd_d1 rfl) rfl (W := 0) (by show 2 * 0 + _ ≤ _; exact Nat.le_of_eq rfl) (Jvm.hb hby at_205) (by decide) (by decide) (by decide) (by decide)
    obtain ⟨rfl, Nq7, K_5, S_5, fu_5, A_5, f_5⟩ := hQ7
    have N7 := Fr.app N6 Nq7
    refine own_go (t' := T7.setTop (mkF m 208 #[.val (.int p0), .val (.int p1), .val (.long p2), .second, .val (.int p3), .val (.int p4), .val (.int p5), .val (.int (Int32.ofNat nn)), .val (.int (p0 &&& (3 : Int32))), .val (.ref ms), .val (.int kI), .val (.int mI), .val (.int pI), .val (.long pat), .second, .val (.ref ar), .unset, .unset, .unset, .unset, .unset, .unset] [])) st7 ?_
    have KK6 : Keep h0 T7.heap [] := KK5.trans K_5 har
    have SS6 : (∀ (C0 f0 d0 : String) (v0 : Value), Sta Z h0 C0 f0 d0 v0 → Sta Z T7.heap C0 f0 d0 v0) := fun _ _ _ _ q => S_5 _ _ _ _ (SS5 _ _ _ _ q)
    have ZZ6 : n0 ≤ T7.heap.size := Nat.le_trans ZZ5 K_5.1
    refine own_go (t' := T7.setTop (mkF m 210 #[.val (.int p0), .val (.int p1), .val (.long p2), .second, .val (.int p3), .val (.int p4), .val (.int p5), .val (.int (Int32.ofNat nn)), .val (.int (p0 &&& (3 : Int32))), .val (.ref ms), .val (.int kI), .val (.int mI), .val (.int pI), .val (.long pat), .second, .val (.ref ar), .unset, .unset, .unset, .unset, .unset, .unset] [(.ref ar)])) (fun _ k_ => XS.aload X7.here hx rfl (Jvm.hb hby at_208) rfl rfl k_) ?_
    refine own_go (t' := T7.setTop (mkF m 212 #[.val (.int p0), .val (.int p1), .val (.long p2), .second, .val (.int p3), .val (.int p4), .val (.int p5), .val (.int (Int32.ofNat nn)), .val (.int (p0 &&& (3 : Int32))), .val (.ref ms), .val (.int kI), .val (.int mI), .val (.int pI), .val (.long pat), .second, .val (.ref ar), .unset, .unset, .unset, .unset, .unset, .unset] [(.int (6 : Int32)), (.ref ar)])) (fun _ k_ => XS.bipush X7.here hx rfl (Jvm.hb hby at_210) k_) ?_
    refine own_go (t' := T7.setTop (mkF m 214 #[.val (.int p0), .val (.int p1), .val (.long p2), .second, .val (.int p3), .val (.int p4), .val (.int p5), .val (.int (Int32.ofNat nn)), .val (.int (p0 &&& (3 : Int32))), .val (.ref ms), .val (.int kI), .val (.int mI), .val (.int pI), .val (.long pat), .second, .val (.ref ar), .unset, .unset, .unset, .unset, .unset, .unset] [(.long pat), (.int (6 : Int32)), (.ref ar)])) (fun _ k_ => XS.lload X7.here hx rfl (Jvm.hb hby at_212) rfl k_) ?_
    obtain ⟨T8, L8, v8, X8, hQ8, st8⟩ := own_static X7 hx hZ hown (hw _ (List.mem_of_getElem? (i := 5) rfl)) (hw _ (List.mem_of_getElem? (i := 6) rfl)) (hw _ (List.mem_of_getElem? (i := 7) rfl)) (hw _ (List.mem_of_getElem? (i := 8) rfl)) (by decide) (rm_set l Z a0 hw [] ar 6 nn pat _ T7.heap n0 ZZ6 A_5 hnn (by omega) f_5 gr) (rfl : T7.heap = T7.heap) (g := (mkF m 214 #[.val (.int p0), .val (.int p1), .val (.long p2), .second, .val (.int p3), .val (.int p4), .val (.int p5), .val (.int (Int32.ofNat nn)), .val (.int (p0 &&& (3 : Int32))), .val (.ref ms), .val (.int kI), .val (.int mI), .val (.int pI), .val (.long pat), .second, .val (.ref ar), .unset, .unset, .unset, .unset, .unset, .unset] [(.long pat), (.int (6 : Int32)), (.ref ar)])) rfl (by rw [hml]; rfl) (argsL := [(.ref ar), (.int (6 : Int32)), (.long pat)]) (rest := []) (lenOf pd_d1 rfl) rfl (W := 0) (by show 2 * 0 + _ ≤ _; exact Nat.le_of_eq rfl) (Jvm.hb hby at_214) (by decide) (by decide) (by decide) (by decide)
    obtain ⟨rfl, Nq8, K_6, S_6, fu_6, A_6, f_6⟩ := hQ8
    have N8 := Fr.app N7 Nq8
    refine own_go (t' := T8.setTop (mkF m 217 #[.val (.int p0), .val (.int p1), .val (.long p2), .second, .val (.int p3), .val (.int p4), .val (.int p5), .val (.int (Int32.ofNat nn)), .val (.int (p0 &&& (3 : Int32))), .val (.ref ms), .val (.int kI), .val (.int mI), .val (.int pI), .val (.long pat), .second, .val (.ref ar), .unset, .unset, .unset, .unset, .unset, .unset] [])) st8 ?_
    have KK7 : Keep h0 T8.heap [] := KK6.trans K_6 har
    have SS7 : (∀ (C0 f0 d0 : String) (v0 : Value), Sta Z h0 C0 f0 d0 v0 → Sta Z T8.heap C0 f0 d0 v0) := fun _ _ _ _ q => S_6 _ _ _ _ (SS6 _ _ _ _ q)
    have ZZ7 : n0 ≤ T8.heap.size := Nat.le_trans ZZ6 K_6.1
    refine own_go (t' := T8.setTop (mkF m 219 #[.val (.int p0), .val (.int p1), .val (.long p2), .second, .val (.int p3), .val (.int p4), .val (.int p5), .val (.int (Int32.ofNat nn)), .val (.int (p0 &&& (3 : Int32))), .val (.ref ms), .val (.int kI), .val (.int mI), .val (.int pI), .val (.long pat), .second, .val (.ref ar), .unset, .unset, .unset, .unset, .unset, .unset] [(.ref ar)])) (fun _ k_ => XS.aload X8.here hx rfl (Jvm.hb hby at_217) rfl rfl k_) ?_
    refine own_go (t' := T8.setTop (mkF m 221 #[.val (.int p0), .val (.int p1), .val (.long p2), .second, .val (.int p3), .val (.int p4), .val (.int p5), .val (.int (Int32.ofNat nn)), .val (.int (p0 &&& (3 : Int32))), .val (.ref ms), .val (.int kI), .val (.int mI), .val (.int pI), .val (.long pat), .second, .val (.ref ar), .unset, .unset, .unset, .unset, .unset, .unset] [(.int (7 : Int32)), (.ref ar)])) (fun _ k_ => XS.bipush X8.here hx rfl (Jvm.hb hby at_219) k_) ?_
    refine own_go (t' := T8.setTop (mkF m 223 #[.val (.int p0), .val (.int p1), .val (.long p2), .second, .val (.int p3), .val (.int p4), .val (.int p5), .val (.int (Int32.ofNat nn)), .val (.int (p0 &&& (3 : Int32))), .val (.ref ms), .val (.int kI), .val (.int mI), .val (.int pI), .val (.long pat), .second, .val (.ref ar), .unset, .unset, .unset, .unset, .unset, .unset] [(.long pat), (.int (7 : Int32)), (.ref ar)])) (fun _ k_ => XS.lload X8.here hx rfl (Jvm.hb hby at_221) rfl k_) ?_
    obtain ⟨T9, L9, v9, X9, hQ9, st9⟩ := own_static X8 hx hZ hown (hw _ (List.mem_of_getElem? (i := 5) rfl)) (hw _ (List.mem_of_getElem? (i := 6) rfl)) (hw _ (List.mem_of_getElem? (i := 7) rfl)) (hw _ (List.mem_of_getElem? (i := 8) rfl)) (by decide) (rm_set l Z a0 hw [] ar 7 nn pat _ T8.heap n0 ZZ7 A_6 hnn (by omega) f_6 gr) (rfl : T8.heap = T8.heap) (g := (mkF m 223 #[.val (.int p0), .val (.int p1), .val (.long p2), .second, .val (.int p3), .val (.int p4), .val (.int p5), .val (.int (Int32.ofNat nn)), .val (.int (p0 &&& (3 : Int32))), .val (.ref ms), .val (.int kI), .val (.int mI), .val (.int pI), .val (.long pat), .second, .val (.ref ar), .unset, .unset, .unset, .unset, .unset, .unset] [(.long pat), (.int (7 : Int32)), (.ref ar)])) rfl (by rw [hml]; rfl) (argsL := [(.ref ar), (.int (7 : Int32)), (.long pat)]) (rest := []) (lenOf pd_d1 rfl) rfl (W := 0) (by show 2 * 0 + _ ≤ _; exact Nat.le_of_eq rfl) (Jvm.hb hby at_223) (by decide) (by decide) (by decide) (by decide)
    obtain ⟨rfl, Nq9, K_7, S_7, fu_7, A_7, f_7⟩ := hQ9
    have N9 := Fr.app N8 Nq9
    refine own_go (t' := T9.setTop (mkF m 226 #[.val (.int p0), .val (.int p1), .val (.long p2), .second, .val (.int p3), .val (.int p4), .val (.int p5), .val (.int (Int32.ofNat nn)), .val (.int (p0 &&& (3 : Int32))), .val (.ref ms), .val (.int kI), .val (.int mI), .val (.int pI), .val (.long pat), .second, .val (.ref ar), .unset, .unset, .unset, .unset, .unset, .unset] [])) st9 ?_
    have KK8 : Keep h0 T9.heap [] := KK7.trans K_7 har
    have SS8 : (∀ (C0 f0 d0 : String) (v0 : Value), Sta Z h0 C0 f0 d0 v0 → Sta Z T9.heap C0 f0 d0 v0) := fun _ _ _ _ q => S_7 _ _ _ _ (SS7 _ _ _ _ q)
    have ZZ8 : n0 ≤ T9.heap.size := Nat.le_trans ZZ7 K_7.1
    refine own_go (t' := T9.setTop (mkF m 228 #[.val (.int p0), .val (.int p1), .val (.long p2), .second, .val (.int p3), .val (.int p4), .val (.int p5), .val (.int (Int32.ofNat nn)), .val (.int (p0 &&& (3 : Int32))), .val (.ref ms), .val (.int kI), .val (.int mI), .val (.int pI), .val (.long pat), .second, .val (.ref ar), .unset, .unset, .unset, .unset, .unset, .unset] [(.ref ar)])) (fun _ k_ => XS.aload X9.here hx rfl (Jvm.hb hby at_226) rfl rfl k_) ?_
    refine own_go (t' := T9.setTop (mkF m 230 #[.val (.int p0), .val (.int p1), .val (.long p2), .second, .val (.int p3), .val (.int p4), .val (.int p5), .val (.int (Int32.ofNat nn)), .val (.int (p0 &&& (3 : Int32))), .val (.ref ms), .val (.int kI), .val (.int mI), .val (.int pI), .val (.long pat), .second, .val (.ref ar), .unset, .unset, .unset, .unset, .unset, .unset] [(.int (8 : Int32)), (.ref ar)])) (fun _ k_ => XS.bipush X9.here hx rfl (Jvm.hb hby at_228) k_) ?_
    refine own_go (t' := T9.setTop (mkF m 232 #[.val (.int p0), .val (.int p1), .val (.long p2), .second, .val (.int p3), .val (.int p4), .val (.int p5), .val (.int (Int32.ofNat nn)), .val (.int (p0 &&& (3 : Int32))), .val (.ref ms), .val (.int kI), .val (.int mI), .val (.int pI), .val (.long pat), .second, .val (.ref ar), .unset, .unset, .unset, .unset, .unset, .unset] [(.long pat), (.int (8 : Int32)), (.ref ar)])) (fun _ k_ => XS.lload X9.here hx rfl (Jvm.hb hby at_230) rfl k_) ?_
    obtain ⟨T10, L10, v10, X10, hQ10, st10⟩ := own_static X9 hx hZ hown (hw _ (List.mem_of_getElem? (i := 5) rfl)) (hw _ (List.mem_of_getElem? (i := 6) rfl)) (hw _ (List.mem_of_getElem? (i := 7) rfl)) (hw _ (List.mem_of_getElem? (i := 8) rfl)) (by decide) (rm_set l Z a0 hw [] ar 8 nn pat _ T9.heap n0 ZZ8 A_7 hnn (by omega) f_7 gr) (rfl : T9.heap = T9.heap) (g := (mkF m 232 #[.val (.int p0), .val (.int p1), .val (.long p2), .second, .val (.int p3), .val (.int p4), .val (.int p5), .val (.int (Int32.ofNat nn)), .val (.int (p0 &&& (3 : Int32))), .val (.ref ms), .val (.int kI), .val (.int mI), .val (.int pI), .val (.long pat), .second, .val (.ref ar), .unset, .unset, .unset, .unset, .unset, .unset] [(.long pat), (.int (8 : Int32)), (.ref ar)])) rfl (by rw [hml]; rfl) (argsL := [(.ref ar), (.int (8 : Int32)), (.long pat)]) (rest := []) (lenOf pd_d1 rfl) rfl (W := 0) (by show 2 * 0 + _ ≤ _; exact Nat.le_of_eq rfl) (Jvm.hb hby at_232) (by decide) (by decide) (by decide) (by decide)
    obtain ⟨rfl, Nq10, K_8, S_8, fu_8, A_8, f_8⟩ := hQ10
    have N10 := Fr.app N9 Nq10
    refine own_go (t' := T10.setTop (mkF m 235 #[.val (.int p0), .val (.int p1), .val (.long p2), .second, .val (.int p3), .val (.int p4), .val (.int p5), .val (.int (Int32.ofNat nn)), .val (.int (p0 &&& (3 : Int32))), .val (.ref ms), .val (.int kI), .val (.int mI), .val (.int pI), .val (.long pat), .second, .val (.ref ar), .unset, .unset, .unset, .unset, .unset, .unset] [])) st10 ?_
    have KK9 : Keep h0 T10.heap [] := KK8.trans K_8 har
    have SS9 : (∀ (C0 f0 d0 : String) (v0 : Value), Sta Z h0 C0 f0 d0 v0 → Sta Z T10.heap C0 f0 d0 v0) := fun _ _ _ _ q => S_8 _ _ _ _ (SS8 _ _ _ _ q)
    have ZZ9 : n0 ≤ T10.heap.size := Nat.le_trans ZZ8 K_8.1
    refine own_go (t' := T10.setTop (mkF m 237 #[.val (.int p0), .val (.int p1), .val (.long p2), .second, .val (.int p3), .val (.int p4), .val (.int p5), .val (.int (Int32.ofNat nn)), .val (.int (p0 &&& (3 : Int32))), .val (.ref ms), .val (.int kI), .val (.int mI), .val (.int pI), .val (.long pat), .second, .val (.ref ar), .unset, .unset, .unset, .unset, .unset, .unset] [(.ref ar)])) (fun _ k_ => XS.aload X10.here hx rfl (Jvm.hb hby at_235) rfl rfl k_) ?_
    refine own_go (t' := T10.setTop (mkF m 239 #[.val (.int p0), .val (.int p1), .val (.long p2), .second, .val (.int p3), .val (.int p4), .val (.int p5), .val (.int (Int32.ofNat nn)), .val (.int (p0 &&& (3 : Int32))), .val (.ref ms), .val (.int kI), .val (.int mI), .val (.int pI), .val (.long pat), .second, .val (.ref ar), .unset, .unset, .unset, .unset, .unset, .unset] [(.int (9 : Int32)), (.ref ar)])) (fun _ k_ => XS.bipush X10.here hx rfl (Jvm.hb hby at_237) k_) ?_
    refine own_go (t' := T10.setTop (mkF m 241 #[.val (.int p0), .val (.int p1), .val (.long p2), .second, .val (.int p3), .val (.int p4), .val (.int p5), .val (.int (Int32.ofNat nn)), .val (.int (p0 &&& (3 : Int32))), .val (.ref ms), .val (.int kI), .val (.int mI), .val (.int pI), .val (.long pat), .second, .val (.ref ar), .unset, .unset, .unset, .unset, .unset, .unset] [(.long pat), (.int (9 : Int32)), (.ref ar)])) (fun _ k_ => XS.lload X10.here hx rfl (Jvm.hb hby at_239) rfl k_) ?_
    obtain ⟨T11, L11, v11, X11, hQ11, st11⟩ := own_static X10 hx hZ hown (hw _ (List.mem_of_getElem? (i := 5) rfl)) (hw _ (List.mem_of_getElem? (i := 6) rfl)) (hw _ (List.mem_of_getElem? (i := 7) rfl)) (hw _ (List.mem_of_getElem? (i := 8) rfl)) (by decide) (rm_set l Z a0 hw [] ar 9 nn pat _ T10.heap n0 ZZ9 A_8 hnn (by omega) f_8 gr) (rfl : T10.heap = T10.heap) (g := (mkF m 241 #[.val (.int p0), .val (.int p1), .val (.long p2), .second, .val (.int p3), .val (.int p4), .val (.int p5), .val (.int (Int32.ofNat nn)), .val (.int (p0 &&& (3 : Int32))), .val (.ref ms), .val (.int kI), .val (.int mI), .val (.int pI), .val (.long pat), .second, .val (.ref ar), .unset, .unset, .unset, .unset, .unset, .unset] [(.long pat), (.int (9 : Int32)), (.ref ar)])) rfl (by rw [hml]; rfl) (argsL := [(.ref ar), (.int (9 : Int32)), (.long pat)]) (rest := []) (lenOf pd_d1 rfl) rfl (W := 0) (by show 2 * 0 + _ ≤ _; exact Nat.le_of_eq rfl) (Jvm.hb hby at_241) (by decide) (by decide) (by decide) (by decide)
    obtain ⟨rfl, Nq11, K_9, S_9, fu_9, A_9, f_9⟩ := hQ11
    have N11 := Fr.app N10 Nq11
    refine own_go (t' := T11.setTop (mkF m 244 #[.val (.int p0), .val (.int p1), .val (.long p2), .second, .val (.int p3), .val (.int p4), .val (.int p5), .val (.int (Int32.ofNat nn)), .val (.int (p0 &&& (3 : Int32))), .val (.ref ms), .val (.int kI), .val (.int mI), .val (.int pI), .val (.long pat), .second, .val (.ref ar), .unset, .unset, .unset, .unset, .unset, .unset] [])) st11 ?_
    have KK10 : Keep h0 T11.heap [] := KK9.trans K_9 har
    have SS10 : (∀ (C0 f0 d0 : String) (v0 : Value), Sta Z h0 C0 f0 d0 v0 → Sta Z T11.heap C0 f0 d0 v0) := fun _ _ _ _ q => S_9 _ _ _ _ (SS9 _ _ _ _ q)
    have ZZ10 : n0 ≤ T11.heap.size := Nat.le_trans ZZ9 K_9.1
    refine own_go (t' := T11.setTop (mkF m 246 #[.val (.int p0), .val (.int p1), .val (.long p2), .second, .val (.int p3), .val (.int p4), .val (.int p5), .val (.int (Int32.ofNat nn)), .val (.int (p0 &&& (3 : Int32))), .val (.ref ms), .val (.int kI), .val (.int mI), .val (.int pI), .val (.long pat), .second, .val (.ref ar), .unset, .unset, .unset, .unset, .unset, .unset] [(.ref ar)])) (fun _ k_ => XS.aload X11.here hx rfl (Jvm.hb hby at_244) rfl rfl k_) ?_
    refine own_go (t' := T11.setTop (mkF m 248 #[.val (.int p0), .val (.int p1), .val (.long p2), .second, .val (.int p3), .val (.int p4), .val (.int p5), .val (.int (Int32.ofNat nn)), .val (.int (p0 &&& (3 : Int32))), .val (.ref ms), .val (.int kI), .val (.int mI), .val (.int pI), .val (.long pat), .second, .val (.ref ar), .unset, .unset, .unset, .unset, .unset, .unset] [(.int (10 : Int32)), (.ref ar)])) (fun _ k_ => XS.bipush X11.here hx rfl (Jvm.hb hby at_246) k_) ?_
    refine own_go (t' := T11.setTop (mkF m 250 #[.val (.int p0), .val (.int p1), .val (.long p2), .second, .val (.int p3), .val (.int p4), .val (.int p5), .val (.int (Int32.ofNat nn)), .val (.int (p0 &&& (3 : Int32))), .val (.ref ms), .val (.int kI), .val (.int mI), .val (.int pI), .val (.long pat), .second, .val (.ref ar), .unset, .unset, .unset, .unset, .unset, .unset] [(.long pat), (.int (10 : Int32)), (.ref ar)])) (fun _ k_ => XS.lload X11.here hx rfl (Jvm.hb hby at_248) rfl k_) ?_
    obtain ⟨T12, L12, v12, X12, hQ12, st12⟩ := own_static X11 hx hZ hown (hw _ (List.mem_of_getElem? (i := 5) rfl)) (hw _ (List.mem_of_getElem? (i := 6) rfl)) (hw _ (List.mem_of_getElem? (i := 7) rfl)) (hw _ (List.mem_of_getElem? (i := 8) rfl)) (by decide) (rm_set l Z a0 hw [] ar 10 nn pat _ T11.heap n0 ZZ10 A_9 hnn (by omega) f_9 gr) (rfl : T11.heap = T11.heap) (g := (mkF m 250 #[.val (.int p0), .val (.int p1), .val (.long p2), .second, .val (.int p3), .val (.int p4), .val (.int p5), .val (.int (Int32.ofNat nn)), .val (.int (p0 &&& (3 : Int32))), .val (.ref ms), .val (.int kI), .val (.int mI), .val (.int pI), .val (.long pat), .second, .val (.ref ar), .unset, .unset, .unset, .unset, .unset, .unset] [(.long pat), (.int (10 : Int32)), (.ref ar)])) rfl (by rw [hml]; rfl) (argsL := [(.ref ar), (.int (10 : Int32)), (.long pat)]) (rest := []) (lenOf pd_d1 rfl) rfl (W := 0) (by show 2 * 0 + _ ≤ _; exact Nat.le_of_eq rfl) (Jvm.hb hby at_250) (by decide) (by decide) (by decide) (by decide)
    obtain ⟨rfl, Nq12, K_10, S_10, fu_10, A_10, f_10⟩ := hQ12
    have N12 := Fr.app N11 Nq12
    refine own_go (t' := T12.setTop (mkF m 253 #[.val (.int p0), .val (.int p1), .val (.long p2), .second, .val (.int p3), .val (.int p4), .val (.int p5), .val (.int (Int32.ofNat nn)), .val (.int (p0 &&& (3 : Int32))), .val (.ref ms), .val (.int kI), .val (.int mI), .val (.int pI), .val (.long pat), .second, .val (.ref ar), .unset, .unset, .unset, .unset, .unset, .unset] [])) st12 ?_
    have KK11 : Keep h0 T12.heap [] := KK10.trans K_10 har
    have SS11 : (∀ (C0 f0 d0 : String) (v0 : Value), Sta Z h0 C0 f0 d0 v0 → Sta Z T12.heap C0 f0 d0 v0) := fun _ _ _ _ q => S_10 _ _ _ _ (SS10 _ _ _ _ q)
    have ZZ11 : n0 ≤ T12.heap.size := Nat.le_trans ZZ10 K_10.1
    refine own_go (t' := T12.setTop (mkF m 255 #[.val (.int p0), .val (.int p1), .val (.long p2), .second, .val (.int p3), .val (.int p4), .val (.int p5), .val (.int (Int32.ofNat nn)), .val (.int (p0 &&& (3 : Int32))), .val (.ref ms), .val (.int kI), .val (.int mI), .val (.int pI), .val (.long pat), .second, .val (.ref ar), .unset, .unset, .unset, .unset, .unset, .unset] [(.ref ar)])) (fun _ k_ => XS.aload X12.here hx rfl (Jvm.hb hby at_253) rfl rfl k_) ?_
    refine own_go (t' := T12.setTop (mkF m 257 #[.val (.int p0), .val (.int p1), .val (.long p2), .second, .val (.int p3), .val (.int p4), .val (.int p5), .val (.int (Int32.ofNat nn)), .val (.int (p0 &&& (3 : Int32))), .val (.ref ms), .val (.int kI), .val (.int mI), .val (.int pI), .val (.long pat), .second, .val (.ref ar), .unset, .unset, .unset, .unset, .unset, .unset] [(.int (11 : Int32)), (.ref ar)])) (fun _ k_ => XS.bipush X12.here hx rfl (Jvm.hb hby at_255) k_) ?_
    refine own_go (t' := T12.setTop (mkF m 259 #[.val (.int p0), .val (.int p1), .val (.long p2), .second, .val (.int p3), .val (.int p4), .val (.int p5), .val (.int (Int32.ofNat nn)), .val (.int (p0 &&& (3 : Int32))), .val (.ref ms), .val (.int kI), .val (.int mI), .val (.int pI), .val (.long pat), .second, .val (.ref ar), .unset, .unset, .unset, .unset, .unset, .unset] [(.long pat), (.int (11 : Int32)), (.ref ar)])) (fun _ k_ => XS.lload X12.here hx rfl (Jvm.hb hby at_257) rfl k_) ?_
    obtain ⟨T13, L13, v13, X13, hQ13, st13⟩ := own_static X12 hx hZ hown (hw _ (List.mem_of_getElem? (i := 5) rfl)) (hw _ (List.mem_of_getElem? (i := 6) rfl)) (hw _ (List.mem_of_getElem? (i := 7) rfl)) (hw _ (List.mem_of_getElem? (i := 8) rfl)) (by decide) (rm_set l Z a0 hw [] ar 11 nn pat _ T12.heap n0 ZZ11 A_10 hnn (by omega) f_10 gr) (rfl : T12.heap = T12.heap) (g := (mkF m 259 #[.val (.int p0), .val (.int p1), .val (.long p2), .second, .val (.int p3), .val (.int p4), .val (.int p5), .val (.int (Int32.ofNat nn)), .val (.int (p0 &&& (3 : Int32))), .val (.ref ms), .val (.int kI), .val (.int mI), .val (.int pI), .val (.long pat), .second, .val (.ref ar), .unset, .unset, .unset, .unset, .unset, .unset] [(.long pat), (.int (11 : Int32)), (.ref ar)])) rfl (by rw [hml]; rfl) (argsL := [(.ref ar), (.int (11 : Int32)), (.long pat)]) (rest := []) (lenOf pd_d1 rfl) rfl (W := 0) (by show 2 * 0 + _ ≤ _; exact Nat.le_of_eq rfl) (Jvm.hb hby at_259) (by decide) (by decide) (by decide) (by decide)
    obtain ⟨rfl, Nq13, K_11, S_11, fu_11, A_11, f_11⟩ := hQ13
    have N13 := Fr.app N12 Nq13
    refine own_go (t' := T13.setTop (mkF m 262 #[.val (.int p0), .val (.int p1), .val (.long p2), .second, .val (.int p3), .val (.int p4), .val (.int p5), .val (.int (Int32.ofNat nn)), .val (.int (p0 &&& (3 : Int32))), .val (.ref ms), .val (.int kI), .val (.int mI), .val (.int pI), .val (.long pat), .second, .val (.ref ar), .unset, .unset, .unset, .unset, .unset, .unset] [])) st13 ?_
    have KK12 : Keep h0 T13.heap [] := KK11.trans K_11 har
    have SS12 : (∀ (C0 f0 d0 : String) (v0 : Value), Sta Z h0 C0 f0 d0 v0 → Sta Z T13.heap C0 f0 d0 v0) := fun _ _ _ _ q => S_11 _ _ _ _ (SS11 _ _ _ _ q)
    have ZZ12 : n0 ≤ T13.heap.size := Nat.le_trans ZZ11 K_11.1
    refine own_go (t' := T13.setTop (mkF m 264 #[.val (.int p0), .val (.int p1), .val (.long p2), .second, .val (.int p3), .val (.int p4), .val (.int p5), .val (.int (Int32.ofNat nn)), .val (.int (p0 &&& (3 : Int32))), .val (.ref ms), .val (.int kI), .val (.int mI), .val (.int pI), .val (.long pat), .second, .val (.ref ar), .unset, .unset, .unset, .unset, .unset, .unset] [(.ref ar)])) (fun _ k_ => XS.aload X13.here hx rfl (Jvm.hb hby at_262) rfl rfl k_) ?_
    refine own_go (t' := T13.setTop (mkF m 266 #[.val (.int p0), .val (.int p1), .val (.long p2), .second, .val (.int p3), .val (.int p4), .val (.int p5), .val (.int (Int32.ofNat nn)), .val (.int (p0 &&& (3 : Int32))), .val (.ref ms), .val (.int kI), .val (.int mI), .val (.int pI), .val (.long pat), .second, .val (.ref ar), .unset, .unset, .unset, .unset, .unset, .unset] [(.int (12 : Int32)), (.ref ar)])) (fun _ k_ => XS.bipush X13.here hx rfl (Jvm.hb hby at_264) k_) ?_
    refine own_go (t' := T13.setTop (mkF m 268 #[.val (.int p0), .val (.int p1), .val (.long p2), .second, .val (.int p3), .val (.int p4), .val (.int p5), .val (.int (Int32.ofNat nn)), .val (.int (p0 &&& (3 : Int32))), .val (.ref ms), .val (.int kI), .val (.int mI), .val (.int pI), .val (.long pat), .second, .val (.ref ar), .unset, .unset, .unset, .unset, .unset, .unset] [(.long pat), (.int (12 : Int32)), (.ref ar)])) (fun _ k_ => XS.lload X13.here hx rfl (Jvm.hb hby at_266) rfl k_) ?_
    obtain ⟨T14, L14, v14, X14, hQ14, st14⟩ := own_static X13 hx hZ hown (hw _ (List.mem_of_getElem? (i := 5) rfl)) (hw _ (List.mem_of_getElem? (i := 6) rfl)) (hw _ (List.mem_of_getElem? (i := 7) rfl)) (hw _ (List.mem_of_getElem? (i := 8) rfl)) (by decide) (rm_set l Z a0 hw [] ar 12 nn pat _ T13.heap n0 ZZ12 A_11 hnn (by omega) f_11 gr) (rfl : T13.heap = T13.heap) (g := (mkF m 268 #[.val (.int p0), .val (.int p1), .val (.long p2), .second, .val (.int p3), .val (.int p4), .val (.int p5), .val (.int (Int32.ofNat nn)), .val (.int (p0 &&& (3 : Int32))), .val (.ref ms), .val (.int kI), .val (.int mI), .val (.int pI), .val (.long pat), .second, .val (.ref ar), .unset, .unset, .unset, .unset, .unset, .unset] [(.long pat), (.int (12 : Int32)), (.ref ar)])) rfl (by rw [hml]; rfl) (argsL := [(.ref ar), (.int (12 : Int32)), (.long pat)]) (rest := []) (lenOf pd_d1 rfl) rfl (W := 0) (by show 2 * 0 + _ ≤ _; exact Nat.le_of_eq rfl) (Jvm.hb hby at_268) (by decide) (by decide) (by decide) (by decide)
    obtain ⟨rfl, Nq14, K_12, S_12, fu_12, A_12, f_12⟩ := hQ14
    have N14 := Fr.app N13 Nq14
    refine own_go (t' := T14.setTop (mkF m 271 #[.val (.int p0), .val (.int p1), .val (.long p2), .second, .val (.int p3), .val (.int p4), .val (.int p5), .val (.int (Int32.ofNat nn)), .val (.int (p0 &&& (3 : Int32))), .val (.ref ms), .val (.int kI), .val (.int mI), .val (.int pI), .val (.long pat), .second, .val (.ref ar), .unset, .unset, .unset, .unset, .unset, .unset] [])) st14 ?_
    have KK13 : Keep h0 T14.heap [] := KK12.trans K_12 har
    have SS13 : (∀ (C0 f0 d0 : String) (v0 : Value), Sta Z h0 C0 f0 d0 v0 → Sta Z T14.heap C0 f0 d0 v0) := fun _ _ _ _ q => S_12 _ _ _ _ (SS12 _ _ _ _ q)
    have ZZ13 : n0 ≤ T14.heap.size := Nat.le_trans ZZ12 K_12.1
    refine own_go (t' := T14.setTop (mkF m 273 #[.val (.int p0), .val (.int p1), .val (.long p2), .second, .val (.int p3), .val (.int p4), .val (.int p5), .val (.int (Int32.ofNat nn)), .val (.int (p0 &&& (3 : Int32))), .val (.ref ms), .val (.int kI), .val (.int mI), .val (.int pI), .val (.long pat), .second, .val (.ref ar), .unset, .unset, .unset, .unset, .unset, .unset] [(.ref ar)])) (fun _ k_ => XS.aload X14.here hx rfl (Jvm.hb hby at_271) rfl rfl k_) ?_
    refine own_go (t' := T14.setTop (mkF m 275 #[.val (.int p0), .val (.int p1), .val (.long p2), .second, .val (.int p3), .val (.int p4), .val (.int p5), .val (.int (Int32.ofNat nn)), .val (.int (p0 &&& (3 : Int32))), .val (.ref ms), .val (.int kI), .val (.int mI), .val (.int pI), .val (.long pat), .second, .val (.ref ar), .unset, .unset, .unset, .unset, .unset, .unset] [(.int (13 : Int32)), (.ref ar)])) (fun _ k_ => XS.bipush X14.here hx rfl (Jvm.hb hby at_273) k_) ?_
    refine own_go (t' := T14.setTop (mkF m 277 #[.val (.int p0), .val (.int p1), .val (.long p2), .second, .val (.int p3), .val (.int p4), .val (.int p5), .val (.int (Int32.ofNat nn)), .val (.int (p0 &&& (3 : Int32))), .val (.ref ms), .val (.int kI), .val (.int mI), .val (.int pI), .val (.long pat), .second, .val (.ref ar), .unset, .unset, .unset, .unset, .unset, .unset] [(.long pat), (.int (13 : Int32)), (.ref ar)])) (fun _ k_ => XS.lload X14.here hx rfl (Jvm.hb hby at_275) rfl k_) ?_
    obtain ⟨T15, L15, v15, X15, hQ15, st15⟩ := own_static X14 hx hZ hown (hw _ (List.mem_of_getElem? (i := 5) rfl)) (hw _ (List.mem_of_getElem? (i := 6) rfl)) (hw _ (List.mem_of_getElem? (i := 7) rfl)) (hw _ (List.mem_of_getElem? (i := 8) rfl)) (by decide) (rm_set l Z a0 hw [] ar 13 nn pat _ T14.heap n0 ZZ13 A_12 hnn (by omega) f_12 gr) (rfl : T14.heap = T14.heap) (g := (mkF m 277 #[.val (.int p0), .val (.int p1), .val (.long p2), .second, .val (.int p3), .val (.int p4), .val (.int p5), .val (.int (Int32.ofNat nn)), .val (.int (p0 &&& (3 : Int32))), .val (.ref ms), .val (.int kI), .val (.int mI), .val (.int pI), .val (.long pat), .second, .val (.ref ar), .unset, .unset, .unset, .unset, .unset, .unset] [(.long pat), (.int (13 : Int32)), (.ref ar)])) rfl (by rw [hml]; rfl) (argsL := [(.ref ar), (.int (13 : Int32)), (.long pat)]) (rest := []) (lenOf pd_d1 rfl) rfl (W := 0) (by show 2 * 0 + _ ≤ _; exact Nat.le_of_eq rfl) (Jvm.hb hby at_277) (by decide) (by decide) (by decide) (by decide)
    obtain ⟨rfl, Nq15, K_13, S_13, fu_13, A_13, f_13⟩ := hQ15
    have N15 := Fr.app N14 Nq15
    refine own_go (t' := T15.setTop (mkF m 280 #[.val (.int p0), .val (.int p1), .val (.long p2), .second, .val (.int p3), .val (.int p4), .val (.int p5), .val (.int (Int32.ofNat nn)), .val (.int (p0 &&& (3 : Int32))), .val (.ref ms), .val (.int kI), .val (.int mI), .val (.int pI), .val (.long pat), .second, .val (.ref ar), .unset, .unset, .unset, .unset, .unset, .unset] [])) st15 ?_
    have KK14 : Keep h0 T15.heap [] := KK13.trans K_13 har
    have SS14 : (∀ (C0 f0 d0 : String) (v0 : Value), Sta Z h0 C0 f0 d0 v0 → Sta Z T15.heap C0 f0 d0 v0) := fun _ _ _ _ q => S_13 _ _ _ _ (SS13 _ _ _ _ q)
    have ZZ14 : n0 ≤ T15.heap.size := Nat.le_trans ZZ13 K_13.1
    refine own_go (t' := T15.setTop (mkF m 282 #[.val (.int p0), .val (.int p1), .val (.long p2), .second, .val (.int p3), .val (.int p4), .val (.int p5), .val (.int (Int32.ofNat nn)), .val (.int (p0 &&& (3 : Int32))), .val (.ref ms), .val (.int kI), .val (.int mI), .val (.int pI), .val (.long pat), .second, .val (.ref ar), .unset, .unset, .unset, .unset, .unset, .unset] [(.ref ar)])) (fun _ k_ => XS.aload X15.here hx rfl (Jvm.hb hby at_280) rfl rfl k_) ?_
    refine own_go (t' := T15.setTop (mkF m 284 #[.val (.int p0), .val (.int p1), .val (.long p2), .second, .val (.int p3), .val (.int p4), .val (.int p5), .val (.int (Int32.ofNat nn)), .val (.int (p0 &&& (3 : Int32))), .val (.ref ms), .val (.int kI), .val (.int mI), .val (.int pI), .val (.long pat), .second, .val (.ref ar), .unset, .unset, .unset, .unset, .unset, .unset] [(.int (14 : Int32)), (.ref ar)])) (fun _ k_ => XS.bipush X15.here hx rfl (Jvm.hb hby at_282) k_) ?_
    refine own_go (t' := T15.setTop (mkF m 286 #[.val (.int p0), .val (.int p1), .val (.long p2), .second, .val (.int p3), .val (.int p4), .val (.int p5), .val (.int (Int32.ofNat nn)), .val (.int (p0 &&& (3 : Int32))), .val (.ref ms), .val (.int kI), .val (.int mI), .val (.int pI), .val (.long pat), .second, .val (.ref ar), .unset, .unset, .unset, .unset, .unset, .unset] [(.long pat), (.int (14 : Int32)), (.ref ar)])) (fun _ k_ => XS.lload X15.here hx rfl (Jvm.hb hby at_284) rfl k_) ?_
    obtain ⟨T16, L16, v16, X16, hQ16, st16⟩ := own_static X15 hx hZ hown (hw _ (List.mem_of_getElem? (i := 5) rfl)) (hw _ (List.mem_of_getElem? (i := 6) rfl)) (hw _ (List.mem_of_getElem? (i := 7) rfl)) (hw _ (List.mem_of_getElem? (i := 8) rfl)) (by decide) (rm_set l Z a0 hw [] ar 14 nn pat _ T15.heap n0 ZZ14 A_13 hnn (by omega) f_13 gr) (rfl : T15.heap = T15.heap) (g := (mkF m 286 #[.val (.int p0), .val (.int p1), .val (.long p2), .second, .val (.int p3), .val (.int p4), .val (.int p5), .val (.int (Int32.ofNat nn)), .val (.int (p0 &&& (3 : Int32))), .val (.ref ms), .val (.int kI), .val (.int mI), .val (.int pI), .val (.long pat), .second, .val (.ref ar), .unset, .unset, .unset, .unset, .unset, .unset] [(.long pat), (.int (14 : Int32)), (.ref ar)])) rfl (by rw [hml]; rfl) (argsL := [(.ref ar), (.int (14 : Int32)), (.long pat)]) (rest := []) (lenOf pd_d1 rfl) rfl (W := 0) (by show 2 * 0 + _ ≤ _; exact Nat.le_of_eq rfl) (Jvm.hb hby at_286) (by decide) (by decide) (by decide) (by decide)
    obtain ⟨rfl, Nq16, K_14, S_14, fu_14, A_14, f_14⟩ := hQ16
    have N16 := Fr.app N15 Nq16
    refine own_go (t' := T16.setTop (mkF m 289 #[.val (.int p0), .val (.int p1), .val (.long p2), .second, .val (.int p3), .val (.int p4), .val (.int p5), .val (.int (Int32.ofNat nn)), .val (.int (p0 &&& (3 : Int32))), .val (.ref ms), .val (.int kI), .val (.int mI), .val (.int pI), .val (.long pat), .second, .val (.ref ar), .unset, .unset, .unset, .unset, .unset, .unset] [])) st16 ?_
    have KK15 : Keep h0 T16.heap [] := KK14.trans K_14 har
    have SS15 : (∀ (C0 f0 d0 : String) (v0 : Value), Sta Z h0 C0 f0 d0 v0 → Sta Z T16.heap C0 f0 d0 v0) := fun _ _ _ _ q => S_14 _ _ _ _ (SS14 _ _ _ _ q)
    have ZZ15 : n0 ≤ T16.heap.size := Nat.le_trans ZZ14 K_14.1
    refine own_go (t' := T16.setTop (mkF m 291 #[.val (.int p0), .val (.int p1), .val (.long p2), .second, .val (.int p3), .val (.int p4), .val (.int p5), .val (.int (Int32.ofNat nn)), .val (.int (p0 &&& (3 : Int32))), .val (.ref ms), .val (.int kI), .val (.int mI), .val (.int pI), .val (.long pat), .second, .val (.ref ar), .unset, .unset, .unset, .unset, .unset, .unset] [(.ref ar)])) (fun _ k_ => XS.aload X16.here hx rfl (Jvm.hb hby at_289) rfl rfl k_) ?_
    refine own_go (t' := T16.setTop (mkF m 293 #[.val (.int p0), .val (.int p1), .val (.long p2), .second, .val (.int p3), .val (.int p4), .val (.int p5), .val (.int (Int32.ofNat nn)), .val (.int (p0 &&& (3 : Int32))), .val (.ref ms), .val (.int kI), .val (.int mI), .val (.int pI), .val (.long pat), .second, .val (.ref ar), .unset, .unset, .unset, .unset, .unset, .unset] [(.int (15 : Int32)), (.ref ar)])) (fun _ k_ => XS.bipush X16.here hx rfl (Jvm.hb hby at_291) k_) ?_
    refine own_go (t' := T16.setTop (mkF m 295 #[.val (.int p0), .val (.int p1), .val (.long p2), .second, .val (.int p3), .val (.int p4), .val (.int p5), .val (.int (Int32.ofNat nn)), .val (.int (p0 &&& (3 : Int32))), .val (.ref ms), .val (.int kI), .val (.int mI), .val (.int pI), .val (.long pat), .second, .val (.ref ar), .unset, .unset, .unset, .unset, .unset, .unset] [(.long pat), (.int (15 : Int32)), (.ref ar)])) (fun _ k_ => XS.lload X16.here hx rfl (Jvm.hb hby at_293) rfl k_) ?_
    obtain ⟨T17, L17, v17, X17, hQ17, st17⟩ := own_static X16 hx hZ hown (hw _ (List.mem_of_getElem? (i := 5) rfl)) (hw _ (List.mem_of_getElem? (i := 6) rfl)) (hw _ (List.mem_of_getElem? (i := 7) rfl)) (hw _ (List.mem_of_getElem? (i := 8) rfl)) (by decide) (rm_set l Z a0 hw [] ar 15 nn pat _ T16.heap n0 ZZ15 A_14 hnn (by omega) f_14 gr) (rfl : T16.heap = T16.heap) (g := (mkF m 295 #[.val (.int p0), .val (.int p1), .val (.long p2), .second, .val (.int p3), .val (.int p4), .val (.int p5), .val (.int (Int32.ofNat nn)), .val (.int (p0 &&& (3 : Int32))), .val (.ref ms), .val (.int kI), .val (.int mI), .val (.int pI), .val (.long pat), .second, .val (.ref ar), .unset, .unset, .unset, .unset, .unset, .unset] [(.long pat), (.int (15 : Int32)), (.ref ar)])) rfl (by rw [hml]; rfl) (argsL := [(.ref ar), (.int (15 : Int32)), (.long pat)]) (rest := []) (lenOf pd_d1 rfl) rfl (W := 0) (by show 2 * 0 + _ ≤ _; exact Nat.le_of_eq rfl) (Jvm.hb hby at_295) (by decide) (by decide) (by decide) (by decide)
    obtain ⟨rfl, Nq17, K_15, S_15, fu_15, A_15, f_15⟩ := hQ17
    have N17 := Fr.app N16 Nq17
    refine own_go (t' := T17.setTop (mkF m 298 #[.val (.int p0), .val (.int p1), .val (.long p2), .second, .val (.int p3), .val (.int p4), .val (.int p5), .val (.int (Int32.ofNat nn)), .val (.int (p0 &&& (3 : Int32))), .val (.ref ms), .val (.int kI), .val (.int mI), .val (.int pI), .val (.long pat), .second, .val (.ref ar), .unset, .unset, .unset, .unset, .unset, .unset] [])) st17 ?_
    have KK16 : Keep h0 T17.heap [] := KK15.trans K_15 har
    have SS16 : (∀ (C0 f0 d0 : String) (v0 : Value), Sta Z h0 C0 f0 d0 v0 → Sta Z T17.heap C0 f0 d0 v0) := fun _ _ _ _ q => S_15 _ _ _ _ (SS15 _ _ _ _ q)
    have ZZ16 : n0 ≤ T17.heap.size := Nat.le_trans ZZ15 K_15.1
    refine own_go (t' := T17.setTop (mkF m 300 #[.val (.int p0), .val (.int p1), .val (.long p2), .second, .val (.int p3), .val (.int p4), .val (.int p5), .val (.int (Int32.ofNat nn)), .val (.int (p0 &&& (3 : Int32))), .val (.ref ms), .val (.int kI), .val (.int mI), .val (.int pI), .val (.long pat), .second, .val (.ref ar), .unset, .unset, .unset, .unset, .unset, .unset] [(.ref ar)])) (fun _ k_ => XS.aload X17.here hx rfl (Jvm.hb hby at_298) rfl rfl k_) ?_
    refine own_go (t' := T17.setTop (mkF m 302 #[.val (.int p0), .val (.int p1), .val (.long p2), .second, .val (.int p3), .val (.int p4), .val (.int p5), .val (.int (Int32.ofNat nn)), .val (.int (p0 &&& (3 : Int32))), .val (.ref ms), .val (.int kI), .val (.int mI), .val (.int pI), .val (.long pat), .second, .val (.ref ar), .unset, .unset, .unset, .unset, .unset, .unset] [(.int (16 : Int32)), (.ref ar)])) (fun _ k_ => XS.bipush X17.here hx rfl (Jvm.hb hby at_300) k_) ?_
    refine own_go (t' := T17.setTop (mkF m 304 #[.val (.int p0), .val (.int p1), .val (.long p2), .second, .val (.int p3), .val (.int p4), .val (.int p5), .val (.int (Int32.ofNat nn)), .val (.int (p0 &&& (3 : Int32))), .val (.ref ms), .val (.int kI), .val (.int mI), .val (.int pI), .val (.long pat), .second, .val (.ref ar), .unset, .unset, .unset, .unset, .unset, .unset] [(.long pat), (.int (16 : Int32)), (.ref ar)])) (fun _ k_ => XS.lload X17.here hx rfl (Jvm.hb hby at_302) rfl k_) ?_
    obtain ⟨T18, L18, v18, X18, hQ18, st18⟩ := own_static X17 hx hZ hown (hw _ (List.mem_of_getElem? (i := 5) rfl)) (hw _ (List.mem_of_getElem? (i := 6) rfl)) (hw _ (List.mem_of_getElem? (i := 7) rfl)) (hw _ (List.mem_of_getElem? (i := 8) rfl)) (by decide) (rm_set l Z a0 hw [] ar 16 nn pat _ T17.heap n0 ZZ16 A_15 hnn (by omega) f_15 gr) (rfl : T17.heap = T17.heap) (g := (mkF m 304 #[.val (.int p0), .val (.int p1), .val (.long p2), .second, .val (.int p3), .val (.int p4), .val (.int p5), .val (.int (Int32.ofNat nn)), .val (.int (p0 &&& (3 : Int32))), .val (.ref ms), .val (.int kI), .val (.int mI), .val (.int pI), .val (.long pat), .second, .val (.ref ar), .unset, .unset, .unset, .unset, .unset, .unset] [(.long pat), (.int (16 : Int32)), (.ref ar)])) rfl (by rw [hml]; rfl) (argsL := [(.ref ar), (.int (16 : Int32)), (.long pat)]) (rest := []) (lenOf pd_d1 rfl) rfl (W := 0) (by show 2 * 0 + _ ≤ _; exact Nat.le_of_eq rfl) (Jvm.hb hby at_304) (by decide) (by decide) (by decide) (by decide)
    obtain ⟨rfl, Nq18, K_16, S_16, fu_16, A_16, f_16⟩ := hQ18
    have N18 := Fr.app N17 Nq18
    refine own_go (t' := T18.setTop (mkF m 307 #[.val (.int p0), .val (.int p1), .val (.long p2), .second, .val (.int p3), .val (.int p4), .val (.int p5), .val (.int (Int32.ofNat nn)), .val (.int (p0 &&& (3 : Int32))), .val (.ref ms), .val (.int kI), .val (.int mI), .val (.int pI), .val (.long pat), .second, .val (.ref ar), .unset, .unset, .unset, .unset, .unset, .unset] [])) st18 ?_
    have KK17 : Keep h0 T18.heap [] := KK16.trans K_16 har
    have SS17 : (∀ (C0 f0 d0 : String) (v0 : Value), Sta Z h0 C0 f0 d0 v0 → Sta Z T18.heap C0 f0 d0 v0) := fun _ _ _ _ q => S_16 _ _ _ _ (SS16 _ _ _ _ q)
    have ZZ17 : n0 ≤ T18.heap.size := Nat.le_trans ZZ16 K_16.1
    refine own_go (t' := T18.setTop (mkF m 309 #[.val (.int p0), .val (.int p1), .val (.long p2), .second, .val (.int p3), .val (.int p4), .val (.int p5), .val (.int (Int32.ofNat nn)), .val (.int (p0 &&& (3 : Int32))), .val (.ref ms), .val (.int kI), .val (.int mI), .val (.int pI), .val (.long pat), .second, .val (.ref ar), .unset, .unset, .unset, .unset, .unset, .unset] [(.ref ar)])) (fun _ k_ => XS.aload X18.here hx rfl (Jvm.hb hby at_307) rfl rfl k_) ?_
    refine own_go (t' := T18.setTop (mkF m 311 #[.val (.int p0), .val (.int p1), .val (.long p2), .second, .val (.int p3), .val (.int p4), .val (.int p5), .val (.int (Int32.ofNat nn)), .val (.int (p0 &&& (3 : Int32))), .val (.ref ms), .val (.int kI), .val (.int mI), .val (.int pI), .val (.long pat), .second, .val (.ref ar), .unset, .unset, .unset, .unset, .unset, .unset] [(.int (17 : Int32)), (.ref ar)])) (fun _ k_ => XS.bipush X18.here hx rfl (Jvm.hb hby at_309) k_) ?_
    refine own_go (t' := T18.setTop (mkF m 313 #[.val (.int p0), .val (.int p1), .val (.long p2), .second, .val (.int p3), .val (.int p4), .val (.int p5), .val (.int (Int32.ofNat nn)), .val (.int (p0 &&& (3 : Int32))), .val (.ref ms), .val (.int kI), .val (.int mI), .val (.int pI), .val (.long pat), .second, .val (.ref ar), .unset, .unset, .unset, .unset, .unset, .unset] [(.long pat), (.int (17 : Int32)), (.ref ar)])) (fun _ k_ => XS.lload X18.here hx rfl (Jvm.hb hby at_311) rfl k_) ?_
    obtain ⟨T19, L19, v19, X19, hQ19, st19⟩ := own_static X18 hx hZ hown (hw _ (List.mem_of_getElem? (i := 5) rfl)) (hw _ (List.mem_of_getElem? (i := 6) rfl)) (hw _ (List.mem_of_getElem? (i := 7) rfl)) (hw _ (List.mem_of_getElem? (i := 8) rfl)) (by decide) (rm_set l Z a0 hw [] ar 17 nn pat _ T18.heap n0 ZZ17 A_16 hnn (by omega) f_16 gr) (rfl : T18.heap = T18.heap) (g := (mkF m 313 #[.val (.int p0), .val (.int p1), .val (.long p2), .second, .val (.int p3), .val (.int p4), .val (.int p5), .val (.int (Int32.ofNat nn)), .val (.int (p0 &&& (3 : Int32))), .val (.ref ms), .val (.int kI), .val (.int mI), .val (.int pI), .val (.long pat), .second, .val (.ref ar), .unset, .unset, .unset, .unset, .unset, .unset] [(.long pat), (.int (17 : Int32)), (.ref ar)])) rfl (by rw [hml]; rfl) (argsL := [(.ref ar), (.int (17 : Int32)), (.long pat)]) (rest := []) (lenOf pd_d1 rfl) rfl (W := 0) (by show 2 * 0 + _ ≤ _; exact Nat.le_of_eq rfl) (Jvm.hb hby at_313) (by decide) (by decide) (by decide) (by decide)
    obtain ⟨rfl, Nq19, K_17, S_17, fu_17, A_17, f_17⟩ := hQ19
    have N19 := Fr.app N18 Nq19
    refine own_go (t' := T19.setTop (mkF m 316 #[.val (.int p0), .val (.int p1), .val (.long p2), .second, .val (.int p3), .val (.int p4), .val (.int p5), .val (.int (Int32.ofNat nn)), .val (.int (p0 &&& (3 : Int32))), .val (.ref ms), .val (.int kI), .val (.int mI), .val (.int pI), .val (.long pat), .second, .val (.ref ar), .unset, .unset, .unset, .unset, .unset, .unset] [])) st19 ?_
    have KK18 : Keep h0 T19.heap [] := KK17.trans K_17 har
    have SS18 : (∀ (C0 f0 d0 : String) (v0 : Value), Sta Z h0 C0 f0 d0 v0 → Sta Z T19.heap C0 f0 d0 v0) := fun _ _ _ _ q => S_17 _ _ _ _ (SS17 _ _ _ _ q)
    have ZZ18 : n0 ≤ T19.heap.size := Nat.le_trans ZZ17 K_17.1
    refine own_go (t' := T19.setTop (mkF m 318 #[.val (.int p0), .val (.int p1), .val (.long p2), .second, .val (.int p3), .val (.int p4), .val (.int p5), .val (.int (Int32.ofNat nn)), .val (.int (p0 &&& (3 : Int32))), .val (.ref ms), .val (.int kI), .val (.int mI), .val (.int pI), .val (.long pat), .second, .val (.ref ar), .unset, .unset, .unset, .unset, .unset, .unset] [(.ref ar)])) (fun _ k_ => XS.aload X19.here hx rfl (Jvm.hb hby at_316) rfl rfl k_) ?_
    refine own_go (t' := T19.setTop (mkF m 320 #[.val (.int p0), .val (.int p1), .val (.long p2), .second, .val (.int p3), .val (.int p4), .val (.int p5), .val (.int (Int32.ofNat nn)), .val (.int (p0 &&& (3 : Int32))), .val (.ref ms), .val (.int kI), .val (.int mI), .val (.int pI), .val (.long pat), .second, .val (.ref ar), .unset, .unset, .unset, .unset, .unset, .unset] [(.int (18 : Int32)), (.ref ar)])) (fun _ k_ => XS.bipush X19.here hx rfl (Jvm.hb hby at_318) k_) ?_
    refine own_go (t' := T19.setTop (mkF m 322 #[.val (.int p0), .val (.int p1), .val (.long p2), .second, .val (.int p3), .val (.int p4), .val (.int p5), .val (.int (Int32.ofNat nn)), .val (.int (p0 &&& (3 : Int32))), .val (.ref ms), .val (.int kI), .val (.int mI), .val (.int pI), .val (.long pat), .second, .val (.ref ar), .unset, .unset, .unset, .unset, .unset, .unset] [(.long pat), (.int (18 : Int32)), (.ref ar)])) (fun _ k_ => XS.lload X19.here hx rfl (Jvm.hb hby at_320) rfl k_) ?_
    obtain ⟨T20, L20, v20, X20, hQ20, st20⟩ := own_static X19 hx hZ hown (hw _ (List.mem_of_getElem? (i := 5) rfl)) (hw _ (List.mem_of_getElem? (i := 6) rfl)) (hw _ (List.mem_of_getElem? (i := 7) rfl)) (hw _ (List.mem_of_getElem? (i := 8) rfl)) (by decide) (rm_set l Z a0 hw [] ar 18 nn pat _ T19.heap n0 ZZ18 A_17 hnn (by omega) f_17 gr) (rfl : T19.heap = T19.heap) (g := (mkF m 322 #[.val (.int p0), .val (.int p1), .val (.long p2), .second, .val (.int p3), .val (.int p4), .val (.int p5), .val (.int (Int32.ofNat nn)), .val (.int (p0 &&& (3 : Int32))), .val (.ref ms), .val (.int kI), .val (.int mI), .val (.int pI), .val (.long pat), .second, .val (.ref ar), .unset, .unset, .unset, .unset, .unset, .unset] [(.long pat), (.int (18 : Int32)), (.ref ar)])) rfl (by rw [hml]; rfl) (argsL := [(.ref ar), (.int (18 : Int32)), (.long pat)]) (rest := []) (lenOf pd_d1 rfl) rfl (W := 0) (by show 2 * 0 + _ ≤ _; exact Nat.le_of_eq rfl) (Jvm.hb hby at_322) (by decide) (by decide) (by decide) (by decide)
    obtain ⟨rfl, Nq20, K_18, S_18, fu_18, A_18, f_18⟩ := hQ20
    have N20 := Fr.app N19 Nq20
    refine own_go (t' := T20.setTop (mkF m 325 #[.val (.int p0), .val (.int p1), .val (.long p2), .second, .val (.int p3), .val (.int p4), .val (.int p5), .val (.int (Int32.ofNat nn)), .val (.int (p0 &&& (3 : Int32))), .val (.ref ms), .val (.int kI), .val (.int mI), .val (.int pI), .val (.long pat), .second, .val (.ref ar), .unset, .unset, .unset, .unset, .unset, .unset] [])) st20 ?_
    have KK19 : Keep h0 T20.heap [] := KK18.trans K_18 har
    have SS19 : (∀ (C0 f0 d0 : String) (v0 : Value), Sta Z h0 C0 f0 d0 v0 → Sta Z T20.heap C0 f0 d0 v0) := fun _ _ _ _ q => S_18 _ _ _ _ (SS18 _ _ _ _ q)
    have ZZ19 : n0 ≤ T20.heap.size := Nat.le_trans ZZ18 K_18.1
    refine own_go (t' := T20.setTop (mkF m 327 #[.val (.int p0), .val (.int p1), .val (.long p2), .second, .val (.int p3), .val (.int p4), .val (.int p5), .val (.int (Int32.ofNat nn)), .val (.int (p0 &&& (3 : Int32))), .val (.ref ms), .val (.int kI), .val (.int mI), .val (.int pI), .val (.long pat), .second, .val (.ref ar), .unset, .unset, .unset, .unset, .unset, .unset] [(.ref ar)])) (fun _ k_ => XS.aload X20.here hx rfl (Jvm.hb hby at_325) rfl rfl k_) ?_
    refine own_go (t' := T20.setTop (mkF m 329 #[.val (.int p0), .val (.int p1), .val (.long p2), .second, .val (.int p3), .val (.int p4), .val (.int p5), .val (.int (Int32.ofNat nn)), .val (.int (p0 &&& (3 : Int32))), .val (.ref ms), .val (.int kI), .val (.int mI), .val (.int pI), .val (.long pat), .second, .val (.ref ar), .unset, .unset, .unset, .unset, .unset, .unset] [(.int (19 : Int32)), (.ref ar)])) (fun _ k_ => XS.bipush X20.here hx rfl (Jvm.hb hby at_327) k_) ?_
    refine own_go (t' := T20.setTop (mkF m 331 #[.val (.int p0), .val (.int p1), .val (.long p2), .second, .val (.int p3), .val (.int p4), .val (.int p5), .val (.int (Int32.ofNat nn)), .val (.int (p0 &&& (3 : Int32))), .val (.ref ms), .val (.int kI), .val (.int mI), .val (.int pI), .val (.long pat), .second, .val (.ref ar), .unset, .unset, .unset, .unset, .unset, .unset] [(.long pat), (.int (19 : Int32)), (.ref ar)])) (fun _ k_ => XS.lload X20.here hx rfl (Jvm.hb hby at_329) rfl k_) ?_
    obtain ⟨T21, L21, v21, X21, hQ21, st21⟩ := own_static X20 hx hZ hown (hw _ (List.mem_of_getElem? (i := 5) rfl)) (hw _ (List.mem_of_getElem? (i := 6) rfl)) (hw _ (List.mem_of_getElem? (i := 7) rfl)) (hw _ (List.mem_of_getElem? (i := 8) rfl)) (by decide) (rm_set l Z a0 hw [] ar 19 nn pat _ T20.heap n0 ZZ19 A_18 hnn (by omega) f_18 gr) (rfl : T20.heap = T20.heap) (g := (mkF m 331 #[.val (.int p0), .val (.int p1), .val (.long p2), .second, .val (.int p3), .val (.int p4), .val (.int p5), .val (.int (Int32.ofNat nn)), .val (.int (p0 &&& (3 : Int32))), .val (.ref ms), .val (.int kI), .val (.int mI), .val (.int pI), .val (.long pat), .second, .val (.ref ar), .unset, .unset, .unset, .unset, .unset, .unset] [(.long pat), (.int (19 : Int32)), (.ref ar)])) rfl (by rw [hml]; rfl) (argsL := [(.ref ar), (.int (19 : Int32)), (.long pat)]) (rest := []) (lenOf pd_d1 rfl) rfl (W := 0) (by show 2 * 0 + _ ≤ _; exact Nat.le_of_eq rfl) (Jvm.hb hby at_331) (by decide) (by decide) (by decide) (by decide)
    obtain ⟨rfl, Nq21, K_19, S_19, fu_19, A_19, f_19⟩ := hQ21
    have N21 := Fr.app N20 Nq21
    refine own_go (t' := T21.setTop (mkF m 334 #[.val (.int p0), .val (.int p1), .val (.long p2), .second, .val (.int p3), .val (.int p4), .val (.int p5), .val (.int (Int32.ofNat nn)), .val (.int (p0 &&& (3 : Int32))), .val (.ref ms), .val (.int kI), .val (.int mI), .val (.int pI), .val (.long pat), .second, .val (.ref ar), .unset, .unset, .unset, .unset, .unset, .unset] [])) st21 ?_
    have KK20 : Keep h0 T21.heap [] := KK19.trans K_19 har
    have SS20 : (∀ (C0 f0 d0 : String) (v0 : Value), Sta Z h0 C0 f0 d0 v0 → Sta Z T21.heap C0 f0 d0 v0) := fun _ _ _ _ q => S_19 _ _ _ _ (SS19 _ _ _ _ q)
    have ZZ20 : n0 ≤ T21.heap.size := Nat.le_trans ZZ19 K_19.1
    refine own_go (t' := T21.setTop (mkF m 336 #[.val (.int p0), .val (.int p1), .val (.long p2), .second, .val (.int p3), .val (.int p4), .val (.int p5), .val (.int (Int32.ofNat nn)), .val (.int (p0 &&& (3 : Int32))), .val (.ref ms), .val (.int kI), .val (.int mI), .val (.int pI), .val (.long pat), .second, .val (.ref ar), .unset, .unset, .unset, .unset, .unset, .unset] [(.ref ar)])) (fun _ k_ => XS.aload X21.here hx rfl (Jvm.hb hby at_334) rfl rfl k_) ?_
    refine own_go (t' := T21.setTop (mkF m 338 #[.val (.int p0), .val (.int p1), .val (.long p2), .second, .val (.int p3), .val (.int p4), .val (.int p5), .val (.int (Int32.ofNat nn)), .val (.int (p0 &&& (3 : Int32))), .val (.ref ms), .val (.int kI), .val (.int mI), .val (.int pI), .val (.long pat), .second, .val (.ref ar), .unset, .unset, .unset, .unset, .unset, .unset] [(.int (20 : Int32)), (.ref ar)])) (fun _ k_ => XS.bipush X21.here hx rfl (Jvm.hb hby at_336) k_) ?_
    refine own_go (t' := T21.setTop (mkF m 340 #[.val (.int p0), .val (.int p1), .val (.long p2), .second, .val (.int p3), .val (.int p4), .val (.int p5), .val (.int (Int32.ofNat nn)), .val (.int (p0 &&& (3 : Int32))), .val (.ref ms), .val (.int kI), .val (.int mI), .val (.int pI), .val (.long pat), .second, .val (.ref ar), .unset, .unset, .unset, .unset, .unset, .unset] [(.long pat), (.int (20 : Int32)), (.ref ar)])) (fun _ k_ => XS.lload X21.here hx rfl (Jvm.hb hby at_338) rfl k_) ?_
    obtain ⟨T22, L22, v22, X22, hQ22, st22⟩ := own_static X21 hx hZ hown (hw _ (List.mem_of_getElem? (i := 5) rfl)) (hw _ (List.mem_of_getElem? (i := 6) rfl)) (hw _ (List.mem_of_getElem? (i := 7) rfl)) (hw _ (List.mem_of_getElem? (i := 8) rfl)) (by decide) (rm_set l Z a0 hw [] ar 20 nn pat _ T21.heap n0 ZZ20 A_19 hnn (by omega) f_19 gr) (rfl : T21.heap = T21.heap) (g := (mkF m 340 #[.val (.int p0), .val (.int p1), .val (.long p2), .second, .val (.int p3), .val (.int p4), .val (.int p5), .val (.int (Int32.ofNat nn)), .val (.int (p0 &&& (3 : Int32))), .val (.ref ms), .val (.int kI), .val (.int mI), .val (.int pI), .val (.long pat), .second, .val (.ref ar), .unset, .unset, .unset, .unset, .unset, .unset] [(.long pat), (.int (20 : Int32)), (.ref ar)])) rfl (by rw [hml]; rfl) (argsL := [(.ref ar), (.int (20 : Int32)), (.long pat)]) (rest := []) (lenOf pd_d1 rfl) rfl (W := 0) (by show 2 * 0 + _ ≤ _; exact Nat.le_of_eq rfl) (Jvm.hb hby at_340) (by decide) (by decide) (by decide) (by decide)
    obtain ⟨rfl, Nq22, K_20, S_20, fu_20, A_20, f_20⟩ := hQ22
    have N22 := Fr.app N21 Nq22
    refine own_go (t' := T22.setTop (mkF m 343 #[.val (.int p0), .val (.int p1), .val (.long p2), .second, .val (.int p3), .val (.int p4), .val (.int p5), .val (.int (Int32.ofNat nn)), .val (.int (p0 &&& (3 : Int32))), .val (.ref ms), .val (.int kI), .val (.int mI), .val (.int pI), .val (.long pat), .second, .val (.ref ar), .unset, .unset, .unset, .unset, .unset, .unset] [])) st22 ?_
    have KK21 : Keep h0 T22.heap [] := KK20.trans K_20 har
    have SS21 : (∀ (C0 f0 d0 : String) (v0 : Value), Sta Z h0 C0 f0 d0 v0 → Sta Z T22.heap C0 f0 d0 v0) := fun _ _ _ _ q => S_20 _ _ _ _ (SS20 _ _ _ _ q)
    have ZZ21 : n0 ≤ T22.heap.size := Nat.le_trans ZZ20 K_20.1
    refine own_go (t' := T22.setTop (mkF m 345 #[.val (.int p0), .val (.int p1), .val (.long p2), .second, .val (.int p3), .val (.int p4), .val (.int p5), .val (.int (Int32.ofNat nn)), .val (.int (p0 &&& (3 : Int32))), .val (.ref ms), .val (.int kI), .val (.int mI), .val (.int pI), .val (.long pat), .second, .val (.ref ar), .unset, .unset, .unset, .unset, .unset, .unset] [(.ref ar)])) (fun _ k_ => XS.aload X22.here hx rfl (Jvm.hb hby at_343) rfl rfl k_) ?_
    refine own_go (t' := T22.setTop (mkF m 347 #[.val (.int p0), .val (.int p1), .val (.long p2), .second, .val (.int p3), .val (.int p4), .val (.int p5), .val (.int (Int32.ofNat nn)), .val (.int (p0 &&& (3 : Int32))), .val (.ref ms), .val (.int kI), .val (.int mI), .val (.int pI), .val (.long pat), .second, .val (.ref ar), .unset, .unset, .unset, .unset, .unset, .unset] [(.int (21 : Int32)), (.ref ar)])) (fun _ k_ => XS.bipush X22.here hx rfl (Jvm.hb hby at_345) k_) ?_
    refine own_go (t' := T22.setTop (mkF m 349 #[.val (.int p0), .val (.int p1), .val (.long p2), .second, .val (.int p3), .val (.int p4), .val (.int p5), .val (.int (Int32.ofNat nn)), .val (.int (p0 &&& (3 : Int32))), .val (.ref ms), .val (.int kI), .val (.int mI), .val (.int pI), .val (.long pat), .second, .val (.ref ar), .unset, .unset, .unset, .unset, .unset, .unset] [(.long pat), (.int (21 : Int32)), (.ref ar)])) (fun _ k_ => XS.lload X22.here hx rfl (Jvm.hb hby at_347) rfl k_) ?_
    obtain ⟨T23, L23, v23, X23, hQ23, st23⟩ := own_static X22 hx hZ hown (hw _ (List.mem_of_getElem? (i := 5) rfl)) (hw _ (List.mem_of_getElem? (i := 6) rfl)) (hw _ (List.mem_of_getElem? (i := 7) rfl)) (hw _ (List.mem_of_getElem? (i := 8) rfl)) (by decide) (rm_set l Z a0 hw [] ar 21 nn pat _ T22.heap n0 ZZ21 A_20 hnn (by omega) f_20 gr) (rfl : T22.heap = T22.heap) (g := (mkF m 349 #[.val (.int p0), .val (.int p1), .val (.long p2), .second, .val (.int p3), .val (.int p4), .val (.int p5), .val (.int (Int32.ofNat nn)), .val (.int (p0 &&& (3 : Int32))), .val (.ref ms), .val (.int kI), .val (.int mI), .val (.int pI), .val (.long pat), .second, .val (.ref ar), .unset, .unset, .unset, .unset, .unset, .unset] [(.long pat), (.int (21 : Int32)), (.ref ar)])) rfl (by rw [hml]; rfl) (argsL := [(.ref ar), (.int (21 : Int32)), (.long pat)]) (rest := []) (lenOf pd_d1 rfl) rfl (W := 0) (by show 2 * 0 + _ ≤ _; exact Nat.le_of_eq rfl) (Jvm.hb hby at_349) (by decide) (by decide) (by decide) (by decide)
    obtain ⟨rfl, Nq23, K_21, S_21, fu_21, A_21, f_21⟩ := hQ23
    have N23 := Fr.app N22 Nq23
    refine own_go (t' := T23.setTop (mkF m 352 #[.val (.int p0), .val (.int p1), .val (.long p2), .second, .val (.int p3), .val (.int p4), .val (.int p5), .val (.int (Int32.ofNat nn)), .val (.int (p0 &&& (3 : Int32))), .val (.ref ms), .val (.int kI), .val (.int mI), .val (.int pI), .val (.long pat), .second, .val (.ref ar), .unset, .unset, .unset, .unset, .unset, .unset] [])) st23 ?_
    have KK22 : Keep h0 T23.heap [] := KK21.trans K_21 har
    have SS22 : (∀ (C0 f0 d0 : String) (v0 : Value), Sta Z h0 C0 f0 d0 v0 → Sta Z T23.heap C0 f0 d0 v0) := fun _ _ _ _ q => S_21 _ _ _ _ (SS21 _ _ _ _ q)
    have ZZ22 : n0 ≤ T23.heap.size := Nat.le_trans ZZ21 K_21.1
    refine own_go (t' := T23.setTop (mkF m 354 #[.val (.int p0), .val (.int p1), .val (.long p2), .second, .val (.int p3), .val (.int p4), .val (.int p5), .val (.int (Int32.ofNat nn)), .val (.int (p0 &&& (3 : Int32))), .val (.ref ms), .val (.int kI), .val (.int mI), .val (.int pI), .val (.long pat), .second, .val (.ref ar), .unset, .unset, .unset, .unset, .unset, .unset] [(.ref ar)])) (fun _ k_ => XS.aload X23.here hx rfl (Jvm.hb hby at_352) rfl rfl k_) ?_
    refine own_go (t' := T23.setTop (mkF m 356 #[.val (.int p0), .val (.int p1), .val (.long p2), .second, .val (.int p3), .val (.int p4), .val (.int p5), .val (.int (Int32.ofNat nn)), .val (.int (p0 &&& (3 : Int32))), .val (.ref ms), .val (.int kI), .val (.int mI), .val (.int pI), .val (.long pat), .second, .val (.ref ar), .unset, .unset, .unset, .unset, .unset, .unset] [(.int (22 : Int32)), (.ref ar)])) (fun _ k_ => XS.bipush X23.here hx rfl (Jvm.hb hby at_354) k_) ?_
    refine own_go (t' := T23.setTop (mkF m 358 #[.val (.int p0), .val (.int p1), .val (.long p2), .second, .val (.int p3), .val (.int p4), .val (.int p5), .val (.int (Int32.ofNat nn)), .val (.int (p0 &&& (3 : Int32))), .val (.ref ms), .val (.int kI), .val (.int mI), .val (.int pI), .val (.long pat), .second, .val (.ref ar), .unset, .unset, .unset, .unset, .unset, .unset] [(.long pat), (.int (22 : Int32)), (.ref ar)])) (fun _ k_ => XS.lload X23.here hx rfl (Jvm.hb hby at_356) rfl k_) ?_
    obtain ⟨T24, L24, v24, X24, hQ24, st24⟩ := own_static X23 hx hZ hown (hw _ (List.mem_of_getElem? (i := 5) rfl)) (hw _ (List.mem_of_getElem? (i := 6) rfl)) (hw _ (List.mem_of_getElem? (i := 7) rfl)) (hw _ (List.mem_of_getElem? (i := 8) rfl)) (by decide) (rm_set l Z a0 hw [] ar 22 nn pat _ T23.heap n0 ZZ22 A_21 hnn (by omega) f_21 gr) (rfl : T23.heap = T23.heap) (g := (mkF m 358 #[.val (.int p0), .val (.int p1), .val (.long p2), .second, .val (.int p3), .val (.int p4), .val (.int p5), .val (.int (Int32.ofNat nn)), .val (.int (p0 &&& (3 : Int32))), .val (.ref ms), .val (.int kI), .val (.int mI), .val (.int pI), .val (.long pat), .second, .val (.ref ar), .unset, .unset, .unset, .unset, .unset, .unset] [(.long pat), (.int (22 : Int32)), (.ref ar)])) rfl (by rw [hml]; rfl) (argsL := [(.ref ar), (.int (22 : Int32)), (.long pat)]) (rest := []) (lenOf pd_d1 rfl) rfl (W := 0) (by show 2 * 0 + _ ≤ _; exact Nat.le_of_eq rfl) (Jvm.hb hby at_358) (by decide) (by decide) (by decide) (by decide)
    obtain ⟨rfl, Nq24, K_22, S_22, fu_22, A_22, f_22⟩ := hQ24
    have N24 := Fr.app N23 Nq24
    refine own_go (t' := T24.setTop (mkF m 361 #[.val (.int p0), .val (.int p1), .val (.long p2), .second, .val (.int p3), .val (.int p4), .val (.int p5), .val (.int (Int32.ofNat nn)), .val (.int (p0 &&& (3 : Int32))), .val (.ref ms), .val (.int kI), .val (.int mI), .val (.int pI), .val (.long pat), .second, .val (.ref ar), .unset, .unset, .unset, .unset, .unset, .unset] [])) st24 ?_
    have KK23 : Keep h0 T24.heap [] := KK22.trans K_22 har
    have SS23 : (∀ (C0 f0 d0 : String) (v0 : Value), Sta Z h0 C0 f0 d0 v0 → Sta Z T24.heap C0 f0 d0 v0) := fun _ _ _ _ q => S_22 _ _ _ _ (SS22 _ _ _ _ q)
    have ZZ23 : n0 ≤ T24.heap.size := Nat.le_trans ZZ22 K_22.1
    refine own_go (t' := T24.setTop (mkF m 363 #[.val (.int p0), .val (.int p1), .val (.long p2), .second, .val (.int p3), .val (.int p4), .val (.int p5), .val (.int (Int32.ofNat nn)), .val (.int (p0 &&& (3 : Int32))), .val (.ref ms), .val (.int kI), .val (.int mI), .val (.int pI), .val (.long pat), .second, .val (.ref ar), .unset, .unset, .unset, .unset, .unset, .unset] [(.ref ar)])) (fun _ k_ => XS.aload X24.here hx rfl (Jvm.hb hby at_361) rfl rfl k_) ?_
    refine own_go (t' := T24.setTop (mkF m 365 #[.val (.int p0), .val (.int p1), .val (.long p2), .second, .val (.int p3), .val (.int p4), .val (.int p5), .val (.int (Int32.ofNat nn)), .val (.int (p0 &&& (3 : Int32))), .val (.ref ms), .val (.int kI), .val (.int mI), .val (.int pI), .val (.long pat), .second, .val (.ref ar), .unset, .unset, .unset, .unset, .unset, .unset] [(.int (23 : Int32)), (.ref ar)])) (fun _ k_ => XS.bipush X24.here hx rfl (Jvm.hb hby at_363) k_) ?_
    refine own_go (t' := T24.setTop (mkF m 367 #[.val (.int p0), .val (.int p1), .val (.long p2), .second, .val (.int p3), .val (.int p4), .val (.int p5), .val (.int (Int32.ofNat nn)), .val (.int (p0 &&& (3 : Int32))), .val (.ref ms), .val (.int kI), .val (.int mI), .val (.int pI), .val (.long pat), .second, .val (.ref ar), .unset, .unset, .unset, .unset, .unset, .unset] [(.long pat), (.int (23 : Int32)), (.ref ar)])) (fun _ k_ => XS.lload X24.here hx rfl (Jvm.hb hby at_365) rfl k_) ?_
    obtain ⟨T25, L25, v25, X25, hQ25, st25⟩ := own_static X24 hx hZ hown (hw _ (List.mem_of_getElem? (i := 5) rfl)) (hw _ (List.mem_of_getElem? (i := 6) rfl)) (hw _ (List.mem_of_getElem? (i := 7) rfl)) (hw _ (List.mem_of_getElem? (i := 8) rfl)) (by decide) (rm_set l Z a0 hw [] ar 23 nn pat _ T24.heap n0 ZZ23 A_22 hnn (by omega) f_22 gr) (rfl : T24.heap = T24.heap) (g := (mkF m 367 #[.val (.int p0), .val (.int p1), .val (.long p2), .second, .val (.int p3), .val (.int p4), .val (.int p5), .val (.int (Int32.ofNat nn)), .val (.int (p0 &&& (3 : Int32))), .val (.ref ms), .val (.int kI), .val (.int mI), .val (.int pI), .val (.long pat), .second, .val (.ref ar), .unset, .unset, .unset, .unset, .unset, .unset] [(.long pat), (.int (23 : Int32)), (.ref ar)])) rfl (by rw [hml]; rfl) (argsL := [(.ref ar), (.int (23 : Int32)), (.long pat)]) (rest := []) (lenOf pd_d1 rfl) rfl (W := 0) (by show 2 * 0 + _ ≤ _; exact Nat.le_of_eq rfl) (Jvm.hb hby at_367) (by decide) (by decide) (by decide) (by decide)
    obtain ⟨rfl, Nq25, K_23, S_23, fu_23, A_23, f_23⟩ := hQ25
    have N25 := Fr.app N24 Nq25
    refine own_go (t' := T25.setTop (mkF m 370 #[.val (.int p0), .val (.int p1), .val (.long p2), .second, .val (.int p3), .val (.int p4), .val (.int p5), .val (.int (Int32.ofNat nn)), .val (.int (p0 &&& (3 : Int32))), .val (.ref ms), .val (.int kI), .val (.int mI), .val (.int pI), .val (.long pat), .second, .val (.ref ar), .unset, .unset, .unset, .unset, .unset, .unset] [])) st25 ?_
    have KK24 : Keep h0 T25.heap [] := KK23.trans K_23 har
    have SS24 : (∀ (C0 f0 d0 : String) (v0 : Value), Sta Z h0 C0 f0 d0 v0 → Sta Z T25.heap C0 f0 d0 v0) := fun _ _ _ _ q => S_23 _ _ _ _ (SS23 _ _ _ _ q)
    have ZZ24 : n0 ≤ T25.heap.size := Nat.le_trans ZZ23 K_23.1
    refine own_go (t' := T25.setTop (mkF m 372 #[.val (.int p0), .val (.int p1), .val (.long p2), .second, .val (.int p3), .val (.int p4), .val (.int p5), .val (.int (Int32.ofNat nn)), .val (.int (p0 &&& (3 : Int32))), .val (.ref ms), .val (.int kI), .val (.int mI), .val (.int pI), .val (.long pat), .second, .val (.ref ar), .unset, .unset, .unset, .unset, .unset, .unset] [(.ref ar)])) (fun _ k_ => XS.aload X25.here hx rfl (Jvm.hb hby at_370) rfl rfl k_) ?_
    refine own_go (t' := T25.setTop (mkF m 374 #[.val (.int p0), .val (.int p1), .val (.long p2), .second, .val (.int p3), .val (.int p4), .val (.int p5), .val (.int (Int32.ofNat nn)), .val (.int (p0 &&& (3 : Int32))), .val (.ref ms), .val (.int kI), .val (.int mI), .val (.int pI), .val (.long pat), .second, .val (.ref ar), .unset, .unset, .unset, .unset, .unset, .unset] [(.int (24 : Int32)), (.ref ar)])) (fun _ k_ => XS.bipush X25.here hx rfl (Jvm.hb hby at_372) k_) ?_
    refine own_go (t' := T25.setTop (mkF m 376 #[.val (.int p0), .val (.int p1), .val (.long p2), .second, .val (.int p3), .val (.int p4), .val (.int p5), .val (.int (Int32.ofNat nn)), .val (.int (p0 &&& (3 : Int32))), .val (.ref ms), .val (.int kI), .val (.int mI), .val (.int pI), .val (.long pat), .second, .val (.ref ar), .unset, .unset, .unset, .unset, .unset, .unset] [(.long pat), (.int (24 : Int32)), (.ref ar)])) (fun _ k_ => XS.lload X25.here hx rfl (Jvm.hb hby at_374) rfl k_) ?_
    obtain ⟨T26, L26, v26, X26, hQ26, st26⟩ := own_static X25 hx hZ hown (hw _ (List.mem_of_getElem? (i := 5) rfl)) (hw _ (List.mem_of_getElem? (i := 6) rfl)) (hw _ (List.mem_of_getElem? (i := 7) rfl)) (hw _ (List.mem_of_getElem? (i := 8) rfl)) (by decide) (rm_set l Z a0 hw [] ar 24 nn pat _ T25.heap n0 ZZ24 A_23 hnn (by omega) f_23 gr) (rfl : T25.heap = T25.heap) (g := (mkF m 376 #[.val (.int p0), .val (.int p1), .val (.long p2), .second, .val (.int p3), .val (.int p4), .val (.int p5), .val (.int (Int32.ofNat nn)), .val (.int (p0 &&& (3 : Int32))), .val (.ref ms), .val (.int kI), .val (.int mI), .val (.int pI), .val (.long pat), .second, .val (.ref ar), .unset, .unset, .unset, .unset, .unset, .unset] [(.long pat), (.int (24 : Int32)), (.ref ar)])) rfl (by rw [hml]; rfl) (argsL := [(.ref ar), (.int (24 : Int32)), (.long pat)]) (rest := []) (lenOf pd_d1 rfl) rfl (W := 0) (by show 2 * 0 + _ ≤ _; exact Nat.le_of_eq rfl) (Jvm.hb hby at_376) (by decide) (by decide) (by decide) (by decide)
    obtain ⟨rfl, Nq26, K_24, S_24, fu_24, A_24, f_24⟩ := hQ26
    have N26 := Fr.app N25 Nq26
    refine own_go (t' := T26.setTop (mkF m 379 #[.val (.int p0), .val (.int p1), .val (.long p2), .second, .val (.int p3), .val (.int p4), .val (.int p5), .val (.int (Int32.ofNat nn)), .val (.int (p0 &&& (3 : Int32))), .val (.ref ms), .val (.int kI), .val (.int mI), .val (.int pI), .val (.long pat), .second, .val (.ref ar), .unset, .unset, .unset, .unset, .unset, .unset] [])) st26 ?_
    have KK25 : Keep h0 T26.heap [] := KK24.trans K_24 har
    have SS25 : (∀ (C0 f0 d0 : String) (v0 : Value), Sta Z h0 C0 f0 d0 v0 → Sta Z T26.heap C0 f0 d0 v0) := fun _ _ _ _ q => S_24 _ _ _ _ (SS24 _ _ _ _ q)
    have ZZ25 : n0 ≤ T26.heap.size := Nat.le_trans ZZ24 K_24.1
    refine own_go (t' := T26.setTop (mkF m 381 #[.val (.int p0), .val (.int p1), .val (.long p2), .second, .val (.int p3), .val (.int p4), .val (.int p5), .val (.int (Int32.ofNat nn)), .val (.int (p0 &&& (3 : Int32))), .val (.ref ms), .val (.int kI), .val (.int mI), .val (.int pI), .val (.long pat), .second, .val (.ref ar), .unset, .unset, .unset, .unset, .unset, .unset] [(.ref ar)])) (fun _ k_ => XS.aload X26.here hx rfl (Jvm.hb hby at_379) rfl rfl k_) ?_
    refine own_go (t' := T26.setTop (mkF m 383 #[.val (.int p0), .val (.int p1), .val (.long p2), .second, .val (.int p3), .val (.int p4), .val (.int p5), .val (.int (Int32.ofNat nn)), .val (.int (p0 &&& (3 : Int32))), .val (.ref ms), .val (.int kI), .val (.int mI), .val (.int pI), .val (.long pat), .second, .val (.ref ar), .unset, .unset, .unset, .unset, .unset, .unset] [(.int (25 : Int32)), (.ref ar)])) (fun _ k_ => XS.bipush X26.here hx rfl (Jvm.hb hby at_381) k_) ?_
    refine own_go (t' := T26.setTop (mkF m 385 #[.val (.int p0), .val (.int p1), .val (.long p2), .second, .val (.int p3), .val (.int p4), .val (.int p5), .val (.int (Int32.ofNat nn)), .val (.int (p0 &&& (3 : Int32))), .val (.ref ms), .val (.int kI), .val (.int mI), .val (.int pI), .val (.long pat), .second, .val (.ref ar), .unset, .unset, .unset, .unset, .unset, .unset] [(.long pat), (.int (25 : Int32)), (.ref ar)])) (fun _ k_ => XS.lload X26.here hx rfl (Jvm.hb hby at_383) rfl k_) ?_
    obtain ⟨T27, L27, v27, X27, hQ27, st27⟩ := own_static X26 hx hZ hown (hw _ (List.mem_of_getElem? (i := 5) rfl)) (hw _ (List.mem_of_getElem? (i := 6) rfl)) (hw _ (List.mem_of_getElem? (i := 7) rfl)) (hw _ (List.mem_of_getElem? (i := 8) rfl)) (by decide) (rm_set l Z a0 hw [] ar 25 nn pat _ T26.heap n0 ZZ25 A_24 hnn (by omega) f_24 gr) (rfl : T26.heap = T26.heap) (g := (mkF m 385 #[.val (.int p0), .val (.int p1), .val (.long p2), .second, .val (.int p3), .val (.int p4), .val (.int p5), .val (.int (Int32.ofNat nn)), .val (.int (p0 &&& (3 : Int32))), .val (.ref ms), .val (.int kI), .val (.int mI), .val (.int pI), .val (.long pat), .second, .val (.ref ar), .unset, .unset, .unset, .unset, .unset, .unset] [(.long pat), (.int (25 : Int32)), (.ref ar)])) rfl (by rw [hml]; rfl) (argsL := [(.ref ar), (.int (25 : Int32)), (.long pat)]) (rest := []) (lenOf pd_d1 rfl) rfl (W := 0) (by show 2 * 0 + _ ≤ _; exact Nat.le_of_eq rfl) (Jvm.hb hby at_385) (by decide) (by decide) (by decide) (by decide)
    obtain ⟨rfl, Nq27, K_25, S_25, fu_25, A_25, f_25⟩ := hQ27
    have N27 := Fr.app N26 Nq27
    refine own_go (t' := T27.setTop (mkF m 388 #[.val (.int p0), .val (.int p1), .val (.long p2), .second, .val (.int p3), .val (.int p4), .val (.int p5), .val (.int (Int32.ofNat nn)), .val (.int (p0 &&& (3 : Int32))), .val (.ref ms), .val (.int kI), .val (.int mI), .val (.int pI), .val (.long pat), .second, .val (.ref ar), .unset, .unset, .unset, .unset, .unset, .unset] [])) st27 ?_
    have KK26 : Keep h0 T27.heap [] := KK25.trans K_25 har
    have SS26 : (∀ (C0 f0 d0 : String) (v0 : Value), Sta Z h0 C0 f0 d0 v0 → Sta Z T27.heap C0 f0 d0 v0) := fun _ _ _ _ q => S_25 _ _ _ _ (SS25 _ _ _ _ q)
    have ZZ26 : n0 ≤ T27.heap.size := Nat.le_trans ZZ25 K_25.1
    refine own_go (t' := T27.setTop (mkF m 390 #[.val (.int p0), .val (.int p1), .val (.long p2), .second, .val (.int p3), .val (.int p4), .val (.int p5), .val (.int (Int32.ofNat nn)), .val (.int (p0 &&& (3 : Int32))), .val (.ref ms), .val (.int kI), .val (.int mI), .val (.int pI), .val (.long pat), .second, .val (.ref ar), .unset, .unset, .unset, .unset, .unset, .unset] [(.ref ar)])) (fun _ k_ => XS.aload X27.here hx rfl (Jvm.hb hby at_388) rfl rfl k_) ?_
    refine own_go (t' := T27.setTop (mkF m 392 #[.val (.int p0), .val (.int p1), .val (.long p2), .second, .val (.int p3), .val (.int p4), .val (.int p5), .val (.int (Int32.ofNat nn)), .val (.int (p0 &&& (3 : Int32))), .val (.ref ms), .val (.int kI), .val (.int mI), .val (.int pI), .val (.long pat), .second, .val (.ref ar), .unset, .unset, .unset, .unset, .unset, .unset] [(.int (26 : Int32)), (.ref ar)])) (fun _ k_ => XS.bipush X27.here hx rfl (Jvm.hb hby at_390) k_) ?_
    refine own_go (t' := T27.setTop (mkF m 394 #[.val (.int p0), .val (.int p1), .val (.long p2), .second, .val (.int p3), .val (.int p4), .val (.int p5), .val (.int (Int32.ofNat nn)), .val (.int (p0 &&& (3 : Int32))), .val (.ref ms), .val (.int kI), .val (.int mI), .val (.int pI), .val (.long pat), .second, .val (.ref ar), .unset, .unset, .unset, .unset, .unset, .unset] [(.long pat), (.int (26 : Int32)), (.ref ar)])) (fun _ k_ => XS.lload X27.here hx rfl (Jvm.hb hby at_392) rfl k_) ?_
    obtain ⟨T28, L28, v28, X28, hQ28, st28⟩ := own_static X27 hx hZ hown (hw _ (List.mem_of_getElem? (i := 5) rfl)) (hw _ (List.mem_of_getElem? (i := 6) rfl)) (hw _ (List.mem_of_getElem? (i := 7) rfl)) (hw _ (List.mem_of_getElem? (i := 8) rfl)) (by decide) (rm_set l Z a0 hw [] ar 26 nn pat _ T27.heap n0 ZZ26 A_25 hnn (by omega) f_25 gr) (rfl : T27.heap = T27.heap) (g := (mkF m 394 #[.val (.int p0), .val (.int p1), .val (.long p2), .second, .val (.int p3), .val (.int p4), .val (.int p5), .val (.int (Int32.ofNat nn)), .val (.int (p0 &&& (3 : Int32))), .val (.ref ms), .val (.int kI), .val (.int mI), .val (.int pI), .val (.long pat), .second, .val (.ref ar), .unset, .unset, .unset, .unset, .unset, .unset] [(.long pat), (.int (26 : Int32)), (.ref ar)])) rfl (by rw [hml]; rfl) (argsL := [(.ref ar), (.int (26 : Int32)), (.long pat)]) (rest := []) (lenOf pd_d1 rfl) rfl (W := 0) (by show 2 * 0 + _ ≤ _; exact Nat.le_of_eq rfl) (Jvm.hb hby at_394) (by decide) (by decide) (by decide) (by decide)
    obtain ⟨rfl, Nq28, K_26, S_26, fu_26, A_26, f_26⟩ := hQ28
    have N28 := Fr.app N27 Nq28
    refine own_go (t' := T28.setTop (mkF m 397 #[.val (.int p0), .val (.int p1), .val (.long p2), .second, .val (.int p3), .val (.int p4), .val (.int p5), .val (.int (Int32.ofNat nn)), .val (.int (p0 &&& (3 : Int32))), .val (.ref ms), .val (.int kI), .val (.int mI), .val (.int pI), .val (.long pat), .second, .val (.ref ar), .unset, .unset, .unset, .unset, .unset, .unset] [])) st28 ?_
    have KK27 : Keep h0 T28.heap [] := KK26.trans K_26 har
    have SS27 : (∀ (C0 f0 d0 : String) (v0 : Value), Sta Z h0 C0 f0 d0 v0 → Sta Z T28.heap C0 f0 d0 v0) := fun _ _ _ _ q => S_26 _ _ _ _ (SS26 _ _ _ _ q)
    have ZZ27 : n0 ≤ T28.heap.size := Nat.le_trans ZZ26 K_26.1
    refine own_go (t' := T28.setTop (mkF m 399 #[.val (.int p0), .val (.int p1), .val (.long p2), .second, .val (.int p3), .val (.int p4), .val (.int p5), .val (.int (Int32.ofNat nn)), .val (.int (p0 &&& (3 : Int32))), .val (.ref ms), .val (.int kI), .val (.int mI), .val (.int pI), .val (.long pat), .second, .val (.ref ar), .unset, .unset, .unset, .unset, .unset, .unset] [(.ref ar)])) (fun _ k_ => XS.aload X28.here hx rfl (Jvm.hb hby at_397) rfl rfl k_) ?_
    refine own_go (t' := T28.setTop (mkF m 401 #[.val (.int p0), .val (.int p1), .val (.long p2), .second, .val (.int p3), .val (.int p4), .val (.int p5), .val (.int (Int32.ofNat nn)), .val (.int (p0 &&& (3 : Int32))), .val (.ref ms), .val (.int kI), .val (.int mI), .val (.int pI), .val (.long pat), .second, .val (.ref ar), .unset, .unset, .unset, .unset, .unset, .unset] [(.int (27 : Int32)), (.ref ar)])) (fun _ k_ => XS.bipush X28.here hx rfl (Jvm.hb hby at_399) k_) ?_
    refine own_go (t' := T28.setTop (mkF m 403 #[.val (.int p0), .val (.int p1), .val (.long p2), .second, .val (.int p3), .val (.int p4), .val (.int p5), .val (.int (Int32.ofNat nn)), .val (.int (p0 &&& (3 : Int32))), .val (.ref ms), .val (.int kI), .val (.int mI), .val (.int pI), .val (.long pat), .second, .val (.ref ar), .unset, .unset, .unset, .unset, .unset, .unset] [(.long pat), (.int (27 : Int32)), (.ref ar)])) (fun _ k_ => XS.lload X28.here hx rfl (Jvm.hb hby at_401) rfl k_) ?_
    obtain ⟨T29, L29, v29, X29, hQ29, st29⟩ := own_static X28 hx hZ hown (hw _ (List.mem_of_getElem? (i := 5) rfl)) (hw _ (List.mem_of_getElem? (i := 6) rfl)) (hw _ (List.mem_of_getElem? (i := 7) rfl)) (hw _ (List.mem_of_getElem? (i := 8) rfl)) (by decide) (rm_set l Z a0 hw [] ar 27 nn pat _ T28.heap n0 ZZ27 A_26 hnn (by omega) f_26 gr) (rfl : T28.heap = T28.heap) (g := (mkF m 403 #[.val (.int p0), .val (.int p1), .val (.long p2), .second, .val (.int p3), .val (.int p4), .val (.int p5), .val (.int (Int32.ofNat nn)), .val (.int (p0 &&& (3 : Int32))), .val (.ref ms), .val (.int kI), .val (.int mI), .val (.int pI), .val (.long pat), .second, .val (.ref ar), .unset, .unset, .unset, .unset, .unset, .unset] [(.long pat), (.int (27 : Int32)), (.ref ar)])) rfl (by rw [hml]; rfl) (argsL := [(.ref ar), (.int (27 : Int32)), (.long pat)]) (rest := []) (lenOf pd_d1 rfl) rfl (W := 0) (by show 2 * 0 + _ ≤ _; exact Nat.le_of_eq rfl) (Jvm.hb hby at_403) (by decide) (by decide) (by decide) (by decide)
    obtain ⟨rfl, Nq29, K_27, S_27, fu_27, A_27, f_27⟩ := hQ29
    have N29 := Fr.app N28 Nq29
    refine own_go (t' := T29.setTop (mkF m 406 #[.val (.int p0), .val (.int p1), .val (.long p2), .second, .val (.int p3), .val (.int p4), .val (.int p5), .val (.int (Int32.ofNat nn)), .val (.int (p0 &&& (3 : Int32))), .val (.ref ms), .val (.int kI), .val (.int mI), .val (.int pI), .val (.long pat), .second, .val (.ref ar), .unset, .unset, .unset, .unset, .unset, .unset] [])) st29 ?_
    have KK28 : Keep h0 T29.heap [] := KK27.trans K_27 har
    have SS28 : (∀ (C0 f0 d0 : String) (v0 : Value), Sta Z h0 C0 f0 d0 v0 → Sta Z T29.heap C0 f0 d0 v0) := fun _ _ _ _ q => S_27 _ _ _ _ (SS27 _ _ _ _ q)
    have ZZ28 : n0 ≤ T29.heap.size := Nat.le_trans ZZ27 K_27.1
    refine own_go (t' := T29.setTop (mkF m 408 #[.val (.int p0), .val (.int p1), .val (.long p2), .second, .val (.int p3), .val (.int p4), .val (.int p5), .val (.int (Int32.ofNat nn)), .val (.int (p0 &&& (3 : Int32))), .val (.ref ms), .val (.int kI), .val (.int mI), .val (.int pI), .val (.long pat), .second, .val (.ref ar), .unset, .unset, .unset, .unset, .unset, .unset] [(.ref ar)])) (fun _ k_ => XS.aload X29.here hx rfl (Jvm.hb hby at_406) rfl rfl k_) ?_
    refine own_go (t' := T29.setTop (mkF m 410 #[.val (.int p0), .val (.int p1), .val (.long p2), .second, .val (.int p3), .val (.int p4), .val (.int p5), .val (.int (Int32.ofNat nn)), .val (.int (p0 &&& (3 : Int32))), .val (.ref ms), .val (.int kI), .val (.int mI), .val (.int pI), .val (.long pat), .second, .val (.ref ar), .unset, .unset, .unset, .unset, .unset, .unset] [(.int (28 : Int32)), (.ref ar)])) (fun _ k_ => XS.bipush X29.here hx rfl (Jvm.hb hby at_408) k_) ?_
    refine own_go (t' := T29.setTop (mkF m 412 #[.val (.int p0), .val (.int p1), .val (.long p2), .second, .val (.int p3), .val (.int p4), .val (.int p5), .val (.int (Int32.ofNat nn)), .val (.int (p0 &&& (3 : Int32))), .val (.ref ms), .val (.int kI), .val (.int mI), .val (.int pI), .val (.long pat), .second, .val (.ref ar), .unset, .unset, .unset, .unset, .unset, .unset] [(.long pat), (.int (28 : Int32)), (.ref ar)])) (fun _ k_ => XS.lload X29.here hx rfl (Jvm.hb hby at_410) rfl k_) ?_
    obtain ⟨T30, L30, v30, X30, hQ30, st30⟩ := own_static X29 hx hZ hown (hw _ (List.mem_of_getElem? (i := 5) rfl)) (hw _ (List.mem_of_getElem? (i := 6) rfl)) (hw _ (List.mem_of_getElem? (i := 7) rfl)) (hw _ (List.mem_of_getElem? (i := 8) rfl)) (by decide) (rm_set l Z a0 hw [] ar 28 nn pat _ T29.heap n0 ZZ28 A_27 hnn (by omega) f_27 gr) (rfl : T29.heap = T29.heap) (g := (mkF m 412 #[.val (.int p0), .val (.int p1), .val (.long p2), .second, .val (.int p3), .val (.int p4), .val (.int p5), .val (.int (Int32.ofNat nn)), .val (.int (p0 &&& (3 : Int32))), .val (.ref ms), .val (.int kI), .val (.int mI), .val (.int pI), .val (.long pat), .second, .val (.ref ar), .unset, .unset, .unset, .unset, .unset, .unset] [(.long pat), (.int (28 : Int32)), (.ref ar)])) rfl (by rw [hml]; rfl) (argsL := [(.ref ar), (.int (28 : Int32)), (.long pat)]) (rest := []) (lenOf pd_d1 rfl) rfl (W := 0) (by show 2 * 0 + _ ≤ _; exact Nat.le_of_eq rfl) (Jvm.hb hby at_412) (by decide) (by decide) (by decide) (by decide)
    obtain ⟨rfl, Nq30, K_28, S_28, fu_28, A_28, f_28⟩ := hQ30
    have N30 := Fr.app N29 Nq30
    refine own_go (t' := T30.setTop (mkF m 415 #[.val (.int p0), .val (.int p1), .val (.long p2), .second, .val (.int p3), .val (.int p4), .val (.int p5), .val (.int (Int32.ofNat nn)), .val (.int (p0 &&& (3 : Int32))), .val (.ref ms), .val (.int kI), .val (.int mI), .val (.int pI), .val (.long pat), .second, .val (.ref ar), .unset, .unset, .unset, .unset, .unset, .unset] [])) st30 ?_
    have KK29 : Keep h0 T30.heap [] := KK28.trans K_28 har
    have SS29 : (∀ (C0 f0 d0 : String) (v0 : Value), Sta Z h0 C0 f0 d0 v0 → Sta Z T30.heap C0 f0 d0 v0) := fun _ _ _ _ q => S_28 _ _ _ _ (SS28 _ _ _ _ q)
    have ZZ29 : n0 ≤ T30.heap.size := Nat.le_trans ZZ28 K_28.1
    refine own_go (t' := T30.setTop (mkF m 417 #[.val (.int p0), .val (.int p1), .val (.long p2), .second, .val (.int p3), .val (.int p4), .val (.int p5), .val (.int (Int32.ofNat nn)), .val (.int (p0 &&& (3 : Int32))), .val (.ref ms), .val (.int kI), .val (.int mI), .val (.int pI), .val (.long pat), .second, .val (.ref ar), .unset, .unset, .unset, .unset, .unset, .unset] [(.ref ar)])) (fun _ k_ => XS.aload X30.here hx rfl (Jvm.hb hby at_415) rfl rfl k_) ?_
    refine own_go (t' := T30.setTop (mkF m 419 #[.val (.int p0), .val (.int p1), .val (.long p2), .second, .val (.int p3), .val (.int p4), .val (.int p5), .val (.int (Int32.ofNat nn)), .val (.int (p0 &&& (3 : Int32))), .val (.ref ms), .val (.int kI), .val (.int mI), .val (.int pI), .val (.long pat), .second, .val (.ref ar), .unset, .unset, .unset, .unset, .unset, .unset] [(.int (29 : Int32)), (.ref ar)])) (fun _ k_ => XS.bipush X30.here hx rfl (Jvm.hb hby at_417) k_) ?_
    refine own_go (t' := T30.setTop (mkF m 421 #[.val (.int p0), .val (.int p1), .val (.long p2), .second, .val (.int p3), .val (.int p4), .val (.int p5), .val (.int (Int32.ofNat nn)), .val (.int (p0 &&& (3 : Int32))), .val (.ref ms), .val (.int kI), .val (.int mI), .val (.int pI), .val (.long pat), .second, .val (.ref ar), .unset, .unset, .unset, .unset, .unset, .unset] [(.long pat), (.int (29 : Int32)), (.ref ar)])) (fun _ k_ => XS.lload X30.here hx rfl (Jvm.hb hby at_419) rfl k_) ?_
    obtain ⟨T31, L31, v31, X31, hQ31, st31⟩ := own_static X30 hx hZ hown (hw _ (List.mem_of_getElem? (i := 5) rfl)) (hw _ (List.mem_of_getElem? (i := 6) rfl)) (hw _ (List.mem_of_getElem? (i := 7) rfl)) (hw _ (List.mem_of_getElem? (i := 8) rfl)) (by decide) (rm_set l Z a0 hw [] ar 29 nn pat _ T30.heap n0 ZZ29 A_28 hnn (by omega) f_28 gr) (rfl : T30.heap = T30.heap) (g := (mkF m 421 #[.val (.int p0), .val (.int p1), .val (.long p2), .second, .val (.int p3), .val (.int p4), .val (.int p5), .val (.int (Int32.ofNat nn)), .val (.int (p0 &&& (3 : Int32))), .val (.ref ms), .val (.int kI), .val (.int mI), .val (.int pI), .val (.long pat), .second, .val (.ref ar), .unset, .unset, .unset, .unset, .unset, .unset] [(.long pat), (.int (29 : Int32)), (.ref ar)])) rfl (by rw [hml]; rfl) (argsL := [(.ref ar), (.int (29 : Int32)), (.long pat)]) (rest := []) (lenOf pd_d1 rfl) rfl (W := 0) (by show 2 * 0 + _ ≤ _; exact Nat.le_of_eq rfl) (Jvm.hb hby at_421) (by decide) (by decide) (by decide) (by decide)
    obtain ⟨rfl, Nq31, K_29, S_29, fu_29, A_29, f_29⟩ := hQ31
    have N31 := Fr.app N30 Nq31
    refine own_go (t' := T31.setTop (mkF m 424 #[.val (.int p0), .val (.int p1), .val (.long p2), .second, .val (.int p3), .val (.int p4), .val (.int p5), .val (.int (Int32.ofNat nn)), .val (.int (p0 &&& (3 : Int32))), .val (.ref ms), .val (.int kI), .val (.int mI), .val (.int pI), .val (.long pat), .second, .val (.ref ar), .unset, .unset, .unset, .unset, .unset, .unset] [])) st31 ?_
    have KK30 : Keep h0 T31.heap [] := KK29.trans K_29 har
    have SS30 : (∀ (C0 f0 d0 : String) (v0 : Value), Sta Z h0 C0 f0 d0 v0 → Sta Z T31.heap C0 f0 d0 v0) := fun _ _ _ _ q => S_29 _ _ _ _ (SS29 _ _ _ _ q)
    have ZZ30 : n0 ≤ T31.heap.size := Nat.le_trans ZZ29 K_29.1
    refine own_go (t' := T31.setTop (mkF m 426 #[.val (.int p0), .val (.int p1), .val (.long p2), .second, .val (.int p3), .val (.int p4), .val (.int p5), .val (.int (Int32.ofNat nn)), .val (.int (p0 &&& (3 : Int32))), .val (.ref ms), .val (.int kI), .val (.int mI), .val (.int pI), .val (.long pat), .second, .val (.ref ar), .unset, .unset, .unset, .unset, .unset, .unset] [(.ref ar)])) (fun _ k_ => XS.aload X31.here hx rfl (Jvm.hb hby at_424) rfl rfl k_) ?_
    refine own_go (t' := T31.setTop (mkF m 428 #[.val (.int p0), .val (.int p1), .val (.long p2), .second, .val (.int p3), .val (.int p4), .val (.int p5), .val (.int (Int32.ofNat nn)), .val (.int (p0 &&& (3 : Int32))), .val (.ref ms), .val (.int kI), .val (.int mI), .val (.int pI), .val (.long pat), .second, .val (.ref ar), .unset, .unset, .unset, .unset, .unset, .unset] [(.int (30 : Int32)), (.ref ar)])) (fun _ k_ => XS.bipush X31.here hx rfl (Jvm.hb hby at_426) k_) ?_
    refine own_go (t' := T31.setTop (mkF m 430 #[.val (.int p0), .val (.int p1), .val (.long p2), .second, .val (.int p3), .val (.int p4), .val (.int p5), .val (.int (Int32.ofNat nn)), .val (.int (p0 &&& (3 : Int32))), .val (.ref ms), .val (.int kI), .val (.int mI), .val (.int pI), .val (.long pat), .second, .val (.ref ar), .unset, .unset, .unset, .unset, .unset, .unset] [(.long pat), (.int (30 : Int32)), (.ref ar)])) (fun _ k_ => XS.lload X31.here hx rfl (Jvm.hb hby at_428) rfl k_) ?_
    obtain ⟨T32, L32, v32, X32, hQ32, st32⟩ := own_static X31 hx hZ hown (hw _ (List.mem_of_getElem? (i := 5) rfl)) (hw _ (List.mem_of_getElem? (i := 6) rfl)) (hw _ (List.mem_of_getElem? (i := 7) rfl)) (hw _ (List.mem_of_getElem? (i := 8) rfl)) (by decide) (rm_set l Z a0 hw [] ar 30 nn pat _ T31.heap n0 ZZ30 A_29 hnn (by omega) f_29 gr) (rfl : T31.heap = T31.heap) (g := (mkF m 430 #[.val (.int p0), .val (.int p1), .val (.long p2), .second, .val (.int p3), .val (.int p4), .val (.int p5), .val (.int (Int32.ofNat nn)), .val (.int (p0 &&& (3 : Int32))), .val (.ref ms), .val (.int kI), .val (.int mI), .val (.int pI), .val (.long pat), .second, .val (.ref ar), .unset, .unset, .unset, .unset, .unset, .unset] [(.long pat), (.int (30 : Int32)), (.ref ar)])) rfl (by rw [hml]; rfl) (argsL := [(.ref ar), (.int (30 : Int32)), (.long pat)]) (rest := []) (lenOf pd_d1 rfl) rfl (W := 0) (by show 2 * 0 + _ ≤ _; exact Nat.le_of_eq rfl) (Jvm.hb hby at_430) (by decide) (by decide) (by decide) (by decide)
    obtain ⟨rfl, Nq32, K_30, S_30, fu_30, A_30, f_30⟩ := hQ32
    have N32 := Fr.app N31 Nq32
    refine own_go (t' := T32.setTop (mkF m 433 #[.val (.int p0), .val (.int p1), .val (.long p2), .second, .val (.int p3), .val (.int p4), .val (.int p5), .val (.int (Int32.ofNat nn)), .val (.int (p0 &&& (3 : Int32))), .val (.ref ms), .val (.int kI), .val (.int mI), .val (.int pI), .val (.long pat), .second, .val (.ref ar), .unset, .unset, .unset, .unset, .unset, .unset] [])) st32 ?_
    have KK31 : Keep h0 T32.heap [] := KK30.trans K_30 har
    have SS31 : (∀ (C0 f0 d0 : String) (v0 : Value), Sta Z h0 C0 f0 d0 v0 → Sta Z T32.heap C0 f0 d0 v0) := fun _ _ _ _ q => S_30 _ _ _ _ (SS30 _ _ _ _ q)
    have ZZ31 : n0 ≤ T32.heap.size := Nat.le_trans ZZ30 K_30.1
    refine own_go (t' := T32.setTop (mkF m 435 #[.val (.int p0), .val (.int p1), .val (.long p2), .second, .val (.int p3), .val (.int p4), .val (.int p5), .val (.int (Int32.ofNat nn)), .val (.int (p0 &&& (3 : Int32))), .val (.ref ms), .val (.int kI), .val (.int mI), .val (.int pI), .val (.long pat), .second, .val (.ref ar), .unset, .unset, .unset, .unset, .unset, .unset] [(.ref ar)])) (fun _ k_ => XS.aload X32.here hx rfl (Jvm.hb hby at_433) rfl rfl k_) ?_
    refine own_go (t' := T32.setTop (mkF m 437 #[.val (.int p0), .val (.int p1), .val (.long p2), .second, .val (.int p3), .val (.int p4), .val (.int p5), .val (.int (Int32.ofNat nn)), .val (.int (p0 &&& (3 : Int32))), .val (.ref ms), .val (.int kI), .val (.int mI), .val (.int pI), .val (.long pat), .second, .val (.ref ar), .unset, .unset, .unset, .unset, .unset, .unset] [(.int (31 : Int32)), (.ref ar)])) (fun _ k_ => XS.bipush X32.here hx rfl (Jvm.hb hby at_435) k_) ?_
    refine own_go (t' := T32.setTop (mkF m 439 #[.val (.int p0), .val (.int p1), .val (.long p2), .second, .val (.int p3), .val (.int p4), .val (.int p5), .val (.int (Int32.ofNat nn)), .val (.int (p0 &&& (3 : Int32))), .val (.ref ms), .val (.int kI), .val (.int mI), .val (.int pI), .val (.long pat), .second, .val (.ref ar), .unset, .unset, .unset, .unset, .unset, .unset] [(.long pat), (.int (31 : Int32)), (.ref ar)])) (fun _ k_ => XS.lload X32.here hx rfl (Jvm.hb hby at_437) rfl k_) ?_
    obtain ⟨T33, L33, v33, X33, hQ33, st33⟩ := own_static X32 hx hZ hown (hw _ (List.mem_of_getElem? (i := 5) rfl)) (hw _ (List.mem_of_getElem? (i := 6) rfl)) (hw _ (List.mem_of_getElem? (i := 7) rfl)) (hw _ (List.mem_of_getElem? (i := 8) rfl)) (by decide) (rm_set l Z a0 hw [] ar 31 nn pat _ T32.heap n0 ZZ31 A_30 hnn (by omega) f_30 gr) (rfl : T32.heap = T32.heap) (g := (mkF m 439 #[.val (.int p0), .val (.int p1), .val (.long p2), .second, .val (.int p3), .val (.int p4), .val (.int p5), .val (.int (Int32.ofNat nn)), .val (.int (p0 &&& (3 : Int32))), .val (.ref ms), .val (.int kI), .val (.int mI), .val (.int pI), .val (.long pat), .second, .val (.ref ar), .unset, .unset, .unset, .unset, .unset, .unset] [(.long pat), (.int (31 : Int32)), (.ref ar)])) rfl (by rw [hml]; rfl) (argsL := [(.ref ar), (.int (31 : Int32)), (.long pat)]) (rest := []) (lenOf pd_d1 rfl) rfl (W := 0) (by show 2 * 0 + _ ≤ _; exact Nat.le_of_eq rfl) (Jvm.hb hby at_439) (by decide) (by decide) (by decide) (by decide)
    obtain ⟨rfl, Nq33, K_31, S_31, fu_31, A_31, f_31⟩ := hQ33
    have N33 := Fr.app N32 Nq33
    refine own_go (t' := T33.setTop (mkF m 442 #[.val (.int p0), .val (.int p1), .val (.long p2), .second, .val (.int p3), .val (.int p4), .val (.int p5), .val (.int (Int32.ofNat nn)), .val (.int (p0 &&& (3 : Int32))), .val (.ref ms), .val (.int kI), .val (.int mI), .val (.int pI), .val (.long pat), .second, .val (.ref ar), .unset, .unset, .unset, .unset, .unset, .unset] [])) st33 ?_
    have KK32 : Keep h0 T33.heap [] := KK31.trans K_31 har
    have SS32 : (∀ (C0 f0 d0 : String) (v0 : Value), Sta Z h0 C0 f0 d0 v0 → Sta Z T33.heap C0 f0 d0 v0) := fun _ _ _ _ q => S_31 _ _ _ _ (SS31 _ _ _ _ q)
    have ZZ32 : n0 ≤ T33.heap.size := Nat.le_trans ZZ31 K_31.1
    refine own_go (t' := T33.setTop (mkF m 444 #[.val (.int p0), .val (.int p1), .val (.long p2), .second, .val (.int p3), .val (.int p4), .val (.int p5), .val (.int (Int32.ofNat nn)), .val (.int (p0 &&& (3 : Int32))), .val (.ref ms), .val (.int kI), .val (.int mI), .val (.int pI), .val (.long pat), .second, .val (.ref ar), .unset, .unset, .unset, .unset, .unset, .unset] [(.ref ar)])) (fun _ k_ => XS.aload X33.here hx rfl (Jvm.hb hby at_442) rfl rfl k_) ?_
    refine own_go (t' := T33.setTop (mkF m 446 #[.val (.int p0), .val (.int p1), .val (.long p2), .second, .val (.int p3), .val (.int p4), .val (.int p5), .val (.int (Int32.ofNat nn)), .val (.int (p0 &&& (3 : Int32))), .val (.ref ms), .val (.int kI), .val (.int mI), .val (.int pI), .val (.long pat), .second, .val (.ref ar), .unset, .unset, .unset, .unset, .unset, .unset] [(.int (32 : Int32)), (.ref ar)])) (fun _ k_ => XS.bipush X33.here hx rfl (Jvm.hb hby at_444) k_) ?_
    refine own_go (t' := T33.setTop (mkF m 448 #[.val (.int p0), .val (.int p1), .val (.long p2), .second, .val (.int p3), .val (.int p4), .val (.int p5), .val (.int (Int32.ofNat nn)), .val (.int (p0 &&& (3 : Int32))), .val (.ref ms), .val (.int kI), .val (.int mI), .val (.int pI), .val (.long pat), .second, .val (.ref ar), .unset, .unset, .unset, .unset, .unset, .unset] [(.long pat), (.int (32 : Int32)), (.ref ar)])) (fun _ k_ => XS.lload X33.here hx rfl (Jvm.hb hby at_446) rfl k_) ?_
    obtain ⟨T34, L34, v34, X34, hQ34, st34⟩ := own_static X33 hx hZ hown (hw _ (List.mem_of_getElem? (i := 5) rfl)) (hw _ (List.mem_of_getElem? (i := 6) rfl)) (hw _ (List.mem_of_getElem? (i := 7) rfl)) (hw _ (List.mem_of_getElem? (i := 8) rfl)) (by decide) (rm_set l Z a0 hw [] ar 32 nn pat _ T33.heap n0 ZZ32 A_31 hnn (by omega) f_31 gr) (rfl : T33.heap = T33.heap) (g := (mkF m 448 #[.val (.int p0), .val (.int p1), .val (.long p2), .second, .val (.int p3), .val (.int p4), .val (.int p5), .val (.int (Int32.ofNat nn)), .val (.int (p0 &&& (3 : Int32))), .val (.ref ms), .val (.int kI), .val (.int mI), .val (.int pI), .val (.long pat), .second, .val (.ref ar), .unset, .unset, .unset, .unset, .unset, .unset] [(.long pat), (.int (32 : Int32)), (.ref ar)])) rfl (by rw [hml]; rfl) (argsL := [(.ref ar), (.int (32 : Int32)), (.long pat)]) (rest := []) (lenOf pd_d1 rfl) rfl (W := 0) (by show 2 * 0 + _ ≤ _; exact Nat.le_of_eq rfl) (Jvm.hb hby at_448) (by decide) (by decide) (by decide) (by decide)
    obtain ⟨rfl, Nq34, K_32, S_32, fu_32, A_32, f_32⟩ := hQ34
    have N34 := Fr.app N33 Nq34
    refine own_go (t' := T34.setTop (mkF m 451 #[.val (.int p0), .val (.int p1), .val (.long p2), .second, .val (.int p3), .val (.int p4), .val (.int p5), .val (.int (Int32.ofNat nn)), .val (.int (p0 &&& (3 : Int32))), .val (.ref ms), .val (.int kI), .val (.int mI), .val (.int pI), .val (.long pat), .second, .val (.ref ar), .unset, .unset, .unset, .unset, .unset, .unset] [])) st34 ?_
    have KK33 : Keep h0 T34.heap [] := KK32.trans K_32 har
    have SS33 : (∀ (C0 f0 d0 : String) (v0 : Value), Sta Z h0 C0 f0 d0 v0 → Sta Z T34.heap C0 f0 d0 v0) := fun _ _ _ _ q => S_32 _ _ _ _ (SS32 _ _ _ _ q)
    have ZZ33 : n0 ≤ T34.heap.size := Nat.le_trans ZZ32 K_32.1
    exact kont _ _ _ ar X34 rfl N34 KK33 SS33 ⟨_, A_32, fun j hj => f_32 j (by omega) hj⟩
  have JA : ∀ (Tj : State) (lj : List Loc) (ms : Addr) (kk : Nat), Stand p l e room_1 s m #[(.int p0), (.int p1), (.long p2), (.int p3), (.int p4), (.int p5)] below meth c Tj lj 0 0 → Tj.heap = h0 → Fr n0 lj → ¬ (p0 &&& (3 : Int32)) = 3 → Fld Z h0 ms "com/example/kobe/kobe/eval/Measure" "cutoff" "I" (.int (Int32.ofNat kk)) → Exa Z h0 ms "com/example/kobe/kobe/eval/Measure" → ms ≠ aM → 1 ≤ kk → kk ≤ 1000 → own_Ends p.tables e below (own_F s (fun v h L => v = some (.int 1) ∧ Fr n0 L) room_1.cells room_1.slots) (Tj.setTop (mkF m 80 #[.val (.int p0), .val (.int p1), .val (.long p2), .second, .val (.int p3), .val (.int p4), .val (.int p5), .val (.int (Int32.ofNat nn)), .val (.int (p0 &&& (3 : Int32))), .val (.ref ms), .val (.int (Int32.ofNat kk)), .val (.int (0 : Int32)), .val (.int (-1 : Int32)), .unset, .unset, .unset, .unset, .unset, .unset, .unset, .unset, .unset] [])) := by
    intro Tj lj ms kk Xj ej Nj hsel Fc Em hne hk1 hk2
    refine own_go (t' := Tj.setTop (mkF m 82 #[.val (.int p0), .val (.int p1), .val (.long p2), .second, .val (.int p3), .val (.int p4), .val (.int p5), .val (.int (Int32.ofNat nn)), .val (.int (p0 &&& (3 : Int32))), .val (.ref ms), .val (.int (Int32.ofNat kk)), .val (.int (0 : Int32)), .val (.int (-1 : Int32)), .unset, .unset, .unset, .unset, .unset, .unset, .unset, .unset, .unset] [(.int (p0 &&& (3 : Int32)))])) (fun _ k_ => XS.iload Xj.here hx rfl (Jvm.hb hby at_80) rfl k_) ?_
    refine own_go (t' := Tj.setTop (mkF m 83 #[.val (.int p0), .val (.int p1), .val (.long p2), .second, .val (.int p3), .val (.int p4), .val (.int p5), .val (.int (Int32.ofNat nn)), .val (.int (p0 &&& (3 : Int32))), .val (.ref ms), .val (.int (Int32.ofNat kk)), .val (.int (0 : Int32)), .val (.int (-1 : Int32)), .unset, .unset, .unset, .unset, .unset, .unset, .unset, .unset, .unset] [(.int (3 : Int32)), (.int (p0 &&& (3 : Int32)))])) (fun _ k_ => XS.iconst Xj.here hx rfl (Jvm.hb hby at_82) k_) ?_
    refine own_go (t' := Tj.setTop (mkF m 151 #[.val (.int p0), .val (.int p1), .val (.long p2), .second, .val (.int p3), .val (.int p4), .val (.int p5), .val (.int (Int32.ofNat nn)), .val (.int (p0 &&& (3 : Int32))), .val (.ref ms), .val (.int (Int32.ofNat kk)), .val (.int (0 : Int32)), .val (.int (-1 : Int32)), .unset, .unset, .unset, .unset, .unset, .unset, .unset, .unset, .unset] [])) (fun _ k_ => XS.icmpYes Xj.here hx rfl (pc0 := 83) (pc' := 151) rfl (Jvm.hb hby at_83) rfl (feq hsel).2 (by decide) (by decide) k_) ?_
    refine own_go (t' := Tj.setTop (mkF m 152 #[.val (.int p0), .val (.int p1), .val (.long p2), .second, .val (.int p3), .val (.int p4), .val (.int p5), .val (.int (Int32.ofNat nn)), .val (.int (p0 &&& (3 : Int32))), .val (.ref ms), .val (.int (Int32.ofNat kk)), .val (.int (0 : Int32)), .val (.int (-1 : Int32)), .unset, .unset, .unset, .unset, .unset, .unset, .unset, .unset, .unset] [(.long p2)])) (fun _ k_ => XS.lloadN Xj.here hx rfl (Jvm.hb hby at_151) rfl k_) ?_
    refine own_go (t' := Tj.setTop (mkF m 154 #[.val (.int p0), .val (.int p1), .val (.long p2), .second, .val (.int p3), .val (.int p4), .val (.int p5), .val (.int (Int32.ofNat nn)), .val (.int (p0 &&& (3 : Int32))), .val (.ref ms), .val (.int (Int32.ofNat kk)), .val (.int (0 : Int32)), .val (.int (-1 : Int32)), .val (.long p2), .second, .unset, .unset, .unset, .unset, .unset, .unset, .unset] [])) (fun _ k_ => XS.lstore Xj.here hx rfl (Jvm.hb hby at_152) rfl (l' := #[.val (.int p0), .val (.int p1), .val (.long p2), .second, .val (.int p3), .val (.int p4), .val (.int p5), .val (.int (Int32.ofNat nn)), .val (.int (p0 &&& (3 : Int32))), .val (.ref ms), .val (.int (Int32.ofNat kk)), .val (.int (0 : Int32)), .val (.int (-1 : Int32)), .val (.long p2), .second, .unset, .unset, .unset, .unset, .unset, .unset, .unset]) rfl k_) ?_
    refine seg _ _ ms _ _ _ p2 Xj ej Nj ?_
    intro Tk lk hk ar Xk ek Nk KK SS ⟨f, A, hf⟩
    have Zk : n0 ≤ hk.size := Nat.le_trans Z0 KK.1
    refine own_go (t' := Tk.setTop (mkF m 453 #[.val (.int p0), .val (.int p1), .val (.long p2), .second, .val (.int p3), .val (.int p4), .val (.int p5), .val (.int (Int32.ofNat nn)), .val (.int (p0 &&& (3 : Int32))), .val (.ref ms), .val (.int (Int32.ofNat kk)), .val (.int (0 : Int32)), .val (.int (-1 : Int32)), .val (.long p2), .second, .val (.ref ar), .unset, .unset, .unset, .unset, .unset, .unset] [(.ref ms)])) (fun _ k_ => XS.aload Xk.here hx rfl (Jvm.hb hby at_451) rfl rfl k_) ?_
    refine own_go (t' := Tk.setTop (mkF m 455 #[.val (.int p0), .val (.int p1), .val (.long p2), .second, .val (.int p3), .val (.int p4), .val (.int p5), .val (.int (Int32.ofNat nn)), .val (.int (p0 &&& (3 : Int32))), .val (.ref ms), .val (.int (Int32.ofNat kk)), .val (.int (0 : Int32)), .val (.int (-1 : Int32)), .val (.long p2), .second, .val (.ref ar), .unset, .unset, .unset, .unset, .unset, .unset] [(.ref ar), (.ref ms)])) (fun _ k_ => XS.aload Xk.here hx rfl (Jvm.hb hby at_453) rfl rfl k_) ?_
    refine own_go (t' := Tk.setTop (mkF m 457 #[.val (.int p0), .val (.int p1), .val (.long p2), .second, .val (.int p3), .val (.int p4), .val (.int p5), .val (.int (Int32.ofNat nn)), .val (.int (p0 &&& (3 : Int32))), .val (.ref ms), .val (.int (Int32.ofNat kk)), .val (.int (0 : Int32)), .val (.int (-1 : Int32)), .val (.long p2), .second, .val (.ref ar), .unset, .unset, .unset, .unset, .unset, .unset] [(.int p3), (.ref ar), (.ref ms)])) (fun _ k_ => XS.iload Xk.here hx rfl (Jvm.hb hby at_455) rfl k_) ?_
    obtain ⟨T35, L35, v35, X35, hQ35, st35⟩ := own_virtual Xk hx hZ (y := (⟨"com/example/kobe/kobe/eval/Measure", "score", "([ZI)D"⟩ : MethodName)) hown (hw _ (List.mem_of_getElem? (i := 9) rfl)) (hw _ (List.mem_of_getElem? (i := 10) rfl)) (hw _ (List.mem_of_getElem? (i := 12) rfl)) (hw _ (List.mem_of_getElem? (i := 11) rfl)) (hw _ (List.mem_of_getElem? (i := 13) rfl)) (hw _ (List.mem_of_getElem? (i := 2) rfl)) (by decide) (Em.keep KK) (rm_scP l Z a0 hw [] ms ar aM kk nn p3 p2 f hk n0 Zk A hnn hf hk1 hk2 (SS _ _ _ _ S_M) (Fc.keep KK nin0) hne) ek (g := (mkF m 457 #[.val (.int p0), .val (.int p1), .val (.long p2), .second, .val (.int p3), .val (.int p4), .val (.int p5), .val (.int (Int32.ofNat nn)), .val (.int (p0 &&& (3 : Int32))), .val (.ref ms), .val (.int (Int32.ofNat kk)), .val (.int (0 : Int32)), .val (.int (-1 : Int32)), .val (.long p2), .second, .val (.ref ar), .unset, .unset, .unset, .unset, .unset, .unset] [(.int p3), (.ref ar), (.ref ms)])) rfl (by rw [hml]; rfl) (argsL := [(.ref ar), (.int p3)]) (rest := []) (lenOf pd_d2 rfl) rfl (W := 0) (by show 2 * 0 + _ ≤ _; exact Nat.le_of_eq rfl) (Jvm.hb hby at_457) (by decide) (by decide) (by decide) (by decide)
    obtain ⟨rfl, Nq35, e35⟩ := hQ35
    have N35 := Fr.app Nk Nq35
    refine own_go (t' := T35.setTop (mkF m 460 #[.val (.int p0), .val (.int p1), .val (.long p2), .second, .val (.int p3), .val (.int p4), .val (.int p5), .val (.int (Int32.ofNat nn)), .val (.int (p0 &&& (3 : Int32))), .val (.ref ms), .val (.int (Int32.ofNat kk)), .val (.int (0 : Int32)), .val (.int (-1 : Int32)), .val (.long p2), .second, .val (.ref ar), .unset, .unset, .unset, .unset, .unset, .unset] [(.double (FP.ddiv (FP.i2d (Int32.ofNat (own_cnt (own_bit p2) (min kk nn)))) (FP.i2d (Int32.ofNat kk))))])) st35 ?_
    refine own_go (t' := T35.setTop (mkF m 462 #[.val (.int p0), .val (.int p1), .val (.long p2), .second, .val (.int p3), .val (.int p4), .val (.int p5), .val (.int (Int32.ofNat nn)), .val (.int (p0 &&& (3 : Int32))), .val (.ref ms), .val (.int (Int32.ofNat kk)), .val (.int (0 : Int32)), .val (.int (-1 : Int32)), .val (.long p2), .second, .val (.ref ar), .val (.double (FP.ddiv (FP.i2d (Int32.ofNat (own_cnt (own_bit p2) (min kk nn)))) (FP.i2d (Int32.ofNat kk)))), .second, .unset, .unset, .unset, .unset] [])) (fun _ k_ => XS.dstore X35.here hx rfl (Jvm.hb hby at_460) rfl (l' := #[.val (.int p0), .val (.int p1), .val (.long p2), .second, .val (.int p3), .val (.int p4), .val (.int p5), .val (.int (Int32.ofNat nn)), .val (.int (p0 &&& (3 : Int32))), .val (.ref ms), .val (.int (Int32.ofNat kk)), .val (.int (0 : Int32)), .val (.int (-1 : Int32)), .val (.long p2), .second, .val (.ref ar), .val (.double (FP.ddiv (FP.i2d (Int32.ofNat (own_cnt (own_bit p2) (min kk nn)))) (FP.i2d (Int32.ofNat kk)))), .second, .unset, .unset, .unset, .unset]) rfl k_) ?_
    refine own_go (t' := T35.setTop (mkF m 464 #[.val (.int p0), .val (.int p1), .val (.long p2), .second, .val (.int p3), .val (.int p4), .val (.int p5), .val (.int (Int32.ofNat nn)), .val (.int (p0 &&& (3 : Int32))), .val (.ref ms), .val (.int (Int32.ofNat kk)), .val (.int (0 : Int32)), .val (.int (-1 : Int32)), .val (.long p2), .second, .val (.ref ar), .val (.double (FP.ddiv (FP.i2d (Int32.ofNat (own_cnt (own_bit p2) (min kk nn)))) (FP.i2d (Int32.ofNat kk)))), .second, .unset, .unset, .unset, .unset] [(.int (p0 &&& (3 : Int32)))])) (fun _ k_ => XS.iload X35.here hx rfl (Jvm.hb hby at_462) rfl k_) ?_
    refine own_go (t' := T35.setTop (mkF m 465 #[.val (.int p0), .val (.int p1), .val (.long p2), .second, .val (.int p3), .val (.int p4), .val (.int p5), .val (.int (Int32.ofNat nn)), .val (.int (p0 &&& (3 : Int32))), .val (.ref ms), .val (.int (Int32.ofNat kk)), .val (.int (0 : Int32)), .val (.int (-1 : Int32)), .val (.long p2), .second, .val (.ref ar), .val (.double (FP.ddiv (FP.i2d (Int32.ofNat (own_cnt (own_bit p2) (min kk nn)))) (FP.i2d (Int32.ofNat kk)))), .second, .unset, .unset, .unset, .unset] [(.int (3 : Int32)), (.int (p0 &&& (3 : Int32)))])) (fun _ k_ => XS.iconst X35.here hx rfl (Jvm.hb hby at_464) k_) ?_
    refine own_go (t' := T35.setTop (mkF m 516 #[.val (.int p0), .val (.int p1), .val (.long p2), .second, .val (.int p3), .val (.int p4), .val (.int p5), .val (.int (Int32.ofNat nn)), .val (.int (p0 &&& (3 : Int32))), .val (.ref ms), .val (.int (Int32.ofNat kk)), .val (.int (0 : Int32)), .val (.int (-1 : Int32)), .val (.long p2), .second, .val (.ref ar), .val (.double (FP.ddiv (FP.i2d (Int32.ofNat (own_cnt (own_bit p2) (min kk nn)))) (FP.i2d (Int32.ofNat kk)))), .second, .unset, .unset, .unset, .unset] [])) (fun _ k_ => XS.icmpYes X35.here hx rfl (pc0 := 465) (pc' := 516) rfl (Jvm.hb hby at_465) rfl (feq hsel).2 (by decide) (by decide) k_) ?_
    refine own_go (t' := T35.setTop (mkF m 518 #[.val (.int p0), .val (.int p1), .val (.long p2), .second, .val (.int p3), .val (.int p4), .val (.int p5), .val (.int (Int32.ofNat nn)), .val (.int (p0 &&& (3 : Int32))), .val (.ref ms), .val (.int (Int32.ofNat kk)), .val (.int (0 : Int32)), .val (.int (-1 : Int32)), .val (.long p2), .second, .val (.ref ar), .val (.double (FP.ddiv (FP.i2d (Int32.ofNat (own_cnt (own_bit p2) (min kk nn)))) (FP.i2d (Int32.ofNat kk)))), .second, .unset, .unset, .unset, .unset] [(.int (Int32.ofNat kk))])) (fun _ k_ => XS.iload X35.here hx rfl (Jvm.hb hby at_516) rfl k_) ?_
    refine own_go (t' := T35.setTop (mkF m 520 #[.val (.int p0), .val (.int p1), .val (.long p2), .second, .val (.int p3), .val (.int p4), .val (.int p5), .val (.int (Int32.ofNat nn)), .val (.int (p0 &&& (3 : Int32))), .val (.ref ms), .val (.int (Int32.ofNat kk)), .val (.int (0 : Int32)), .val (.int (-1 : Int32)), .val (.long p2), .second, .val (.ref ar), .val (.double (FP.ddiv (FP.i2d (Int32.ofNat (own_cnt (own_bit p2) (min kk nn)))) (FP.i2d (Int32.ofNat kk)))), .second, .unset, .unset, .unset, .unset] [(.int (Int32.ofNat nn)), (.int (Int32.ofNat kk))])) (fun _ k_ => XS.iload X35.here hx rfl (Jvm.hb hby at_518) rfl k_) ?_
    obtain ⟨T36, L36, v36, X36, hQ36, st36⟩ := own_static X35 hx hZ hown (hw _ (List.mem_of_getElem? (i := 25) rfl)) (hw _ (List.mem_of_getElem? (i := 22) rfl)) (hw _ (List.mem_of_getElem? (i := 23) rfl)) (hw _ (List.mem_of_getElem? (i := 24) rfl)) (by decide) (rm_min l Z a0 hw [] _ _ hk n0 Zk) e35 (g := (mkF m 520 #[.val (.int p0), .val (.int p1), .val (.long p2), .second, .val (.int p3), .val (.int p4), .val (.int p5), .val (.int (Int32.ofNat nn)), .val (.int (p0 &&& (3 : Int32))), .val (.ref ms), .val (.int (Int32.ofNat kk)), .val (.int (0 : Int32)), .val (.int (-1 : Int32)), .val (.long p2), .second, .val (.ref ar), .val (.double (FP.ddiv (FP.i2d (Int32.ofNat (own_cnt (own_bit p2) (min kk nn)))) (FP.i2d (Int32.ofNat kk)))), .second, .unset, .unset, .unset, .unset] [(.int (Int32.ofNat nn)), (.int (Int32.ofNat kk))])) rfl (by rw [hml]; rfl) (argsL := [(.int (Int32.ofNat kk)), (.int (Int32.ofNat nn))]) (rest := []) (lenOf pd_d4 rfl) rfl (W := 0) (by show 2 * 0 + _ ≤ _; exact Nat.le_of_eq rfl) (Jvm.hb hby at_520) (by decide) (by decide) (by decide) (by decide)
    obtain ⟨rfl, Nq36, e36⟩ := hQ36
    have N36 := Fr.app N35 Nq36
    refine own_go (t' := T36.setTop (mkF m 523 #[.val (.int p0), .val (.int p1), .val (.long p2), .second, .val (.int p3), .val (.int p4), .val (.int p5), .val (.int (Int32.ofNat nn)), .val (.int (p0 &&& (3 : Int32))), .val (.ref ms), .val (.int (Int32.ofNat kk)), .val (.int (0 : Int32)), .val (.int (-1 : Int32)), .val (.long p2), .second, .val (.ref ar), .val (.double (FP.ddiv (FP.i2d (Int32.ofNat (own_cnt (own_bit p2) (min kk nn)))) (FP.i2d (Int32.ofNat kk)))), .second, .unset, .unset, .unset, .unset] [(.int (if Int32.ofNat nn < Int32.ofNat kk then Int32.ofNat nn else Int32.ofNat kk))])) st36 ?_
    rw [own_minI (by omega) (by omega)]
    refine own_go (t' := T36.setTop (mkF m 525 #[.val (.int p0), .val (.int p1), .val (.long p2), .second, .val (.int p3), .val (.int p4), .val (.int p5), .val (.int (Int32.ofNat nn)), .val (.int (p0 &&& (3 : Int32))), .val (.ref ms), .val (.int (Int32.ofNat kk)), .val (.int (0 : Int32)), .val (.int (-1 : Int32)), .val (.long p2), .second, .val (.ref ar), .val (.double (FP.ddiv (FP.i2d (Int32.ofNat (own_cnt (own_bit p2) (min kk nn)))) (FP.i2d (Int32.ofNat kk)))), .second, .unset, .unset, .val (.int (Int32.ofNat (min kk nn))), .unset] [])) (fun _ k_ => XS.istore X36.here hx rfl (Jvm.hb hby at_523) rfl (l' := #[.val (.int p0), .val (.int p1), .val (.long p2), .second, .val (.int p3), .val (.int p4), .val (.int p5), .val (.int (Int32.ofNat nn)), .val (.int (p0 &&& (3 : Int32))), .val (.ref ms), .val (.int (Int32.ofNat kk)), .val (.int (0 : Int32)), .val (.int (-1 : Int32)), .val (.long p2), .second, .val (.ref ar), .val (.double (FP.ddiv (FP.i2d (Int32.ofNat (own_cnt (own_bit p2) (min kk nn)))) (FP.i2d (Int32.ofNat kk)))), .second, .unset, .unset, .val (.int (Int32.ofNat (min kk nn))), .unset]) rfl k_) ?_
    refine own_go (t' := T36.setTop (mkF m 527 #[.val (.int p0), .val (.int p1), .val (.long p2), .second, .val (.int p3), .val (.int p4), .val (.int p5), .val (.int (Int32.ofNat nn)), .val (.int (p0 &&& (3 : Int32))), .val (.ref ms), .val (.int (Int32.ofNat kk)), .val (.int (0 : Int32)), .val (.int (-1 : Int32)), .val (.long p2), .second, .val (.ref ar), .val (.double (FP.ddiv (FP.i2d (Int32.ofNat (own_cnt (own_bit p2) (min kk nn)))) (FP.i2d (Int32.ofNat kk)))), .second, .unset, .unset, .val (.int (Int32.ofNat (min kk nn))), .unset] [(.long p2)])) (fun _ k_ => XS.lload X36.here hx rfl (Jvm.hb hby at_525) rfl k_) ?_
    refine own_go (t' := T36.setTop (mkF m 529 #[.val (.int p0), .val (.int p1), .val (.long p2), .second, .val (.int p3), .val (.int p4), .val (.int p5), .val (.int (Int32.ofNat nn)), .val (.int (p0 &&& (3 : Int32))), .val (.ref ms), .val (.int (Int32.ofNat kk)), .val (.int (0 : Int32)), .val (.int (-1 : Int32)), .val (.long p2), .second, .val (.ref ar), .val (.double (FP.ddiv (FP.i2d (Int32.ofNat (own_cnt (own_bit p2) (min kk nn)))) (FP.i2d (Int32.ofNat kk)))), .second, .unset, .unset, .val (.int (Int32.ofNat (min kk nn))), .unset] [(.int (Int32.ofNat (min kk nn))), (.long p2)])) (fun _ k_ => XS.iload X36.here hx rfl (Jvm.hb hby at_527) rfl k_) ?_
    obtain ⟨T37, L37, v37, X37, hQ37, st37⟩ := own_static X36 hx hZ hown (hw _ (List.mem_of_getElem? (i := 26) rfl)) (hw _ (List.mem_of_getElem? (i := 27) rfl)) (hw _ (List.mem_of_getElem? (i := 7) rfl)) (hw _ (List.mem_of_getElem? (i := 28) rfl)) (by decide) (rm_low l Z a0 hw [] _ hk n0 Zk) e36 (g := (mkF m 529 #[.val (.int p0), .val (.int p1), .val (.long p2), .second, .val (.int p3), .val (.int p4), .val (.int p5), .val (.int (Int32.ofNat nn)), .val (.int (p0 &&& (3 : Int32))), .val (.ref ms), .val (.int (Int32.ofNat kk)), .val (.int (0 : Int32)), .val (.int (-1 : Int32)), .val (.long p2), .second, .val (.ref ar), .val (.double (FP.ddiv (FP.i2d (Int32.ofNat (own_cnt (own_bit p2) (min kk nn)))) (FP.i2d (Int32.ofNat kk)))), .second, .unset, .unset, .val (.int (Int32.ofNat (min kk nn))), .unset] [(.int (Int32.ofNat (min kk nn))), (.long p2)])) rfl (by rw [hml]; rfl) (argsL := [(.int (Int32.ofNat (min kk nn)))]) (rest := [(.long p2)]) (lenOf pd_d5 rfl) rfl (W := 2) (by show 2 * 0 + _ ≤ _; exact Nat.le_of_eq rfl) (Jvm.hb hby at_529) (by decide) (by decide) (by decide) (by decide)
    obtain ⟨rfl, Nq37, e37⟩ := hQ37
    have N37 := Fr.app N36 Nq37
    refine own_go (t' := T37.setTop (mkF m 532 #[.val (.int p0), .val (.int p1), .val (.long p2), .second, .val (.int p3), .val (.int p4), .val (.int p5), .val (.int (Int32.ofNat nn)), .val (.int (p0 &&& (3 : Int32))), .val (.ref ms), .val (.int (Int32.ofNat kk)), .val (.int (0 : Int32)), .val (.int (-1 : Int32)), .val (.long p2), .second, .val (.ref ar), .val (.double (FP.ddiv (FP.i2d (Int32.ofNat (own_cnt (own_bit p2) (min kk nn)))) (FP.i2d (Int32.ofNat kk)))), .second, .unset, .unset, .val (.int (Int32.ofNat (min kk nn))), .unset] [(.long (own_low (Int32.ofNat (min kk nn)))), (.long p2)])) st37 ?_
    refine own_go (t' := T37.setTop (mkF m 533 #[.val (.int p0), .val (.int p1), .val (.long p2), .second, .val (.int p3), .val (.int p4), .val (.int p5), .val (.int (Int32.ofNat nn)), .val (.int (p0 &&& (3 : Int32))), .val (.ref ms), .val (.int (Int32.ofNat kk)), .val (.int (0 : Int32)), .val (.int (-1 : Int32)), .val (.long p2), .second, .val (.ref ar), .val (.double (FP.ddiv (FP.i2d (Int32.ofNat (own_cnt (own_bit p2) (min kk nn)))) (FP.i2d (Int32.ofNat kk)))), .second, .unset, .unset, .val (.int (Int32.ofNat (min kk nn))), .unset] [(.long (p2 &&& (own_low (Int32.ofNat (min kk nn)))))])) (fun _ k_ => XS.land X37.here hx rfl (Jvm.hb hby at_532) rfl k_) ?_
    obtain ⟨T38, L38, v38, X38, hQ38, st38⟩ := own_static X37 hx hZ hown (hw _ (List.mem_of_getElem? (i := 29) rfl)) (hw _ (List.mem_of_getElem? (i := 30) rfl)) (hw _ (List.mem_of_getElem? (i := 7) rfl)) (hw _ (List.mem_of_getElem? (i := 31) rfl)) (by decide) (rm_pop l Z a0 hw [] _ hk n0 Zk) e37 (g := (mkF m 533 #[.val (.int p0), .val (.int p1), .val (.long p2), .second, .val (.int p3), .val (.int p4), .val (.int p5), .val (.int (Int32.ofNat nn)), .val (.int (p0 &&& (3 : Int32))), .val (.ref ms), .val (.int (Int32.ofNat kk)), .val (.int (0 : Int32)), .val (.int (-1 : Int32)), .val (.long p2), .second, .val (.ref ar), .val (.double (FP.ddiv (FP.i2d (Int32.ofNat (own_cnt (own_bit p2) (min kk nn)))) (FP.i2d (Int32.ofNat kk)))), .second, .unset, .unset, .val (.int (Int32.ofNat (min kk nn))), .unset] [(.long (p2 &&& (own_low (Int32.ofNat (min kk nn)))))])) rfl (by rw [hml]; rfl) (argsL := [(.long (p2 &&& (own_low (Int32.ofNat (min kk nn)))))]) (rest := []) (lenOf pd_d6 rfl) rfl (W := 0) (by show 2 * 0 + _ ≤ _; exact Nat.le_of_eq rfl) (Jvm.hb hby at_533) (by decide) (by decide) (by decide) (by decide)
    obtain ⟨rfl, Nq38, e38⟩ := hQ38
    have N38 := Fr.app N37 Nq38
    refine own_go (t' := T38.setTop (mkF m 536 #[.val (.int p0), .val (.int p1), .val (.long p2), .second, .val (.int p3), .val (.int p4), .val (.int p5), .val (.int (Int32.ofNat nn)), .val (.int (p0 &&& (3 : Int32))), .val (.ref ms), .val (.int (Int32.ofNat kk)), .val (.int (0 : Int32)), .val (.int (-1 : Int32)), .val (.long p2), .second, .val (.ref ar), .val (.double (FP.ddiv (FP.i2d (Int32.ofNat (own_cnt (own_bit p2) (min kk nn)))) (FP.i2d (Int32.ofNat kk)))), .second, .unset, .unset, .val (.int (Int32.ofNat (min kk nn))), .unset] [(.int (own_pop (p2 &&& own_low (Int32.ofNat (min kk nn)))))])) st38 ?_
    rw [own_pop_low p2 (by omega)]
    refine own_go (t' := T38.setTop (mkF m 538 #[.val (.int p0), .val (.int p1), .val (.long p2), .second, .val (.int p3), .val (.int p4), .val (.int p5), .val (.int (Int32.ofNat nn)), .val (.int (p0 &&& (3 : Int32))), .val (.ref ms), .val (.int (Int32.ofNat kk)), .val (.int (0 : Int32)), .val (.int (-1 : Int32)), .val (.long p2), .second, .val (.ref ar), .val (.double (FP.ddiv (FP.i2d (Int32.ofNat (own_cnt (own_bit p2) (min kk nn)))) (FP.i2d (Int32.ofNat kk)))), .second, .unset, .unset, .val (.int (Int32.ofNat (min kk nn))), .val (.int (Int32.ofNat (own_cnt (own_N p2).testBit (min kk nn))))] [])) (fun _ k_ => XS.istore X38.here hx rfl (Jvm.hb hby at_536) rfl (l' := #[.val (.int p0), .val (.int p1), .val (.long p2), .second, .val (.int p3), .val (.int p4), .val (.int p5), .val (.int (Int32.ofNat nn)), .val (.int (p0 &&& (3 : Int32))), .val (.ref ms), .val (.int (Int32.ofNat kk)), .val (.int (0 : Int32)), .val (.int (-1 : Int32)), .val (.long p2), .second, .val (.ref ar), .val (.double (FP.ddiv (FP.i2d (Int32.ofNat (own_cnt (own_bit p2) (min kk nn)))) (FP.i2d (Int32.ofNat kk)))), .second, .unset, .unset, .val (.int (Int32.ofNat (min kk nn))), .val (.int (Int32.ofNat (own_cnt (own_N p2).testBit (min kk nn))))]) rfl k_) ?_
    refine own_go (t' := T38.setTop (mkF m 540 #[.val (.int p0), .val (.int p1), .val (.long p2), .second, .val (.int p3), .val (.int p4), .val (.int p5), .val (.int (Int32.ofNat nn)), .val (.int (p0 &&& (3 : Int32))), .val (.ref ms), .val (.int (Int32.ofNat kk)), .val (.int (0 : Int32)), .val (.int (-1 : Int32)), .val (.long p2), .second, .val (.ref ar), .val (.double (FP.ddiv (FP.i2d (Int32.ofNat (own_cnt (own_bit p2) (min kk nn)))) (FP.i2d (Int32.ofNat kk)))), .second, .unset, .unset, .val (.int (Int32.ofNat (min kk nn))), .val (.int (Int32.ofNat (own_cnt (own_N p2).testBit (min kk nn))))] [(.int (Int32.ofNat (own_cnt (own_N p2).testBit (min kk nn))))])) (fun _ k_ => XS.iload X38.here hx rfl (Jvm.hb hby at_538) rfl k_) ?_
    refine own_go (t' := T38.setTop (mkF m 541 #[.val (.int p0), .val (.int p1), .val (.long p2), .second, .val (.int p3), .val (.int p4), .val (.int p5), .val (.int (Int32.ofNat nn)), .val (.int (p0 &&& (3 : Int32))), .val (.ref ms), .val (.int (Int32.ofNat kk)), .val (.int (0 : Int32)), .val (.int (-1 : Int32)), .val (.long p2), .second, .val (.ref ar), .val (.double (FP.ddiv (FP.i2d (Int32.ofNat (own_cnt (own_bit p2) (min kk nn)))) (FP.i2d (Int32.ofNat kk)))), .second, .unset, .unset, .val (.int (Int32.ofNat (min kk nn))), .val (.int (Int32.ofNat (own_cnt (own_N p2).testBit (min kk nn))))] [(.double (FP.i2d (Int32.ofNat (own_cnt (own_N p2).testBit (min kk nn)))))])) (fun _ k_ => XS.i2dS X38.here hx rfl (Jvm.hb hby at_540) rfl rfl k_) ?_
    refine own_go (t' := T38.setTop (mkF m 543 #[.val (.int p0), .val (.int p1), .val (.long p2), .second, .val (.int p3), .val (.int p4), .val (.int p5), .val (.int (Int32.ofNat nn)), .val (.int (p0 &&& (3 : Int32))), .val (.ref ms), .val (.int (Int32.ofNat kk)), .val (.int (0 : Int32)), .val (.int (-1 : Int32)), .val (.long p2), .second, .val (.ref ar), .val (.double (FP.ddiv (FP.i2d (Int32.ofNat (own_cnt (own_bit p2) (min kk nn)))) (FP.i2d (Int32.ofNat kk)))), .second, .unset, .unset, .val (.int (Int32.ofNat (min kk nn))), .val (.int (Int32.ofNat (own_cnt (own_N p2).testBit (min kk nn))))] [(.int (Int32.ofNat kk)), (.double (FP.i2d (Int32.ofNat (own_cnt (own_N p2).testBit (min kk nn)))))])) (fun _ k_ => XS.iload X38.here hx rfl (Jvm.hb hby at_541) rfl k_) ?_
    refine own_go (t' := T38.setTop (mkF m 544 #[.val (.int p0), .val (.int p1), .val (.long p2), .second, .val (.int p3), .val (.int p4), .val (.int p5), .val (.int (Int32.ofNat nn)), .val (.int (p0 &&& (3 : Int32))), .val (.ref ms), .val (.int (Int32.ofNat kk)), .val (.int (0 : Int32)), .val (.int (-1 : Int32)), .val (.long p2), .second, .val (.ref ar), .val (.double (FP.ddiv (FP.i2d (Int32.ofNat (own_cnt (own_bit p2) (min kk nn)))) (FP.i2d (Int32.ofNat kk)))), .second, .unset, .unset, .val (.int (Int32.ofNat (min kk nn))), .val (.int (Int32.ofNat (own_cnt (own_N p2).testBit (min kk nn))))] [(.double (FP.i2d (Int32.ofNat kk))), (.double (FP.i2d (Int32.ofNat (own_cnt (own_N p2).testBit (min kk nn)))))])) (fun _ k_ => XS.i2dS X38.here hx rfl (Jvm.hb hby at_543) rfl rfl k_) ?_
    have hnn2 : Jvm.Free.Fl.NoNaN64 (FP.ddiv (FP.i2d (Int32.ofNat (own_cnt (own_bit p2) (min kk nn)))) (FP.i2d (Int32.ofNat kk))) := OwnFp.div_any (OwnFp.fin_nan (OwnFp.i2d_f _)) (own_knz hk1 hk2)
    refine own_go (t' := T38.setTop (mkF m 545 #[.val (.int p0), .val (.int p1), .val (.long p2), .second, .val (.int p3), .val (.int p4), .val (.int p5), .val (.int (Int32.ofNat nn)), .val (.int (p0 &&& (3 : Int32))), .val (.ref ms), .val (.int (Int32.ofNat kk)), .val (.int (0 : Int32)), .val (.int (-1 : Int32)), .val (.long p2), .second, .val (.ref ar), .val (.double (FP.ddiv (FP.i2d (Int32.ofNat (own_cnt (own_bit p2) (min kk nn)))) (FP.i2d (Int32.ofNat kk)))), .second, .unset, .unset, .val (.int (Int32.ofNat (min kk nn))), .val (.int (Int32.ofNat (own_cnt (own_N p2).testBit (min kk nn))))] [(.double (FP.ddiv (FP.i2d (Int32.ofNat (own_cnt (own_N p2).testBit (min kk nn)))) (FP.i2d (Int32.ofNat kk))))])) (fun _ k_ => XS.ddivS X38.here hx rfl (Jvm.hb hby at_544) rfl hnn2 rfl k_) ?_
    refine own_go (t' := T38.setTop (mkF m 547 #[.val (.int p0), .val (.int p1), .val (.long p2), .second, .val (.int p3), .val (.int p4), .val (.int p5), .val (.int (Int32.ofNat nn)), .val (.int (p0 &&& (3 : Int32))), .val (.ref ms), .val (.int (Int32.ofNat kk)), .val (.int (0 : Int32)), .val (.int (-1 : Int32)), .val (.long p2), .second, .val (.ref ar), .val (.double (FP.ddiv (FP.i2d (Int32.ofNat (own_cnt (own_bit p2) (min kk nn)))) (FP.i2d (Int32.ofNat kk)))), .second, .val (.double (FP.ddiv (FP.i2d (Int32.ofNat (own_cnt (own_N p2).testBit (min kk nn)))) (FP.i2d (Int32.ofNat kk)))), .second, .val (.int (Int32.ofNat (min kk nn))), .val (.int (Int32.ofNat (own_cnt (own_N p2).testBit (min kk nn))))] [])) (fun _ k_ => XS.dstore X38.here hx rfl (Jvm.hb hby at_545) rfl (l' := #[.val (.int p0), .val (.int p1), .val (.long p2), .second, .val (.int p3), .val (.int p4), .val (.int p5), .val (.int (Int32.ofNat nn)), .val (.int (p0 &&& (3 : Int32))), .val (.ref ms), .val (.int (Int32.ofNat kk)), .val (.int (0 : Int32)), .val (.int (-1 : Int32)), .val (.long p2), .second, .val (.ref ar), .val (.double (FP.ddiv (FP.i2d (Int32.ofNat (own_cnt (own_bit p2) (min kk nn)))) (FP.i2d (Int32.ofNat kk)))), .second, .val (.double (FP.ddiv (FP.i2d (Int32.ofNat (own_cnt (own_N p2).testBit (min kk nn)))) (FP.i2d (Int32.ofNat kk)))), .second, .val (.int (Int32.ofNat (min kk nn))), .val (.int (Int32.ofNat (own_cnt (own_N p2).testBit (min kk nn))))]) rfl k_) ?_
    refine own_go (t' := T38.setTop (mkF m 549 #[.val (.int p0), .val (.int p1), .val (.long p2), .second, .val (.int p3), .val (.int p4), .val (.int p5), .val (.int (Int32.ofNat nn)), .val (.int (p0 &&& (3 : Int32))), .val (.ref ms), .val (.int (Int32.ofNat kk)), .val (.int (0 : Int32)), .val (.int (-1 : Int32)), .val (.long p2), .second, .val (.ref ar), .val (.double (FP.ddiv (FP.i2d (Int32.ofNat (own_cnt (own_bit p2) (min kk nn)))) (FP.i2d (Int32.ofNat kk)))), .second, .val (.double (FP.ddiv (FP.i2d (Int32.ofNat (own_cnt (own_N p2).testBit (min kk nn)))) (FP.i2d (Int32.ofNat kk)))), .second, .val (.int (Int32.ofNat (min kk nn))), .val (.int (Int32.ofNat (own_cnt (own_N p2).testBit (min kk nn))))] [(.double (FP.ddiv (FP.i2d (Int32.ofNat (own_cnt (own_bit p2) (min kk nn)))) (FP.i2d (Int32.ofNat kk))))])) (fun _ k_ => XS.dload X38.here hx rfl (Jvm.hb hby at_547) rfl k_) ?_
    refine own_go (t' := T38.setTop (mkF m 551 #[.val (.int p0), .val (.int p1), .val (.long p2), .second, .val (.int p3), .val (.int p4), .val (.int p5), .val (.int (Int32.ofNat nn)), .val (.int (p0 &&& (3 : Int32))), .val (.ref ms), .val (.int (Int32.ofNat kk)), .val (.int (0 : Int32)), .val (.int (-1 : Int32)), .val (.long p2), .second, .val (.ref ar), .val (.double (FP.ddiv (FP.i2d (Int32.ofNat (own_cnt (own_bit p2) (min kk nn)))) (FP.i2d (Int32.ofNat kk)))), .second, .val (.double (FP.ddiv (FP.i2d (Int32.ofNat (own_cnt (own_N p2).testBit (min kk nn)))) (FP.i2d (Int32.ofNat kk)))), .second, .val (.int (Int32.ofNat (min kk nn))), .val (.int (Int32.ofNat (own_cnt (own_N p2).testBit (min kk nn))))] [(.double (FP.ddiv (FP.i2d (Int32.ofNat (own_cnt (own_N p2).testBit (min kk nn)))) (FP.i2d (Int32.ofNat kk)))), (.double (FP.ddiv (FP.i2d (Int32.ofNat (own_cnt (own_bit p2) (min kk nn)))) (FP.i2d (Int32.ofNat kk))))])) (fun _ k_ => XS.dload X38.here hx rfl (Jvm.hb hby at_549) rfl k_) ?_
    refine own_go (t' := T38.setTop (mkF m 552 #[.val (.int p0), .val (.int p1), .val (.long p2), .second, .val (.int p3), .val (.int p4), .val (.int p5), .val (.int (Int32.ofNat nn)), .val (.int (p0 &&& (3 : Int32))), .val (.ref ms), .val (.int (Int32.ofNat kk)), .val (.int (0 : Int32)), .val (.int (-1 : Int32)), .val (.long p2), .second, .val (.ref ar), .val (.double (FP.ddiv (FP.i2d (Int32.ofNat (own_cnt (own_bit p2) (min kk nn)))) (FP.i2d (Int32.ofNat kk)))), .second, .val (.double (FP.ddiv (FP.i2d (Int32.ofNat (own_cnt (own_N p2).testBit (min kk nn)))) (FP.i2d (Int32.ofNat kk)))), .second, .val (.int (Int32.ofNat (min kk nn))), .val (.int (Int32.ofNat (own_cnt (own_N p2).testBit (min kk nn))))] [(.int (cmpValue (FP.dcmp (FP.ddiv (FP.i2d (Int32.ofNat (own_cnt (own_bit p2) (min kk nn)))) (FP.i2d (Int32.ofNat kk))) (FP.ddiv (FP.i2d (Int32.ofNat (own_cnt (own_N p2).testBit (min kk nn)))) (FP.i2d (Int32.ofNat kk)))) CmpOp.l))])) (fun _ k_ => XS.dcmpS X38.here hx rfl (Jvm.hb hby at_551) rfl rfl k_) ?_
    refine own_go (t' := T38.setTop (mkF m 555 #[.val (.int p0), .val (.int p1), .val (.long p2), .second, .val (.int p3), .val (.int p4), .val (.int p5), .val (.int (Int32.ofNat nn)), .val (.int (p0 &&& (3 : Int32))), .val (.ref ms), .val (.int (Int32.ofNat kk)), .val (.int (0 : Int32)), .val (.int (-1 : Int32)), .val (.long p2), .second, .val (.ref ar), .val (.double (FP.ddiv (FP.i2d (Int32.ofNat (own_cnt (own_bit p2) (min kk nn)))) (FP.i2d (Int32.ofNat kk)))), .second, .val (.double (FP.ddiv (FP.i2d (Int32.ofNat (own_cnt (own_N p2).testBit (min kk nn)))) (FP.i2d (Int32.ofNat kk)))), .second, .val (.int (Int32.ofNat (min kk nn))), .val (.int (Int32.ofNat (own_cnt (own_N p2).testBit (min kk nn))))] [])) (fun _ k_ => XS.ifNo X38.here hx rfl (Jvm.hb hby at_552) rfl ((if0 _ _).trans (teq (OwnFp.self_eq hnn2 _)).2) k_) ?_
    refine own_go (t' := T38.setTop (mkF m 556 #[.val (.int p0), .val (.int p1), .val (.long p2), .second, .val (.int p3), .val (.int p4), .val (.int p5), .val (.int (Int32.ofNat nn)), .val (.int (p0 &&& (3 : Int32))), .val (.ref ms), .val (.int (Int32.ofNat kk)), .val (.int (0 : Int32)), .val (.int (-1 : Int32)), .val (.long p2), .second, .val (.ref ar), .val (.double (FP.ddiv (FP.i2d (Int32.ofNat (own_cnt (own_bit p2) (min kk nn)))) (FP.i2d (Int32.ofNat kk)))), .second, .val (.double (FP.ddiv (FP.i2d (Int32.ofNat (own_cnt (own_N p2).testBit (min kk nn)))) (FP.i2d (Int32.ofNat kk)))), .second, .val (.int (Int32.ofNat (min kk nn))), .val (.int (Int32.ofNat (own_cnt (own_N p2).testBit (min kk nn))))] [(.int (1 : Int32))])) (fun _ k_ => XS.iconst X38.here hx rfl (Jvm.hb hby at_555) k_) ?_
    refine own_go (t' := T38.setTop (mkF m 560 #[.val (.int p0), .val (.int p1), .val (.long p2), .second, .val (.int p3), .val (.int p4), .val (.int p5), .val (.int (Int32.ofNat nn)), .val (.int (p0 &&& (3 : Int32))), .val (.ref ms), .val (.int (Int32.ofNat kk)), .val (.int (0 : Int32)), .val (.int (-1 : Int32)), .val (.long p2), .second, .val (.ref ar), .val (.double (FP.ddiv (FP.i2d (Int32.ofNat (own_cnt (own_bit p2) (min kk nn)))) (FP.i2d (Int32.ofNat kk)))), .second, .val (.double (FP.ddiv (FP.i2d (Int32.ofNat (own_cnt (own_N p2).testBit (min kk nn)))) (FP.i2d (Int32.ofNat kk)))), .second, .val (.int (Int32.ofNat (min kk nn))), .val (.int (Int32.ofNat (own_cnt (own_N p2).testBit (min kk nn))))] [(.int (1 : Int32))])) (fun _ k_ => XS.goto X38.here hx rfl (pc0 := 556) (pc' := 560) rfl (Jvm.hb hby at_556) (by decide) (by decide) k_) ?_
    exact own_retZ X38 hx Bd.returns (BodyLoose.notSynchronized Bd) rfl (Jvm.hb hby at_560) (by decide) (by decide) ⟨rfl, N38⟩
  have JB : ∀ (Tj : State) (lj : List Loc) (mm : Nat) (pI : Int32), Stand p l e room_1 s m #[(.int p0), (.int p1), (.long p2), (.int p3), (.int p4), (.int p5)] below meth c Tj lj 0 0 → Tj.heap = h0 → Fr n0 lj → (p0 &&& (3 : Int32)) = 3 → mm ≤ nn → (pI = -1 ∨ ∃ pp : Nat, mm ≤ pp ∧ pp < nn ∧ pI = Int32.ofNat pp) → own_Ends p.tables e below (own_F s (fun v h L => v = some (.int 1) ∧ Fr n0 L) room_1.cells room_1.slots) (Tj.setTop (mkF m 127 #[.val (.int p0), .val (.int p1), .val (.long p2), .second, .val (.int p3), .val (.int p4), .val (.int p5), .val (.int (Int32.ofNat nn)), .val (.int (p0 &&& (3 : Int32))), .val (.ref aM), .val (.int (0 : Int32)), .val (.int (Int32.ofNat mm)), .val (.int pI), .unset, .unset, .unset, .unset, .unset, .unset, .unset, .unset, .unset] [])) := by
    intro Tj lj mm pI Xj ej Nj hsel hmn hpI
    refine own_go (t' := Tj.setTop (mkF m 129 #[.val (.int p0), .val (.int p1), .val (.long p2), .second, .val (.int p3), .val (.int p4), .val (.int p5), .val (.int (Int32.ofNat nn)), .val (.int (p0 &&& (3 : Int32))), .val (.ref aM), .val (.int (0 : Int32)), .val (.int (Int32.ofNat mm)), .val (.int pI), .unset, .unset, .unset, .unset, .unset, .unset, .unset, .unset, .unset] [(.int (Int32.ofNat mm))])) (fun _ k_ => XS.iload Xj.here hx rfl (Jvm.hb hby at_127) rfl k_) ?_
    obtain ⟨T39, L39, v39, X39, hQ39, st39⟩ := own_static Xj hx hZ hown (hw _ (List.mem_of_getElem? (i := 26) rfl)) (hw _ (List.mem_of_getElem? (i := 27) rfl)) (hw _ (List.mem_of_getElem? (i := 7) rfl)) (hw _ (List.mem_of_getElem? (i := 28) rfl)) (by decide) (rm_low l Z a0 hw [] _ h0 n0 Z0) ej (g := (mkF m 129 #[.val (.int p0), .val (.int p1), .val (.long p2), .second, .val (.int p3), .val (.int p4), .val (.int p5), .val (.int (Int32.ofNat nn)), .val (.int (p0 &&& (3 : Int32))), .val (.ref aM), .val (.int (0 : Int32)), .val (.int (Int32.ofNat mm)), .val (.int pI), .unset, .unset, .unset, .unset, .unset, .unset, .unset, .unset, .unset] [(.int (Int32.ofNat mm))])) rfl (by rw [hml]; rfl) (argsL := [(.int (Int32.ofNat mm))]) (rest := []) (lenOf pd_d5 rfl) rfl (W := 0) (by show 2 * 0 + _ ≤ _; exact Nat.le_of_eq rfl) (Jvm.hb hby at_129) (by decide) (by decide) (by decide) (by decide)
    obtain ⟨rfl, Nq39, e39⟩ := hQ39
    have N39 := Fr.app Nj Nq39
    refine own_go (t' := T39.setTop (mkF m 132 #[.val (.int p0), .val (.int p1), .val (.long p2), .second, .val (.int p3), .val (.int p4), .val (.int p5), .val (.int (Int32.ofNat nn)), .val (.int (p0 &&& (3 : Int32))), .val (.ref aM), .val (.int (0 : Int32)), .val (.int (Int32.ofNat mm)), .val (.int pI), .unset, .unset, .unset, .unset, .unset, .unset, .unset, .unset, .unset] [(.long (own_low (Int32.ofNat mm)))])) st39 ?_
    refine own_go (t' := T39.setTop (mkF m 134 #[.val (.int p0), .val (.int p1), .val (.long p2), .second, .val (.int p3), .val (.int p4), .val (.int p5), .val (.int (Int32.ofNat nn)), .val (.int (p0 &&& (3 : Int32))), .val (.ref aM), .val (.int (0 : Int32)), .val (.int (Int32.ofNat mm)), .val (.int pI), .unset, .unset, .unset, .unset, .unset, .unset, .unset, .unset, .unset] [(.int pI), (.long (own_low (Int32.ofNat mm)))])) (fun _ k_ => XS.iload X39.here hx rfl (Jvm.hb hby at_132) rfl k_) ?_
    rcases hpI with rfl | ⟨pp, hp1, hp2, rfl⟩
    ·
      refine own_go (t' := T39.setTop (mkF m 144 #[.val (.int p0), .val (.int p1), .val (.long p2), .second, .val (.int p3), .val (.int p4), .val (.int p5), .val (.int (Int32.ofNat nn)), .val (.int (p0 &&& (3 : Int32))), .val (.ref aM), .val (.int (0 : Int32)), .val (.int (Int32.ofNat mm)), .val (.int (-1 : Int32)), .unset, .unset, .unset, .unset, .unset, .unset, .unset, .unset, .unset] [(.long (own_low (Int32.ofNat mm)))])) (fun _ k_ => XS.ifYes X39.here hx rfl (pc0 := 134) (pc' := 144) rfl (Jvm.hb hby at_134) rfl ((if0 _ _).trans (tlt (by decide)).1) (by decide) (by decide) k_) ?_
      refine own_go (t' := T39.setTop (mkF m 145 #[.val (.int p0), .val (.int p1), .val (.long p2), .second, .val (.int p3), .val (.int p4), .val (.int p5), .val (.int (Int32.ofNat nn)), .val (.int (p0 &&& (3 : Int32))), .val (.ref aM), .val (.int (0 : Int32)), .val (.int (Int32.ofNat mm)), .val (.int (-1 : Int32)), .unset, .unset, .unset, .unset, .unset, .unset, .unset, .unset, .unset] [(.long (0 : Int64)), (.long (own_low (Int32.ofNat mm)))])) (fun _ k_ => XS.lconst X39.here hx rfl (Jvm.hb hby at_144) k_) ?_
      refine own_go (t' := T39.setTop (mkF m 146 #[.val (.int p0), .val (.int p1), .val (.long p2), .second, .val (.int p3), .val (.int p4), .val (.int p5), .val (.int (Int32.ofNat nn)), .val (.int (p0 &&& (3 : Int32))), .val (.ref aM), .val (.int (0 : Int32)), .val (.int (Int32.ofNat mm)), .val (.int (-1 : Int32)), .unset, .unset, .unset, .unset, .unset, .unset, .unset, .unset, .unset] [(.long ((own_low (Int32.ofNat mm)) ||| (0 : Int64)))])) (fun _ k_ => XS.lor X39.here hx rfl (Jvm.hb hby at_145) rfl k_) ?_
      refine own_go (t' := T39.setTop (mkF m 148 #[.val (.int p0), .val (.int p1), .val (.long p2), .second, .val (.int p3), .val (.int p4), .val (.int p5), .val (.int (Int32.ofNat nn)), .val (.int (p0 &&& (3 : Int32))), .val (.ref aM), .val (.int (0 : Int32)), .val (.int (Int32.ofNat mm)), .val (.int (-1 : Int32)), .val (.long ((own_low (Int32.ofNat mm)) ||| (0 : Int64))), .second, .unset, .unset, .unset, .unset, .unset, .unset, .unset] [])) (fun _ k_ => XS.lstore X39.here hx rfl (Jvm.hb hby at_146) rfl (l' := #[.val (.int p0), .val (.int p1), .val (.long p2), .second, .val (.int p3), .val (.int p4), .val (.int p5), .val (.int (Int32.ofNat nn)), .val (.int (p0 &&& (3 : Int32))), .val (.ref aM), .val (.int (0 : Int32)), .val (.int (Int32.ofNat mm)), .val (.int (-1 : Int32)), .val (.long ((own_low (Int32.ofNat mm)) ||| (0 : Int64))), .second, .unset, .unset, .unset, .unset, .unset, .unset, .unset]) rfl k_) ?_
      refine own_go (t' := T39.setTop (mkF m 154 #[.val (.int p0), .val (.int p1), .val (.long p2), .second, .val (.int p3), .val (.int p4), .val (.int p5), .val (.int (Int32.ofNat nn)), .val (.int (p0 &&& (3 : Int32))), .val (.ref aM), .val (.int (0 : Int32)), .val (.int (Int32.ofNat mm)), .val (.int (-1 : Int32)), .val (.long ((own_low (Int32.ofNat mm)) ||| (0 : Int64))), .second, .unset, .unset, .unset, .unset, .unset, .unset, .unset] [])) (fun _ k_ => XS.goto X39.here hx rfl (pc0 := 148) (pc' := 154) rfl (Jvm.hb hby at_148) (by decide) (by decide) k_) ?_
      refine seg _ _ aM _ _ _ ((own_low (Int32.ofNat mm)) ||| (0 : Int64)) X39 e39 N39 ?_
      intro Tk lk hk ar Xk ek Nk KK SS ⟨f, A, hf⟩
      have hsum : (own_ap (own_bit ((own_low (Int32.ofNat mm)) ||| (0 : Int64))) nn).1 = (FP.i2d (Int32.ofNat mm)) := own_ap_m hmn (by omega) (fun i hi => by rw [own_pat_m (by omega)]; simp [hi]) (fun i h1 h2 => by rw [own_pat_m (by omega)]; simp [show ¬ i < mm by omega])
      have hfin := own_ap_fin (own_bit ((own_low (Int32.ofNat mm)) ||| (0 : Int64))) nn (by omega)
      have Zk : n0 ≤ hk.size := Nat.le_trans Z0 KK.1
      refine own_go (t' := Tk.setTop (mkF m 453 #[.val (.int p0), .val (.int p1), .val (.long p2), .second, .val (.int p3), .val (.int p4), .val (.int p5), .val (.int (Int32.ofNat nn)), .val (.int (p0 &&& (3 : Int32))), .val (.ref aM), .val (.int (0 : Int32)), .val (.int (Int32.ofNat mm)), .val (.int (-1 : Int32)), .val (.long ((own_low (Int32.ofNat mm)) ||| (0 : Int64))), .second, .val (.ref ar), .unset, .unset, .unset, .unset, .unset, .unset] [(.ref aM)])) (fun _ k_ => XS.aload Xk.here hx rfl (Jvm.hb hby at_451) rfl rfl k_) ?_
      refine own_go (t' := Tk.setTop (mkF m 455 #[.val (.int p0), .val (.int p1), .val (.long p2), .second, .val (.int p3), .val (.int p4), .val (.int p5), .val (.int (Int32.ofNat nn)), .val (.int (p0 &&& (3 : Int32))), .val (.ref aM), .val (.int (0 : Int32)), .val (.int (Int32.ofNat mm)), .val (.int (-1 : Int32)), .val (.long ((own_low (Int32.ofNat mm)) ||| (0 : Int64))), .second, .val (.ref ar), .unset, .unset, .unset, .unset, .unset, .unset] [(.ref ar), (.ref aM)])) (fun _ k_ => XS.aload Xk.here hx rfl (Jvm.hb hby at_453) rfl rfl k_) ?_
      refine own_go (t' := Tk.setTop (mkF m 457 #[.val (.int p0), .val (.int p1), .val (.long p2), .second, .val (.int p3), .val (.int p4), .val (.int p5), .val (.int (Int32.ofNat nn)), .val (.int (p0 &&& (3 : Int32))), .val (.ref aM), .val (.int (0 : Int32)), .val (.int (Int32.ofNat mm)), .val (.int (-1 : Int32)), .val (.long ((own_low (Int32.ofNat mm)) ||| (0 : Int64))), .second, .val (.ref ar), .unset, .unset, .unset, .unset, .unset, .unset] [(.int p3), (.ref ar), (.ref aM)])) (fun _ k_ => XS.iload Xk.here hx rfl (Jvm.hb hby at_455) rfl k_) ?_
      obtain ⟨T40, L40, v40, X40, hQ40, st40⟩ := own_virtual Xk hx hZ (y := (⟨"com/example/kobe/kobe/eval/Measure", "score", "([ZI)D"⟩ : MethodName)) hown (hw _ (List.mem_of_getElem? (i := 9) rfl)) (hw _ (List.mem_of_getElem? (i := 10) rfl)) (hw _ (List.mem_of_getElem? (i := 12) rfl)) (hw _ (List.mem_of_getElem? (i := 11) rfl)) (hw _ (List.mem_of_getElem? (i := 13) rfl)) (hw _ (List.mem_of_getElem? (i := 2) rfl)) (by decide) (X_M.keep KK) (rm_scM l Z a0 hw [] ar aM nn p3 ((own_low (Int32.ofNat mm)) ||| (0 : Int64)) f hk n0 Zk A hnn hf (SS _ _ _ _ S_M)) ek (g := (mkF m 457 #[.val (.int p0), .val (.int p1), .val (.long p2), .second, .val (.int p3), .val (.int p4), .val (.int p5), .val (.int (Int32.ofNat nn)), .val (.int (p0 &&& (3 : Int32))), .val (.ref aM), .val (.int (0 : Int32)), .val (.int (Int32.ofNat mm)), .val (.int (-1 : Int32)), .val (.long ((own_low (Int32.ofNat mm)) ||| (0 : Int64))), .second, .val (.ref ar), .unset, .unset, .unset, .unset, .unset, .unset] [(.int p3), (.ref ar), (.ref aM)])) rfl (by rw [hml]; rfl) (argsL := [(.ref ar), (.int p3)]) (rest := []) (lenOf pd_d2 rfl) rfl (W := 0) (by show 2 * 0 + _ ≤ _; exact Nat.le_of_eq rfl) (Jvm.hb hby at_457) (by decide) (by decide) (by decide) (by decide)
      obtain ⟨rfl, Nq40, e40⟩ := hQ40
      have N40 := Fr.app Nk Nq40
      refine own_go (t' := T40.setTop (mkF m 460 #[.val (.int p0), .val (.int p1), .val (.long p2), .second, .val (.int p3), .val (.int p4), .val (.int p5), .val (.int (Int32.ofNat nn)), .val (.int (p0 &&& (3 : Int32))), .val (.ref aM), .val (.int (0 : Int32)), .val (.int (Int32.ofNat mm)), .val (.int (-1 : Int32)), .val (.long ((own_low (Int32.ofNat mm)) ||| (0 : Int64))), .second, .val (.ref ar), .unset, .unset, .unset, .unset, .unset, .unset] [(.double (if p3 = 0 then (0 : UInt64) else FP.ddiv (own_ap (own_bit ((own_low (Int32.ofNat mm)) ||| (0 : Int64))) nn).1 (FP.i2d p3)))])) st40 ?_
      rw [hsum] at hfin ⊢
      refine own_go (t' := T40.setTop (mkF m 462 #[.val (.int p0), .val (.int p1), .val (.long p2), .second, .val (.int p3), .val (.int p4), .val (.int p5), .val (.int (Int32.ofNat nn)), .val (.int (p0 &&& (3 : Int32))), .val (.ref aM), .val (.int (0 : Int32)), .val (.int (Int32.ofNat mm)), .val (.int (-1 : Int32)), .val (.long ((own_low (Int32.ofNat mm)) ||| (0 : Int64))), .second, .val (.ref ar), .val (.double (if p3 = 0 then (0 : UInt64) else FP.ddiv (FP.i2d (Int32.ofNat mm)) (FP.i2d p3))), .second, .unset, .unset, .unset, .unset] [])) (fun _ k_ => XS.dstore X40.here hx rfl (Jvm.hb hby at_460) rfl (l' := #[.val (.int p0), .val (.int p1), .val (.long p2), .second, .val (.int p3), .val (.int p4), .val (.int p5), .val (.int (Int32.ofNat nn)), .val (.int (p0 &&& (3 : Int32))), .val (.ref aM), .val (.int (0 : Int32)), .val (.int (Int32.ofNat mm)), .val (.int (-1 : Int32)), .val (.long ((own_low (Int32.ofNat mm)) ||| (0 : Int64))), .second, .val (.ref ar), .val (.double (if p3 = 0 then (0 : UInt64) else FP.ddiv (FP.i2d (Int32.ofNat mm)) (FP.i2d p3))), .second, .unset, .unset, .unset, .unset]) rfl k_) ?_
      refine own_go (t' := T40.setTop (mkF m 464 #[.val (.int p0), .val (.int p1), .val (.long p2), .second, .val (.int p3), .val (.int p4), .val (.int p5), .val (.int (Int32.ofNat nn)), .val (.int (p0 &&& (3 : Int32))), .val (.ref aM), .val (.int (0 : Int32)), .val (.int (Int32.ofNat mm)), .val (.int (-1 : Int32)), .val (.long ((own_low (Int32.ofNat mm)) ||| (0 : Int64))), .second, .val (.ref ar), .val (.double (if p3 = 0 then (0 : UInt64) else FP.ddiv (FP.i2d (Int32.ofNat mm)) (FP.i2d p3))), .second, .unset, .unset, .unset, .unset] [(.int (p0 &&& (3 : Int32)))])) (fun _ k_ => XS.iload X40.here hx rfl (Jvm.hb hby at_462) rfl k_) ?_
      refine own_go (t' := T40.setTop (mkF m 465 #[.val (.int p0), .val (.int p1), .val (.long p2), .second, .val (.int p3), .val (.int p4), .val (.int p5), .val (.int (Int32.ofNat nn)), .val (.int (p0 &&& (3 : Int32))), .val (.ref aM), .val (.int (0 : Int32)), .val (.int (Int32.ofNat mm)), .val (.int (-1 : Int32)), .val (.long ((own_low (Int32.ofNat mm)) ||| (0 : Int64))), .second, .val (.ref ar), .val (.double (if p3 = 0 then (0 : UInt64) else FP.ddiv (FP.i2d (Int32.ofNat mm)) (FP.i2d p3))), .second, .unset, .unset, .unset, .unset] [(.int (3 : Int32)), (.int (p0 &&& (3 : Int32)))])) (fun _ k_ => XS.iconst X40.here hx rfl (Jvm.hb hby at_464) k_) ?_
      refine own_go (t' := T40.setTop (mkF m 468 #[.val (.int p0), .val (.int p1), .val (.long p2), .second, .val (.int p3), .val (.int p4), .val (.int p5), .val (.int (Int32.ofNat nn)), .val (.int (p0 &&& (3 : Int32))), .val (.ref aM), .val (.int (0 : Int32)), .val (.int (Int32.ofNat mm)), .val (.int (-1 : Int32)), .val (.long ((own_low (Int32.ofNat mm)) ||| (0 : Int64))), .second, .val (.ref ar), .val (.double (if p3 = 0 then (0 : UInt64) else FP.ddiv (FP.i2d (Int32.ofNat mm)) (FP.i2d p3))), .second, .unset, .unset, .unset, .unset] [])) (fun _ k_ => XS.icmpNo X40.here hx rfl (Jvm.hb hby at_465) rfl (teq hsel).2 k_) ?_
      refine own_go (t' := T40.setTop (mkF m 470 #[.val (.int p0), .val (.int p1), .val (.long p2), .second, .val (.int p3), .val (.int p4), .val (.int p5), .val (.int (Int32.ofNat nn)), .val (.int (p0 &&& (3 : Int32))), .val (.ref aM), .val (.int (0 : Int32)), .val (.int (Int32.ofNat mm)), .val (.int (-1 : Int32)), .val (.long ((own_low (Int32.ofNat mm)) ||| (0 : Int64))), .second, .val (.ref ar), .val (.double (if p3 = 0 then (0 : UInt64) else FP.ddiv (FP.i2d (Int32.ofNat mm)) (FP.i2d p3))), .second, .unset, .unset, .unset, .unset] [(.int p3)])) (fun _ k_ => XS.iload X40.here hx rfl (Jvm.hb hby at_468) rfl k_) ?_
      by_cases hz : p3 = 0
      ·
        rw [if_pos hz]
        refine own_go (t' := T40.setTop (mkF m 473 #[.val (.int p0), .val (.int p1), .val (.long p2), .second, .val (.int p3), .val (.int p4), .val (.int p5), .val (.int (Int32.ofNat nn)), .val (.int (p0 &&& (3 : Int32))), .val (.ref aM), .val (.int (0 : Int32)), .val (.int (Int32.ofNat mm)), .val (.int (-1 : Int32)), .val (.long ((own_low (Int32.ofNat mm)) ||| (0 : Int64))), .second, .val (.ref ar), .val (.double (0 : UInt64)), .second, .unset, .unset, .unset, .unset] [])) (fun _ k_ => XS.ifNo X40.here hx rfl (Jvm.hb hby at_470) rfl ((if0 _ _).trans (teq hz).2) k_) ?_
        refine own_go (t' := T40.setTop (mkF m 474 #[.val (.int p0), .val (.int p1), .val (.long p2), .second, .val (.int p3), .val (.int p4), .val (.int p5), .val (.int (Int32.ofNat nn)), .val (.int (p0 &&& (3 : Int32))), .val (.ref aM), .val (.int (0 : Int32)), .val (.int (Int32.ofNat mm)), .val (.int (-1 : Int32)), .val (.long ((own_low (Int32.ofNat mm)) ||| (0 : Int64))), .second, .val (.ref ar), .val (.double (0 : UInt64)), .second, .unset, .unset, .unset, .unset] [(.double (0 : UInt64))])) (fun _ k_ => XS.dconst0 X40.here hx rfl (Jvm.hb hby at_473) rfl k_) ?_
        refine own_go (t' := T40.setTop (mkF m 476 #[.val (.int p0), .val (.int p1), .val (.long p2), .second, .val (.int p3), .val (.int p4), .val (.int p5), .val (.int (Int32.ofNat nn)), .val (.int (p0 &&& (3 : Int32))), .val (.ref aM), .val (.int (0 : Int32)), .val (.int (Int32.ofNat mm)), .val (.int (-1 : Int32)), .val (.long ((own_low (Int32.ofNat mm)) ||| (0 : Int64))), .second, .val (.ref ar), .val (.double (0 : UInt64)), .second, .val (.double (0 : UInt64)), .second, .unset, .unset] [])) (fun _ k_ => XS.dstore X40.here hx rfl (Jvm.hb hby at_474) rfl (l' := #[.val (.int p0), .val (.int p1), .val (.long p2), .second, .val (.int p3), .val (.int p4), .val (.int p5), .val (.int (Int32.ofNat nn)), .val (.int (p0 &&& (3 : Int32))), .val (.ref aM), .val (.int (0 : Int32)), .val (.int (Int32.ofNat mm)), .val (.int (-1 : Int32)), .val (.long ((own_low (Int32.ofNat mm)) ||| (0 : Int64))), .second, .val (.ref ar), .val (.double (0 : UInt64)), .second, .val (.double (0 : UInt64)), .second, .unset, .unset]) rfl k_) ?_
        refine own_go (t' := T40.setTop (mkF m 547 #[.val (.int p0), .val (.int p1), .val (.long p2), .second, .val (.int p3), .val (.int p4), .val (.int p5), .val (.int (Int32.ofNat nn)), .val (.int (p0 &&& (3 : Int32))), .val (.ref aM), .val (.int (0 : Int32)), .val (.int (Int32.ofNat mm)), .val (.int (-1 : Int32)), .val (.long ((own_low (Int32.ofNat mm)) ||| (0 : Int64))), .second, .val (.ref ar), .val (.double (0 : UInt64)), .second, .val (.double (0 : UInt64)), .second, .unset, .unset] [])) (fun _ k_ => XS.goto X40.here hx rfl (pc0 := 476) (pc' := 547) rfl (Jvm.hb hby at_476) (by decide) (by decide) k_) ?_
        refine own_go (t' := T40.setTop (mkF m 549 #[.val (.int p0), .val (.int p1), .val (.long p2), .second, .val (.int p3), .val (.int p4), .val (.int p5), .val (.int (Int32.ofNat nn)), .val (.int (p0 &&& (3 : Int32))), .val (.ref aM), .val (.int (0 : Int32)), .val (.int (Int32.ofNat mm)), .val (.int (-1 : Int32)), .val (.long ((own_low (Int32.ofNat mm)) ||| (0 : Int64))), .second, .val (.ref ar), .val (.double (0 : UInt64)), .second, .val (.double (0 : UInt64)), .second, .unset, .unset] [(.double (0 : UInt64))])) (fun _ k_ => XS.dload X40.here hx rfl (Jvm.hb hby at_547) rfl k_) ?_
        refine own_go (t' := T40.setTop (mkF m 551 #[.val (.int p0), .val (.int p1), .val (.long p2), .second, .val (.int p3), .val (.int p4), .val (.int p5), .val (.int (Int32.ofNat nn)), .val (.int (p0 &&& (3 : Int32))), .val (.ref aM), .val (.int (0 : Int32)), .val (.int (Int32.ofNat mm)), .val (.int (-1 : Int32)), .val (.long ((own_low (Int32.ofNat mm)) ||| (0 : Int64))), .second, .val (.ref ar), .val (.double (0 : UInt64)), .second, .val (.double (0 : UInt64)), .second, .unset, .unset] [(.double (0 : UInt64)), (.double (0 : UInt64))])) (fun _ k_ => XS.dload X40.here hx rfl (Jvm.hb hby at_549) rfl k_) ?_
        refine own_go (t' := T40.setTop (mkF m 552 #[.val (.int p0), .val (.int p1), .val (.long p2), .second, .val (.int p3), .val (.int p4), .val (.int p5), .val (.int (Int32.ofNat nn)), .val (.int (p0 &&& (3 : Int32))), .val (.ref aM), .val (.int (0 : Int32)), .val (.int (Int32.ofNat mm)), .val (.int (-1 : Int32)), .val (.long ((own_low (Int32.ofNat mm)) ||| (0 : Int64))), .second, .val (.ref ar), .val (.double (0 : UInt64)), .second, .val (.double (0 : UInt64)), .second, .unset, .unset] [(.int (cmpValue (FP.dcmp (0 : UInt64) (0 : UInt64)) CmpOp.l))])) (fun _ k_ => XS.dcmpS X40.here hx rfl (Jvm.hb hby at_551) rfl rfl k_) ?_
        refine own_go (t' := T40.setTop (mkF m 555 #[.val (.int p0), .val (.int p1), .val (.long p2), .second, .val (.int p3), .val (.int p4), .val (.int p5), .val (.int (Int32.ofNat nn)), .val (.int (p0 &&& (3 : Int32))), .val (.ref aM), .val (.int (0 : Int32)), .val (.int (Int32.ofNat mm)), .val (.int (-1 : Int32)), .val (.long ((own_low (Int32.ofNat mm)) ||| (0 : Int64))), .second, .val (.ref ar), .val (.double (0 : UInt64)), .second, .val (.double (0 : UInt64)), .second, .unset, .unset] [])) (fun _ k_ => XS.ifNo X40.here hx rfl (Jvm.hb hby at_552) rfl ((if0 _ _).trans (teq (OwnFp.self_eq (OwnFp.no_nan (OwnFp.fin_nan OwnFp.fin_0)) _)).2) k_) ?_
        refine own_go (t' := T40.setTop (mkF m 556 #[.val (.int p0), .val (.int p1), .val (.long p2), .second, .val (.int p3), .val (.int p4), .val (.int p5), .val (.int (Int32.ofNat nn)), .val (.int (p0 &&& (3 : Int32))), .val (.ref aM), .val (.int (0 : Int32)), .val (.int (Int32.ofNat mm)), .val (.int (-1 : Int32)), .val (.long ((own_low (Int32.ofNat mm)) ||| (0 : Int64))), .second, .val (.ref ar), .val (.double (0 : UInt64)), .second, .val (.double (0 : UInt64)), .second, .unset, .unset] [(.int (1 : Int32))])) (fun _ k_ => XS.iconst X40.here hx rfl (Jvm.hb hby at_555) k_) ?_
        refine own_go (t' := T40.setTop (mkF m 560 #[.val (.int p0), .val (.int p1), .val (.long p2), .second, .val (.int p3), .val (.int p4), .val (.int p5), .val (.int (Int32.ofNat nn)), .val (.int (p0 &&& (3 : Int32))), .val (.ref aM), .val (.int (0 : Int32)), .val (.int (Int32.ofNat mm)), .val (.int (-1 : Int32)), .val (.long ((own_low (Int32.ofNat mm)) ||| (0 : Int64))), .second, .val (.ref ar), .val (.double (0 : UInt64)), .second, .val (.double (0 : UInt64)), .second, .unset, .unset] [(.int (1 : Int32))])) (fun _ k_ => XS.goto X40.here hx rfl (pc0 := 556) (pc' := 560) rfl (Jvm.hb hby at_556) (by decide) (by decide) k_) ?_
        exact own_retZ X40 hx Bd.returns (BodyLoose.notSynchronized Bd) rfl (Jvm.hb hby at_560) (by decide) (by decide) ⟨rfl, N40⟩
      ·
        rw [if_neg hz]
        refine own_go (t' := T40.setTop (mkF m 479 #[.val (.int p0), .val (.int p1), .val (.long p2), .second, .val (.int p3), .val (.int p4), .val (.int p5), .val (.int (Int32.ofNat nn)), .val (.int (p0 &&& (3 : Int32))), .val (.ref aM), .val (.int (0 : Int32)), .val (.int (Int32.ofNat mm)), .val (.int (-1 : Int32)), .val (.long ((own_low (Int32.ofNat mm)) ||| (0 : Int64))), .second, .val (.ref ar), .val (.double (FP.ddiv (FP.i2d (Int32.ofNat mm)) (FP.i2d p3))), .second, .unset, .unset, .unset, .unset] [])) (fun _ k_ => XS.ifYes X40.here hx rfl (pc0 := 470) (pc' := 479) rfl (Jvm.hb hby at_470) rfl ((if0 _ _).trans (feq hz).2) (by decide) (by decide) k_) ?_
        refine own_go (t' := T40.setTop (mkF m 481 #[.val (.int p0), .val (.int p1), .val (.long p2), .second, .val (.int p3), .val (.int p4), .val (.int p5), .val (.int (Int32.ofNat nn)), .val (.int (p0 &&& (3 : Int32))), .val (.ref aM), .val (.int (0 : Int32)), .val (.int (Int32.ofNat mm)), .val (.int (-1 : Int32)), .val (.long ((own_low (Int32.ofNat mm)) ||| (0 : Int64))), .second, .val (.ref ar), .val (.double (FP.ddiv (FP.i2d (Int32.ofNat mm)) (FP.i2d p3))), .second, .unset, .unset, .unset, .unset] [(.int (Int32.ofNat mm))])) (fun _ k_ => XS.iload X40.here hx rfl (Jvm.hb hby at_479) rfl k_) ?_
        refine own_go (t' := T40.setTop (mkF m 482 #[.val (.int p0), .val (.int p1), .val (.long p2), .second, .val (.int p3), .val (.int p4), .val (.int p5), .val (.int (Int32.ofNat nn)), .val (.int (p0 &&& (3 : Int32))), .val (.ref aM), .val (.int (0 : Int32)), .val (.int (Int32.ofNat mm)), .val (.int (-1 : Int32)), .val (.long ((own_low (Int32.ofNat mm)) ||| (0 : Int64))), .second, .val (.ref ar), .val (.double (FP.ddiv (FP.i2d (Int32.ofNat mm)) (FP.i2d p3))), .second, .unset, .unset, .unset, .unset] [(.double (FP.i2d (Int32.ofNat mm)))])) (fun _ k_ => XS.i2dS X40.here hx rfl (Jvm.hb hby at_481) rfl rfl k_) ?_
        refine own_go (t' := T40.setTop (mkF m 484 #[.val (.int p0), .val (.int p1), .val (.long p2), .second, .val (.int p3), .val (.int p4), .val (.int p5), .val (.int (Int32.ofNat nn)), .val (.int (p0 &&& (3 : Int32))), .val (.ref aM), .val (.int (0 : Int32)), .val (.int (Int32.ofNat mm)), .val (.int (-1 : Int32)), .val (.long ((own_low (Int32.ofNat mm)) ||| (0 : Int64))), .second, .val (.ref ar), .val (.double (FP.ddiv (FP.i2d (Int32.ofNat mm)) (FP.i2d p3))), .second, .unset, .unset, .val (.double (FP.i2d (Int32.ofNat mm))), .second] [])) (fun _ k_ => XS.dstore X40.here hx rfl (Jvm.hb hby at_482) rfl (l' := #[.val (.int p0), .val (.int p1), .val (.long p2), .second, .val (.int p3), .val (.int p4), .val (.int p5), .val (.int (Int32.ofNat nn)), .val (.int (p0 &&& (3 : Int32))), .val (.ref aM), .val (.int (0 : Int32)), .val (.int (Int32.ofNat mm)), .val (.int (-1 : Int32)), .val (.long ((own_low (Int32.ofNat mm)) ||| (0 : Int64))), .second, .val (.ref ar), .val (.double (FP.ddiv (FP.i2d (Int32.ofNat mm)) (FP.i2d p3))), .second, .unset, .unset, .val (.double (FP.i2d (Int32.ofNat mm))), .second]) rfl k_) ?_
        refine own_go (t' := T40.setTop (mkF m 486 #[.val (.int p0), .val (.int p1), .val (.long p2), .second, .val (.int p3), .val (.int p4), .val (.int p5), .val (.int (Int32.ofNat nn)), .val (.int (p0 &&& (3 : Int32))), .val (.ref aM), .val (.int (0 : Int32)), .val (.int (Int32.ofNat mm)), .val (.int (-1 : Int32)), .val (.long ((own_low (Int32.ofNat mm)) ||| (0 : Int64))), .second, .val (.ref ar), .val (.double (FP.ddiv (FP.i2d (Int32.ofNat mm)) (FP.i2d p3))), .second, .unset, .unset, .val (.double (FP.i2d (Int32.ofNat mm))), .second] [(.int (-1 : Int32))])) (fun _ k_ => XS.iload X40.here hx rfl (Jvm.hb hby at_484) rfl k_) ?_
        refine own_go (t' := T40.setTop (mkF m 505 #[.val (.int p0), .val (.int p1), .val (.long p2), .second, .val (.int p3), .val (.int p4), .val (.int p5), .val (.int (Int32.ofNat nn)), .val (.int (p0 &&& (3 : Int32))), .val (.ref aM), .val (.int (0 : Int32)), .val (.int (Int32.ofNat mm)), .val (.int (-1 : Int32)), .val (.long ((own_low (Int32.ofNat mm)) ||| (0 : Int64))), .second, .val (.ref ar), .val (.double (FP.ddiv (FP.i2d (Int32.ofNat mm)) (FP.i2d p3))), .second, .unset, .unset, .val (.double (FP.i2d (Int32.ofNat mm))), .second] [])) (fun _ k_ => XS.ifYes X40.here hx rfl (pc0 := 486) (pc' := 505) rfl (Jvm.hb hby at_486) rfl ((if0 _ _).trans (tlt (by decide)).1) (by decide) (by decide) k_) ?_
        refine own_go (t' := T40.setTop (mkF m 507 #[.val (.int p0), .val (.int p1), .val (.long p2), .second, .val (.int p3), .val (.int p4), .val (.int p5), .val (.int (Int32.ofNat nn)), .val (.int (p0 &&& (3 : Int32))), .val (.ref aM), .val (.int (0 : Int32)), .val (.int (Int32.ofNat mm)), .val (.int (-1 : Int32)), .val (.long ((own_low (Int32.ofNat mm)) ||| (0 : Int64))), .second, .val (.ref ar), .val (.double (FP.ddiv (FP.i2d (Int32.ofNat mm)) (FP.i2d p3))), .second, .unset, .unset, .val (.double (FP.i2d (Int32.ofNat mm))), .second] [(.double (FP.i2d (Int32.ofNat mm)))])) (fun _ k_ => XS.dload X40.here hx rfl (Jvm.hb hby at_505) rfl k_) ?_
        refine own_go (t' := T40.setTop (mkF m 509 #[.val (.int p0), .val (.int p1), .val (.long p2), .second, .val (.int p3), .val (.int p4), .val (.int p5), .val (.int (Int32.ofNat nn)), .val (.int (p0 &&& (3 : Int32))), .val (.ref aM), .val (.int (0 : Int32)), .val (.int (Int32.ofNat mm)), .val (.int (-1 : Int32)), .val (.long ((own_low (Int32.ofNat mm)) ||| (0 : Int64))), .second, .val (.ref ar), .val (.double (FP.ddiv (FP.i2d (Int32.ofNat mm)) (FP.i2d p3))), .second, .unset, .unset, .val (.double (FP.i2d (Int32.ofNat mm))), .second] [(.int p3), (.double (FP.i2d (Int32.ofNat mm)))])) (fun _ k_ => XS.iload X40.here hx rfl (Jvm.hb hby at_507) rfl k_) ?_
        refine own_go (t' := T40.setTop (mkF m 510 #[.val (.int p0), .val (.int p1), .val (.long p2), .second, .val (.int p3), .val (.int p4), .val (.int p5), .val (.int (Int32.ofNat nn)), .val (.int (p0 &&& (3 : Int32))), .val (.ref aM), .val (.int (0 : Int32)), .val (.int (Int32.ofNat mm)), .val (.int (-1 : Int32)), .val (.long ((own_low (Int32.ofNat mm)) ||| (0 : Int64))), .second, .val (.ref ar), .val (.double (FP.ddiv (FP.i2d (Int32.ofNat mm)) (FP.i2d p3))), .second, .unset, .unset, .val (.double (FP.i2d (Int32.ofNat mm))), .second] [(.double (FP.i2d p3)), (.double (FP.i2d (Int32.ofNat mm)))])) (fun _ k_ => XS.i2dS X40.here hx rfl (Jvm.hb hby at_509) rfl rfl k_) ?_
        have hdv := OwnFp.div_any hfin hz
        refine own_go (t' := T40.setTop (mkF m 511 #[.val (.int p0), .val (.int p1), .val (.long p2), .second, .val (.int p3), .val (.int p4), .val (.int p5), .val (.int (Int32.ofNat nn)), .val (.int (p0 &&& (3 : Int32))), .val (.ref aM), .val (.int (0 : Int32)), .val (.int (Int32.ofNat mm)), .val (.int (-1 : Int32)), .val (.long ((own_low (Int32.ofNat mm)) ||| (0 : Int64))), .second, .val (.ref ar), .val (.double (FP.ddiv (FP.i2d (Int32.ofNat mm)) (FP.i2d p3))), .second, .unset, .unset, .val (.double (FP.i2d (Int32.ofNat mm))), .second] [(.double (FP.ddiv (FP.i2d (Int32.ofNat mm)) (FP.i2d p3)))])) (fun _ k_ => XS.ddivS X40.here hx rfl (Jvm.hb hby at_510) rfl hdv rfl k_) ?_
        refine own_go (t' := T40.setTop (mkF m 513 #[.val (.int p0), .val (.int p1), .val (.long p2), .second, .val (.int p3), .val (.int p4), .val (.int p5), .val (.int (Int32.ofNat nn)), .val (.int (p0 &&& (3 : Int32))), .val (.ref aM), .val (.int (0 : Int32)), .val (.int (Int32.ofNat mm)), .val (.int (-1 : Int32)), .val (.long ((own_low (Int32.ofNat mm)) ||| (0 : Int64))), .second, .val (.ref ar), .val (.double (FP.ddiv (FP.i2d (Int32.ofNat mm)) (FP.i2d p3))), .second, .val (.double (FP.ddiv (FP.i2d (Int32.ofNat mm)) (FP.i2d p3))), .second, .val (.double (FP.i2d (Int32.ofNat mm))), .second] [])) (fun _ k_ => XS.dstore X40.here hx rfl (Jvm.hb hby at_511) rfl (l' := #[.val (.int p0), .val (.int p1), .val (.long p2), .second, .val (.int p3), .val (.int p4), .val (.int p5), .val (.int (Int32.ofNat nn)), .val (.int (p0 &&& (3 : Int32))), .val (.ref aM), .val (.int (0 : Int32)), .val (.int (Int32.ofNat mm)), .val (.int (-1 : Int32)), .val (.long ((own_low (Int32.ofNat mm)) ||| (0 : Int64))), .second, .val (.ref ar), .val (.double (FP.ddiv (FP.i2d (Int32.ofNat mm)) (FP.i2d p3))), .second, .val (.double (FP.ddiv (FP.i2d (Int32.ofNat mm)) (FP.i2d p3))), .second, .val (.double (FP.i2d (Int32.ofNat mm))), .second]) rfl k_) ?_
        refine own_go (t' := T40.setTop (mkF m 547 #[.val (.int p0), .val (.int p1), .val (.long p2), .second, .val (.int p3), .val (.int p4), .val (.int p5), .val (.int (Int32.ofNat nn)), .val (.int (p0 &&& (3 : Int32))), .val (.ref aM), .val (.int (0 : Int32)), .val (.int (Int32.ofNat mm)), .val (.int (-1 : Int32)), .val (.long ((own_low (Int32.ofNat mm)) ||| (0 : Int64))), .second, .val (.ref ar), .val (.double (FP.ddiv (FP.i2d (Int32.ofNat mm)) (FP.i2d p3))), .second, .val (.double (FP.ddiv (FP.i2d (Int32.ofNat mm)) (FP.i2d p3))), .second, .val (.double (FP.i2d (Int32.ofNat mm))), .second] [])) (fun _ k_ => XS.goto X40.here hx rfl (pc0 := 513) (pc' := 547) rfl (Jvm.hb hby at_513) (by decide) (by decide) k_) ?_
        refine own_go (t' := T40.setTop (mkF m 549 #[.val (.int p0), .val (.int p1), .val (.long p2), .second, .val (.int p3), .val (.int p4), .val (.int p5), .val (.int (Int32.ofNat nn)), .val (.int (p0 &&& (3 : Int32))), .val (.ref aM), .val (.int (0 : Int32)), .val (.int (Int32.ofNat mm)), .val (.int (-1 : Int32)), .val (.long ((own_low (Int32.ofNat mm)) ||| (0 : Int64))), .second, .val (.ref ar), .val (.double (FP.ddiv (FP.i2d (Int32.ofNat mm)) (FP.i2d p3))), .second, .val (.double (FP.ddiv (FP.i2d (Int32.ofNat mm)) (FP.i2d p3))), .second, .val (.double (FP.i2d (Int32.ofNat mm))), .second] [(.double (FP.ddiv (FP.i2d (Int32.ofNat mm)) (FP.i2d p3)))])) (fun _ k_ => XS.dload X40.here hx rfl (Jvm.hb hby at_547) rfl k_) ?_
        refine own_go (t' := T40.setTop (mkF m 551 #[.val (.int p0), .val (.int p1), .val (.long p2), .second, .val (.int p3), .val (.int p4), .val (.int p5), .val (.int (Int32.ofNat nn)), .val (.int (p0 &&& (3 : Int32))), .val (.ref aM), .val (.int (0 : Int32)), .val (.int (Int32.ofNat mm)), .val (.int (-1 : Int32)), .val (.long ((own_low (Int32.ofNat mm)) ||| (0 : Int64))), .second, .val (.ref ar), .val (.double (FP.ddiv (FP.i2d (Int32.ofNat mm)) (FP.i2d p3))), .second, .val (.double (FP.ddiv (FP.i2d (Int32.ofNat mm)) (FP.i2d p3))), .second, .val (.double (FP.i2d (Int32.ofNat mm))), .second] [(.double (FP.ddiv (FP.i2d (Int32.ofNat mm)) (FP.i2d p3))), (.double (FP.ddiv (FP.i2d (Int32.ofNat mm)) (FP.i2d p3)))])) (fun _ k_ => XS.dload X40.here hx rfl (Jvm.hb hby at_549) rfl k_) ?_
        refine own_go (t' := T40.setTop (mkF m 552 #[.val (.int p0), .val (.int p1), .val (.long p2), .second, .val (.int p3), .val (.int p4), .val (.int p5), .val (.int (Int32.ofNat nn)), .val (.int (p0 &&& (3 : Int32))), .val (.ref aM), .val (.int (0 : Int32)), .val (.int (Int32.ofNat mm)), .val (.int (-1 : Int32)), .val (.long ((own_low (Int32.ofNat mm)) ||| (0 : Int64))), .second, .val (.ref ar), .val (.double (FP.ddiv (FP.i2d (Int32.ofNat mm)) (FP.i2d p3))), .second, .val (.double (FP.ddiv (FP.i2d (Int32.ofNat mm)) (FP.i2d p3))), .second, .val (.double (FP.i2d (Int32.ofNat mm))), .second] [(.int (cmpValue (FP.dcmp (FP.ddiv (FP.i2d (Int32.ofNat mm)) (FP.i2d p3)) (FP.ddiv (FP.i2d (Int32.ofNat mm)) (FP.i2d p3))) CmpOp.l))])) (fun _ k_ => XS.dcmpS X40.here hx rfl (Jvm.hb hby at_551) rfl rfl k_) ?_
        refine own_go (t' := T40.setTop (mkF m 555 #[.val (.int p0), .val (.int p1), .val (.long p2), .second, .val (.int p3), .val (.int p4), .val (.int p5), .val (.int (Int32.ofNat nn)), .val (.int (p0 &&& (3 : Int32))), .val (.ref aM), .val (.int (0 : Int32)), .val (.int (Int32.ofNat mm)), .val (.int (-1 : Int32)), .val (.long ((own_low (Int32.ofNat mm)) ||| (0 : Int64))), .second, .val (.ref ar), .val (.double (FP.ddiv (FP.i2d (Int32.ofNat mm)) (FP.i2d p3))), .second, .val (.double (FP.ddiv (FP.i2d (Int32.ofNat mm)) (FP.i2d p3))), .second, .val (.double (FP.i2d (Int32.ofNat mm))), .second] [])) (fun _ k_ => XS.ifNo X40.here hx rfl (Jvm.hb hby at_552) rfl ((if0 _ _).trans (teq (OwnFp.self_eq hdv _)).2) k_) ?_
        refine own_go (t' := T40.setTop (mkF m 556 #[.val (.int p0), .val (.int p1), .val (.long p2), .second, .val (.int p3), .val (.int p4), .val (.int p5), .val (.int (Int32.ofNat nn)), .val (.int (p0 &&& (3 : Int32))), .val (.ref aM), .val (.int (0 : Int32)), .val (.int (Int32.ofNat mm)), .val (.int (-1 : Int32)), .val (.long ((own_low (Int32.ofNat mm)) ||| (0 : Int64))), .second, .val (.ref ar), .val (.double (FP.ddiv (FP.i2d (Int32.ofNat mm)) (FP.i2d p3))), .second, .val (.double (FP.ddiv (FP.i2d (Int32.ofNat mm)) (FP.i2d p3))), .second, .val (.double (FP.i2d (Int32.ofNat mm))), .second] [(.int (1 : Int32))])) (fun _ k_ => XS.iconst X40.here hx rfl (Jvm.hb hby at_555) k_) ?_
        refine own_go (t' := T40.setTop (mkF m 560 #[.val (.int p0), .val (.int p1), .val (.long p2), .second, .val (.int p3), .val (.int p4), .val (.int p5), .val (.int (Int32.ofNat nn)), .val (.int (p0 &&& (3 : Int32))), .val (.ref aM), .val (.int (0 : Int32)), .val (.int (Int32.ofNat mm)), .val (.int (-1 : Int32)), .val (.long ((own_low (Int32.ofNat mm)) ||| (0 : Int64))), .second, .val (.ref ar), .val (.double (FP.ddiv (FP.i2d (Int32.ofNat mm)) (FP.i2d p3))), .second, .val (.double (FP.ddiv (FP.i2d (Int32.ofNat mm)) (FP.i2d p3))), .second, .val (.double (FP.i2d (Int32.ofNat mm))), .second] [(.int (1 : Int32))])) (fun _ k_ => XS.goto X40.here hx rfl (pc0 := 556) (pc' := 560) rfl (Jvm.hb hby at_556) (by decide) (by decide) k_) ?_
        exact own_retZ X40 hx Bd.returns (BodyLoose.notSynchronized Bd) rfl (Jvm.hb hby at_560) (by decide) (by decide) ⟨rfl, N40⟩
    ·
      refine own_go (t' := T39.setTop (mkF m 137 #[.val (.int p0), .val (.int p1), .val (.long p2), .second, .val (.int p3), .val (.int p4), .val (.int p5), .val (.int (Int32.ofNat nn)), .val (.int (p0 &&& (3 : Int32))), .val (.ref aM), .val (.int (0 : Int32)), .val (.int (Int32.ofNat mm)), .val (.int (Int32.ofNat pp)), .unset, .unset, .unset, .unset, .unset, .unset, .unset, .unset, .unset] [(.long (own_low (Int32.ofNat mm)))])) (fun _ k_ => XS.ifNo X39.here hx rfl (Jvm.hb hby at_134) rfl ((if0 _ _).trans (flt (own_pos (by omega))).1) k_) ?_
      refine own_go (t' := T39.setTop (mkF m 138 #[.val (.int p0), .val (.int p1), .val (.long p2), .second, .val (.int p3), .val (.int p4), .val (.int p5), .val (.int (Int32.ofNat nn)), .val (.int (p0 &&& (3 : Int32))), .val (.ref aM), .val (.int (0 : Int32)), .val (.int (Int32.ofNat mm)), .val (.int (Int32.ofNat pp)), .unset, .unset, .unset, .unset, .unset, .unset, .unset, .unset, .unset] [(.long (1 : Int64)), (.long (own_low (Int32.ofNat mm)))])) (fun _ k_ => XS.lconst X39.here hx rfl (Jvm.hb hby at_137) k_) ?_
      refine own_go (t' := T39.setTop (mkF m 140 #[.val (.int p0), .val (.int p1), .val (.long p2), .second, .val (.int p3), .val (.int p4), .val (.int p5), .val (.int (Int32.ofNat nn)), .val (.int (p0 &&& (3 : Int32))), .val (.ref aM), .val (.int (0 : Int32)), .val (.int (Int32.ofNat mm)), .val (.int (Int32.ofNat pp)), .unset, .unset, .unset, .unset, .unset, .unset, .unset, .unset, .unset] [(.int (Int32.ofNat pp)), (.long (1 : Int64)), (.long (own_low (Int32.ofNat mm)))])) (fun _ k_ => XS.iload X39.here hx rfl (Jvm.hb hby at_138) rfl k_) ?_
      refine own_go (t' := T39.setTop (mkF m 141 #[.val (.int p0), .val (.int p1), .val (.long p2), .second, .val (.int p3), .val (.int p4), .val (.int p5), .val (.int (Int32.ofNat nn)), .val (.int (p0 &&& (3 : Int32))), .val (.ref aM), .val (.int (0 : Int32)), .val (.int (Int32.ofNat mm)), .val (.int (Int32.ofNat pp)), .unset, .unset, .unset, .unset, .unset, .unset, .unset, .unset, .unset] [(.long ((1 : Int64) <<< ((Int32.ofNat pp) &&& 0x3f).toInt64)), (.long (own_low (Int32.ofNat mm)))])) (fun _ k_ => XS.lshl X39.here hx rfl (Jvm.hb hby at_140) rfl k_) ?_
      refine own_go (t' := T39.setTop (mkF m 145 #[.val (.int p0), .val (.int p1), .val (.long p2), .second, .val (.int p3), .val (.int p4), .val (.int p5), .val (.int (Int32.ofNat nn)), .val (.int (p0 &&& (3 : Int32))), .val (.ref aM), .val (.int (0 : Int32)), .val (.int (Int32.ofNat mm)), .val (.int (Int32.ofNat pp)), .unset, .unset, .unset, .unset, .unset, .unset, .unset, .unset, .unset] [(.long ((1 : Int64) <<< ((Int32.ofNat pp) &&& 0x3f).toInt64)), (.long (own_low (Int32.ofNat mm)))])) (fun _ k_ => XS.goto X39.here hx rfl (pc0 := 141) (pc' := 145) rfl (Jvm.hb hby at_141) (by decide) (by decide) k_) ?_
      refine own_go (t' := T39.setTop (mkF m 146 #[.val (.int p0), .val (.int p1), .val (.long p2), .second, .val (.int p3), .val (.int p4), .val (.int p5), .val (.int (Int32.ofNat nn)), .val (.int (p0 &&& (3 : Int32))), .val (.ref aM), .val (.int (0 : Int32)), .val (.int (Int32.ofNat mm)), .val (.int (Int32.ofNat pp)), .unset, .unset, .unset, .unset, .unset, .unset, .unset, .unset, .unset] [(.long ((own_low (Int32.ofNat mm)) ||| ((1 : Int64) <<< ((Int32.ofNat pp) &&& 0x3f).toInt64)))])) (fun _ k_ => XS.lor X39.here hx rfl (Jvm.hb hby at_145) rfl k_) ?_
      refine own_go (t' := T39.setTop (mkF m 148 #[.val (.int p0), .val (.int p1), .val (.long p2), .second, .val (.int p3), .val (.int p4), .val (.int p5), .val (.int (Int32.ofNat nn)), .val (.int (p0 &&& (3 : Int32))), .val (.ref aM), .val (.int (0 : Int32)), .val (.int (Int32.ofNat mm)), .val (.int (Int32.ofNat pp)), .val (.long ((own_low (Int32.ofNat mm)) ||| ((1 : Int64) <<< ((Int32.ofNat pp) &&& 0x3f).toInt64))), .second, .unset, .unset, .unset, .unset, .unset, .unset, .unset] [])) (fun _ k_ => XS.lstore X39.here hx rfl (Jvm.hb hby at_146) rfl (l' := #[.val (.int p0), .val (.int p1), .val (.long p2), .second, .val (.int p3), .val (.int p4), .val (.int p5), .val (.int (Int32.ofNat nn)), .val (.int (p0 &&& (3 : Int32))), .val (.ref aM), .val (.int (0 : Int32)), .val (.int (Int32.ofNat mm)), .val (.int (Int32.ofNat pp)), .val (.long ((own_low (Int32.ofNat mm)) ||| ((1 : Int64) <<< ((Int32.ofNat pp) &&& 0x3f).toInt64))), .second, .unset, .unset, .unset, .unset, .unset, .unset, .unset]) rfl k_) ?_
      refine own_go (t' := T39.setTop (mkF m 154 #[.val (.int p0), .val (.int p1), .val (.long p2), .second, .val (.int p3), .val (.int p4), .val (.int p5), .val (.int (Int32.ofNat nn)), .val (.int (p0 &&& (3 : Int32))), .val (.ref aM), .val (.int (0 : Int32)), .val (.int (Int32.ofNat mm)), .val (.int (Int32.ofNat pp)), .val (.long ((own_low (Int32.ofNat mm)) ||| ((1 : Int64) <<< ((Int32.ofNat pp) &&& 0x3f).toInt64))), .second, .unset, .unset, .unset, .unset, .unset, .unset, .unset] [])) (fun _ k_ => XS.goto X39.here hx rfl (pc0 := 148) (pc' := 154) rfl (Jvm.hb hby at_148) (by decide) (by decide) k_) ?_
      refine seg _ _ aM _ _ _ ((own_low (Int32.ofNat mm)) ||| ((1 : Int64) <<< ((Int32.ofNat pp) &&& 0x3f).toInt64)) X39 e39 N39 ?_
      intro Tk lk hk ar Xk ek Nk KK SS ⟨f, A, hf⟩
      have hsum : (own_ap (own_bit ((own_low (Int32.ofNat mm)) ||| ((1 : Int64) <<< ((Int32.ofNat pp) &&& 0x3f).toInt64))) nn).1 = (FP.dadd (FP.i2d (Int32.ofNat mm)) (FP.ddiv (FP.i2d (Int32.ofNat (mm + 1))) (FP.i2d (Int32.ofNat (pp + 1))))) := own_ap_p hp1 hp2 (by omega) (fun i hi => by rw [own_pat_p (by omega) (by omega)]; simp [hi]) (fun i h1 h2 => by rw [own_pat_p (by omega) (by omega)]; simp [show ¬ i < mm by omega, eq_comm])
      have hfin := own_ap_fin (own_bit ((own_low (Int32.ofNat mm)) ||| ((1 : Int64) <<< ((Int32.ofNat pp) &&& 0x3f).toInt64))) nn (by omega)
      have Zk : n0 ≤ hk.size := Nat.le_trans Z0 KK.1
      refine own_go (t' := Tk.setTop (mkF m 453 #[.val (.int p0), .val (.int p1), .val (.long p2), .second, .val (.int p3), .val (.int p4), .val (.int p5), .val (.int (Int32.ofNat nn)), .val (.int (p0 &&& (3 : Int32))), .val (.ref aM), .val (.int (0 : Int32)), .val (.int (Int32.ofNat mm)), .val (.int (Int32.ofNat pp)), .val (.long ((own_low (Int32.ofNat mm)) ||| ((1 : Int64) <<< ((Int32.ofNat pp) &&& 0x3f).toInt64))), .second, .val (.ref ar), .unset, .unset, .unset, .unset, .unset, .unset] [(.ref aM)])) (fun _ k_ => XS.aload Xk.here hx rfl (Jvm.hb hby at_451) rfl rfl k_) ?_
      refine own_go (t' := Tk.setTop (mkF m 455 #[.val (.int p0), .val (.int p1), .val (.long p2), .second, .val (.int p3), .val (.int p4), .val (.int p5), .val (.int (Int32.ofNat nn)), .val (.int (p0 &&& (3 : Int32))), .val (.ref aM), .val (.int (0 : Int32)), .val (.int (Int32.ofNat mm)), .val (.int (Int32.ofNat pp)), .val (.long ((own_low (Int32.ofNat mm)) ||| ((1 : Int64) <<< ((Int32.ofNat pp) &&& 0x3f).toInt64))), .second, .val (.ref ar), .unset, .unset, .unset, .unset, .unset, .unset] [(.ref ar), (.ref aM)])) (fun _ k_ => XS.aload Xk.here hx rfl (Jvm.hb hby at_453) rfl rfl k_) ?_
      refine own_go (t' := Tk.setTop (mkF m 457 #[.val (.int p0), .val (.int p1), .val (.long p2), .second, .val (.int p3), .val (.int p4), .val (.int p5), .val (.int (Int32.ofNat nn)), .val (.int (p0 &&& (3 : Int32))), .val (.ref aM), .val (.int (0 : Int32)), .val (.int (Int32.ofNat mm)), .val (.int (Int32.ofNat pp)), .val (.long ((own_low (Int32.ofNat mm)) ||| ((1 : Int64) <<< ((Int32.ofNat pp) &&& 0x3f).toInt64))), .second, .val (.ref ar), .unset, .unset, .unset, .unset, .unset, .unset] [(.int p3), (.ref ar), (.ref aM)])) (fun _ k_ => XS.iload Xk.here hx rfl (Jvm.hb hby at_455) rfl k_) ?_
      obtain ⟨T41, L41, v41, X41, hQ41, st41⟩ := own_virtual Xk hx hZ (y := (⟨"com/example/kobe/kobe/eval/Measure", "score", "([ZI)D"⟩ : MethodName)) hown (hw _ (List.mem_of_getElem? (i := 9) rfl)) (hw _ (List.mem_of_getElem? (i := 10) rfl)) (hw _ (List.mem_of_getElem? (i := 12) rfl)) (hw _ (List.mem_of_getElem? (i := 11) rfl)) (hw _ (List.mem_of_getElem? (i := 13) rfl)) (hw _ (List.mem_of_getElem? (i := 2) rfl)) (by decide) (X_M.keep KK) (rm_scM l Z a0 hw [] ar aM nn p3 ((own_low (Int32.ofNat mm)) ||| ((1 : Int64) <<< ((Int32.ofNat pp) &&& 0x3f).toInt64)) f hk n0 Zk A hnn hf (SS _ _ _ _ S_M)) ek (g := (mkF m 457 #[.val (.int p0), .val (.int p1), .val (.long p2), .second, .val (.int p3), .val (.int p4), .val (.int p5), .val (.int (Int32.ofNat nn)), .val (.int (p0 &&& (3 : Int32))), .val (.ref aM), .val (.int (0 : Int32)), .val (.int (Int32.ofNat mm)), .val (.int (Int32.ofNat pp)), .val (.long ((own_low (Int32.ofNat mm)) ||| ((1 : Int64) <<< ((Int32.ofNat pp) &&& 0x3f).toInt64))), .second, .val (.ref ar), .unset, .unset, .unset, .unset, .unset, .unset] [(.int p3), (.ref ar), (.ref aM)])) rfl (by rw [hml]; rfl) (argsL := [(.ref ar), (.int p3)]) (rest := []) (lenOf pd_d2 rfl) rfl (W := 0) (by show 2 * 0 + _ ≤ _; exact Nat.le_of_eq rfl) (Jvm.hb hby at_457) (by decide) (by decide) (by decide) (by decide)
      obtain ⟨rfl, Nq41, e41⟩ := hQ41
      have N41 := Fr.app Nk Nq41
      refine own_go (t' := T41.setTop (mkF m 460 #[.val (.int p0), .val (.int p1), .val (.long p2), .second, .val (.int p3), .val (.int p4), .val (.int p5), .val (.int (Int32.ofNat nn)), .val (.int (p0 &&& (3 : Int32))), .val (.ref aM), .val (.int (0 : Int32)), .val (.int (Int32.ofNat mm)), .val (.int (Int32.ofNat pp)), .val (.long ((own_low (Int32.ofNat mm)) ||| ((1 : Int64) <<< ((Int32.ofNat pp) &&& 0x3f).toInt64))), .second, .val (.ref ar), .unset, .unset, .unset, .unset, .unset, .unset] [(.double (if p3 = 0 then (0 : UInt64) else FP.ddiv (own_ap (own_bit ((own_low (Int32.ofNat mm)) ||| ((1 : Int64) <<< ((Int32.ofNat pp) &&& 0x3f).toInt64))) nn).1 (FP.i2d p3)))])) st41 ?_
      rw [hsum] at hfin ⊢
      refine own_go (t' := T41.setTop (mkF m 462 #[.val (.int p0), .val (.int p1), .val (.long p2), .second, .val (.int p3), .val (.int p4), .val (.int p5), .val (.int (Int32.ofNat nn)), .val (.int (p0 &&& (3 : Int32))), .val (.ref aM), .val (.int (0 : Int32)), .val (.int (Int32.ofNat mm)), .val (.int (Int32.ofNat pp)), .val (.long ((own_low (Int32.ofNat mm)) ||| ((1 : Int64) <<< ((Int32.ofNat pp) &&& 0x3f).toInt64))), .second, .val (.ref ar), .val (.double (if p3 = 0 then (0 : UInt64) else FP.ddiv (FP.dadd (FP.i2d (Int32.ofNat mm)) (FP.ddiv (FP.i2d (Int32.ofNat (mm + 1))) (FP.i2d (Int32.ofNat (pp + 1))))) (FP.i2d p3))), .second, .unset, .unset, .unset, .unset] [])) (fun _ k_ => XS.dstore X41.here hx rfl (Jvm.hb hby at_460) rfl (l' := #[.val (.int p0), .val (.int p1), .val (.long p2), .second, .val (.int p3), .val (.int p4), .val (.int p5), .val (.int (Int32.ofNat nn)), .val (.int (p0 &&& (3 : Int32))), .val (.ref aM), .val (.int (0 : Int32)), .val (.int (Int32.ofNat mm)), .val (.int (Int32.ofNat pp)), .val (.long ((own_low (Int32.ofNat mm)) ||| ((1 : Int64) <<< ((Int32.ofNat pp) &&& 0x3f).toInt64))), .second, .val (.ref ar), .val (.double (if p3 = 0 then (0 : UInt64) else FP.ddiv (FP.dadd (FP.i2d (Int32.ofNat mm)) (FP.ddiv (FP.i2d (Int32.ofNat (mm + 1))) (FP.i2d (Int32.ofNat (pp + 1))))) (FP.i2d p3))), .second, .unset, .unset, .unset, .unset]) rfl k_) ?_
      refine own_go (t' := T41.setTop (mkF m 464 #[.val (.int p0), .val (.int p1), .val (.long p2), .second, .val (.int p3), .val (.int p4), .val (.int p5), .val (.int (Int32.ofNat nn)), .val (.int (p0 &&& (3 : Int32))), .val (.ref aM), .val (.int (0 : Int32)), .val (.int (Int32.ofNat mm)), .val (.int (Int32.ofNat pp)), .val (.long ((own_low (Int32.ofNat mm)) ||| ((1 : Int64) <<< ((Int32.ofNat pp) &&& 0x3f).toInt64))), .second, .val (.ref ar), .val (.double (if p3 = 0 then (0 : UInt64) else FP.ddiv (FP.dadd (FP.i2d (Int32.ofNat mm)) (FP.ddiv (FP.i2d (Int32.ofNat (mm + 1))) (FP.i2d (Int32.ofNat (pp + 1))))) (FP.i2d p3))), .second, .unset, .unset, .unset, .unset] [(.int (p0 &&& (3 : Int32)))])) (fun _ k_ => XS.iload X41.here hx rfl (Jvm.hb hby at_462) rfl k_) ?_
      refine own_go (t' := T41.setTop (mkF m 465 #[.val (.int p0), .val (.int p1), .val (.long p2), .second, .val (.int p3), .val (.int p4), .val (.int p5), .val (.int (Int32.ofNat nn)), .val (.int (p0 &&& (3 : Int32))), .val (.ref aM), .val (.int (0 : Int32)), .val (.int (Int32.ofNat mm)), .val (.int (Int32.ofNat pp)), .val (.long ((own_low (Int32.ofNat mm)) ||| ((1 : Int64) <<< ((Int32.ofNat pp) &&& 0x3f).toInt64))), .second, .val (.ref ar), .val (.double (if p3 = 0 then (0 : UInt64) else FP.ddiv (FP.dadd (FP.i2d (Int32.ofNat mm)) (FP.ddiv (FP.i2d (Int32.ofNat (mm + 1))) (FP.i2d (Int32.ofNat (pp + 1))))) (FP.i2d p3))), .second, .unset, .unset, .unset, .unset] [(.int (3 : Int32)), (.int (p0 &&& (3 : Int32)))])) (fun _ k_ => XS.iconst X41.here hx rfl (Jvm.hb hby at_464) k_) ?_
      refine own_go (t' := T41.setTop (mkF m 468 #[.val (.int p0), .val (.int p1), .val (.long p2), .second, .val (.int p3), .val (.int p4), .val (.int p5), .val (.int (Int32.ofNat nn)), .val (.int (p0 &&& (3 : Int32))), .val (.ref aM), .val (.int (0 : Int32)), .val (.int (Int32.ofNat mm)), .val (.int (Int32.ofNat pp)), .val (.long ((own_low (Int32.ofNat mm)) ||| ((1 : Int64) <<< ((Int32.ofNat pp) &&& 0x3f).toInt64))), .second, .val (.ref ar), .val (.double (if p3 = 0 then (0 : UInt64) else FP.ddiv (FP.dadd (FP.i2d (Int32.ofNat mm)) (FP.ddiv (FP.i2d (Int32.ofNat (mm + 1))) (FP.i2d (Int32.ofNat (pp + 1))))) (FP.i2d p3))), .second, .unset, .unset, .unset, .unset] [])) (fun _ k_ => XS.icmpNo X41.here hx rfl (Jvm.hb hby at_465) rfl (teq hsel).2 k_) ?_
      refine own_go (t' := T41.setTop (mkF m 470 #[.val (.int p0), .val (.int p1), .val (.long p2), .second, .val (.int p3), .val (.int p4), .val (.int p5), .val (.int (Int32.ofNat nn)), .val (.int (p0 &&& (3 : Int32))), .val (.ref aM), .val (.int (0 : Int32)), .val (.int (Int32.ofNat mm)), .val (.int (Int32.ofNat pp)), .val (.long ((own_low (Int32.ofNat mm)) ||| ((1 : Int64) <<< ((Int32.ofNat pp) &&& 0x3f).toInt64))), .second, .val (.ref ar), .val (.double (if p3 = 0 then (0 : UInt64) else FP.ddiv (FP.dadd (FP.i2d (Int32.ofNat mm)) (FP.ddiv (FP.i2d (Int32.ofNat (mm + 1))) (FP.i2d (Int32.ofNat (pp + 1))))) (FP.i2d p3))), .second, .unset, .unset, .unset, .unset] [(.int p3)])) (fun _ k_ => XS.iload X41.here hx rfl (Jvm.hb hby at_468) rfl k_) ?_
      by_cases hz : p3 = 0
      ·
        rw [if_pos hz]
        refine own_go (t' := T41.setTop (mkF m 473 #[.val (.int p0), .val (.int p1), .val (.long p2), .second, .val (.int p3), .val (.int p4), .val (.int p5), .val (.int (Int32.ofNat nn)), .val (.int (p0 &&& (3 : Int32))), .val (.ref aM), .val (.int (0 : Int32)), .val (.int (Int32.ofNat mm)), .val (.int (Int32.ofNat pp)), .val (.long ((own_low (Int32.ofNat mm)) ||| ((1 : Int64) <<< ((Int32.ofNat pp) &&& 0x3f).toInt64))), .second, .val (.ref ar), .val (.double (0 : UInt64)), .second, .unset, .unset, .unset, .unset] [])) (fun _ k_ => XS.ifNo X41.here hx rfl (Jvm.hb hby at_470) rfl ((if0 _ _).trans (teq hz).2) k_) ?_
        refine own_go (t' := T41.setTop (mkF m 474 #[.val (.int p0), .val (.int p1), .val (.long p2), .second, .val (.int p3), .val (.int p4), .val (.int p5), .val (.int (Int32.ofNat nn)), .val (.int (p0 &&& (3 : Int32))), .val (.ref aM), .val (.int (0 : Int32)), .val (.int (Int32.ofNat mm)), .val (.int (Int32.ofNat pp)), .val (.long ((own_low (Int32.ofNat mm)) ||| ((1 : Int64) <<< ((Int32.ofNat pp) &&& 0x3f).toInt64))), .second, .val (.ref ar), .val (.double (0 : UInt64)), .second, .unset, .unset, .unset, .unset] [(.double (0 : UInt64))])) (fun _ k_ => XS.dconst0 X41.here hx rfl (Jvm.hb hby at_473) rfl k_) ?_
        refine own_go (t' := T41.setTop (mkF m 476 #[.val (.int p0), .val (.int p1), .val (.long p2), .second, .val (.int p3), .val (.int p4), .val (.int p5), .val (.int (Int32.ofNat nn)), .val (.int (p0 &&& (3 : Int32))), .val (.ref aM), .val (.int (0 : Int32)), .val (.int (Int32.ofNat mm)), .val (.int (Int32.ofNat pp)), .val (.long ((own_low (Int32.ofNat mm)) ||| ((1 : Int64) <<< ((Int32.ofNat pp) &&& 0x3f).toInt64))), .second, .val (.ref ar), .val (.double (0 : UInt64)), .second, .val (.double (0 : UInt64)), .second, .unset, .unset] [])) (fun _ k_ => XS.dstore X41.here hx rfl (Jvm.hb hby at_474) rfl (l' := #[.val (.int p0), .val (.int p1), .val (.long p2), .second, .val (.int p3), .val (.int p4), .val (.int p5), .val (.int (Int32.ofNat nn)), .val (.int (p0 &&& (3 : Int32))), .val (.ref aM), .val (.int (0 : Int32)), .val (.int (Int32.ofNat mm)), .val (.int (Int32.ofNat pp)), .val (.long ((own_low (Int32.ofNat mm)) ||| ((1 : Int64) <<< ((Int32.ofNat pp) &&& 0x3f).toInt64))), .second, .val (.ref ar), .val (.double (0 : UInt64)), .second, .val (.double (0 : UInt64)), .second, .unset, .unset]) rfl k_) ?_
        refine own_go (t' := T41.setTop (mkF m 547 #[.val (.int p0), .val (.int p1), .val (.long p2), .second, .val (.int p3), .val (.int p4), .val (.int p5), .val (.int (Int32.ofNat nn)), .val (.int (p0 &&& (3 : Int32))), .val (.ref aM), .val (.int (0 : Int32)), .val (.int (Int32.ofNat mm)), .val (.int (Int32.ofNat pp)), .val (.long ((own_low (Int32.ofNat mm)) ||| ((1 : Int64) <<< ((Int32.ofNat pp) &&& 0x3f).toInt64))), .second, .val (.ref ar), .val (.double (0 : UInt64)), .second, .val (.double (0 : UInt64)), .second, .unset, .unset] [])) (fun _ k_ => XS.goto X41.here hx rfl (pc0 := 476) (pc' := 547) rfl (Jvm.hb hby at_476) (by decide) (by decide) k_) ?_
        refine own_go (t' := T41.setTop (mkF m 549 #[.val (.int p0), .val (.int p1), .val (.long p2), .second, .val (.int p3), .val (.int p4), .val (.int p5), .val (.int (Int32.ofNat nn)), .val (.int (p0 &&& (3 : Int32))), .val (.ref aM), .val (.int (0 : Int32)), .val (.int (Int32.ofNat mm)), .val (.int (Int32.ofNat pp)), .val (.long ((own_low (Int32.ofNat mm)) ||| ((1 : Int64) <<< ((Int32.ofNat pp) &&& 0x3f).toInt64))), .second, .val (.ref ar), .val (.double (0 : UInt64)), .second, .val (.double (0 : UInt64)), .second, .unset, .unset] [(.double (0 : UInt64))])) (fun _ k_ => XS.dload X41.here hx rfl (Jvm.hb hby at_547) rfl k_) ?_
        refine own_go (t' := T41.setTop (mkF m 551 #[.val (.int p0), .val (.int p1), .val (.long p2), .second, .val (.int p3), .val (.int p4), .val (.int p5), .val (.int (Int32.ofNat nn)), .val (.int (p0 &&& (3 : Int32))), .val (.ref aM), .val (.int (0 : Int32)), .val (.int (Int32.ofNat mm)), .val (.int (Int32.ofNat pp)), .val (.long ((own_low (Int32.ofNat mm)) ||| ((1 : Int64) <<< ((Int32.ofNat pp) &&& 0x3f).toInt64))), .second, .val (.ref ar), .val (.double (0 : UInt64)), .second, .val (.double (0 : UInt64)), .second, .unset, .unset] [(.double (0 : UInt64)), (.double (0 : UInt64))])) (fun _ k_ => XS.dload X41.here hx rfl (Jvm.hb hby at_549) rfl k_) ?_
        refine own_go (t' := T41.setTop (mkF m 552 #[.val (.int p0), .val (.int p1), .val (.long p2), .second, .val (.int p3), .val (.int p4), .val (.int p5), .val (.int (Int32.ofNat nn)), .val (.int (p0 &&& (3 : Int32))), .val (.ref aM), .val (.int (0 : Int32)), .val (.int (Int32.ofNat mm)), .val (.int (Int32.ofNat pp)), .val (.long ((own_low (Int32.ofNat mm)) ||| ((1 : Int64) <<< ((Int32.ofNat pp) &&& 0x3f).toInt64))), .second, .val (.ref ar), .val (.double (0 : UInt64)), .second, .val (.double (0 : UInt64)), .second, .unset, .unset] [(.int (cmpValue (FP.dcmp (0 : UInt64) (0 : UInt64)) CmpOp.l))])) (fun _ k_ => XS.dcmpS X41.here hx rfl (Jvm.hb hby at_551) rfl rfl k_) ?_
        refine own_go (t' := T41.setTop (mkF m 555 #[.val (.int p0), .val (.int p1), .val (.long p2), .second, .val (.int p3), .val (.int p4), .val (.int p5), .val (.int (Int32.ofNat nn)), .val (.int (p0 &&& (3 : Int32))), .val (.ref aM), .val (.int (0 : Int32)), .val (.int (Int32.ofNat mm)), .val (.int (Int32.ofNat pp)), .val (.long ((own_low (Int32.ofNat mm)) ||| ((1 : Int64) <<< ((Int32.ofNat pp) &&& 0x3f).toInt64))), .second, .val (.ref ar), .val (.double (0 : UInt64)), .second, .val (.double (0 : UInt64)), .second, .unset, .unset] [])) (fun _ k_ => XS.ifNo X41.here hx rfl (Jvm.hb hby at_552) rfl ((if0 _ _).trans (teq (OwnFp.self_eq (OwnFp.no_nan (OwnFp.fin_nan OwnFp.fin_0)) _)).2) k_) ?_
        refine own_go (t' := T41.setTop (mkF m 556 #[.val (.int p0), .val (.int p1), .val (.long p2), .second, .val (.int p3), .val (.int p4), .val (.int p5), .val (.int (Int32.ofNat nn)), .val (.int (p0 &&& (3 : Int32))), .val (.ref aM), .val (.int (0 : Int32)), .val (.int (Int32.ofNat mm)), .val (.int (Int32.ofNat pp)), .val (.long ((own_low (Int32.ofNat mm)) ||| ((1 : Int64) <<< ((Int32.ofNat pp) &&& 0x3f).toInt64))), .second, .val (.ref ar), .val (.double (0 : UInt64)), .second, .val (.double (0 : UInt64)), .second, .unset, .unset] [(.int (1 : Int32))])) (fun _ k_ => XS.iconst X41.here hx rfl (Jvm.hb hby at_555) k_) ?_
        refine own_go (t' := T41.setTop (mkF m 560 #[.val (.int p0), .val (.int p1), .val (.long p2), .second, .val (.int p3), .val (.int p4), .val (.int p5), .val (.int (Int32.ofNat nn)), .val (.int (p0 &&& (3 : Int32))), .val (.ref aM), .val (.int (0 : Int32)), .val (.int (Int32.ofNat mm)), .val (.int (Int32.ofNat pp)), .val (.long ((own_low (Int32.ofNat mm)) ||| ((1 : Int64) <<< ((Int32.ofNat pp) &&& 0x3f).toInt64))), .second, .val (.ref ar), .val (.double (0 : UInt64)), .second, .val (.double (0 : UInt64)), .second, .unset, .unset] [(.int (1 : Int32))])) (fun _ k_ => XS.goto X41.here hx rfl (pc0 := 556) (pc' := 560) rfl (Jvm.hb hby at_556) (by decide) (by decide) k_) ?_
        exact own_retZ X41 hx Bd.returns (BodyLoose.notSynchronized Bd) rfl (Jvm.hb hby at_560) (by decide) (by decide) ⟨rfl, N41⟩
      ·
        rw [if_neg hz]
        refine own_go (t' := T41.setTop (mkF m 479 #[.val (.int p0), .val (.int p1), .val (.long p2), .second, .val (.int p3), .val (.int p4), .val (.int p5), .val (.int (Int32.ofNat nn)), .val (.int (p0 &&& (3 : Int32))), .val (.ref aM), .val (.int (0 : Int32)), .val (.int (Int32.ofNat mm)), .val (.int (Int32.ofNat pp)), .val (.long ((own_low (Int32.ofNat mm)) ||| ((1 : Int64) <<< ((Int32.ofNat pp) &&& 0x3f).toInt64))), .second, .val (.ref ar), .val (.double (FP.ddiv (FP.dadd (FP.i2d (Int32.ofNat mm)) (FP.ddiv (FP.i2d (Int32.ofNat (mm + 1))) (FP.i2d (Int32.ofNat (pp + 1))))) (FP.i2d p3))), .second, .unset, .unset, .unset, .unset] [])) (fun _ k_ => XS.ifYes X41.here hx rfl (pc0 := 470) (pc' := 479) rfl (Jvm.hb hby at_470) rfl ((if0 _ _).trans (feq hz).2) (by decide) (by decide) k_) ?_
        refine own_go (t' := T41.setTop (mkF m 481 #[.val (.int p0), .val (.int p1), .val (.long p2), .second, .val (.int p3), .val (.int p4), .val (.int p5), .val (.int (Int32.ofNat nn)), .val (.int (p0 &&& (3 : Int32))), .val (.ref aM), .val (.int (0 : Int32)), .val (.int (Int32.ofNat mm)), .val (.int (Int32.ofNat pp)), .val (.long ((own_low (Int32.ofNat mm)) ||| ((1 : Int64) <<< ((Int32.ofNat pp) &&& 0x3f).toInt64))), .second, .val (.ref ar), .val (.double (FP.ddiv (FP.dadd (FP.i2d (Int32.ofNat mm)) (FP.ddiv (FP.i2d (Int32.ofNat (mm + 1))) (FP.i2d (Int32.ofNat (pp + 1))))) (FP.i2d p3))), .second, .unset, .unset, .unset, .unset] [(.int (Int32.ofNat mm))])) (fun _ k_ => XS.iload X41.here hx rfl (Jvm.hb hby at_479) rfl k_) ?_
        refine own_go (t' := T41.setTop (mkF m 482 #[.val (.int p0), .val (.int p1), .val (.long p2), .second, .val (.int p3), .val (.int p4), .val (.int p5), .val (.int (Int32.ofNat nn)), .val (.int (p0 &&& (3 : Int32))), .val (.ref aM), .val (.int (0 : Int32)), .val (.int (Int32.ofNat mm)), .val (.int (Int32.ofNat pp)), .val (.long ((own_low (Int32.ofNat mm)) ||| ((1 : Int64) <<< ((Int32.ofNat pp) &&& 0x3f).toInt64))), .second, .val (.ref ar), .val (.double (FP.ddiv (FP.dadd (FP.i2d (Int32.ofNat mm)) (FP.ddiv (FP.i2d (Int32.ofNat (mm + 1))) (FP.i2d (Int32.ofNat (pp + 1))))) (FP.i2d p3))), .second, .unset, .unset, .unset, .unset] [(.double (FP.i2d (Int32.ofNat mm)))])) (fun _ k_ => XS.i2dS X41.here hx rfl (Jvm.hb hby at_481) rfl rfl k_) ?_
        refine own_go (t' := T41.setTop (mkF m 484 #[.val (.int p0), .val (.int p1), .val (.long p2), .second, .val (.int p3), .val (.int p4), .val (.int p5), .val (.int (Int32.ofNat nn)), .val (.int (p0 &&& (3 : Int32))), .val (.ref aM), .val (.int (0 : Int32)), .val (.int (Int32.ofNat mm)), .val (.int (Int32.ofNat pp)), .val (.long ((own_low (Int32.ofNat mm)) ||| ((1 : Int64) <<< ((Int32.ofNat pp) &&& 0x3f).toInt64))), .second, .val (.ref ar), .val (.double (FP.ddiv (FP.dadd (FP.i2d (Int32.ofNat mm)) (FP.ddiv (FP.i2d (Int32.ofNat (mm + 1))) (FP.i2d (Int32.ofNat (pp + 1))))) (FP.i2d p3))), .second, .unset, .unset, .val (.double (FP.i2d (Int32.ofNat mm))), .second] [])) (fun _ k_ => XS.dstore X41.here hx rfl (Jvm.hb hby at_482) rfl (l' := #[.val (.int p0), .val (.int p1), .val (.long p2), .second, .val (.int p3), .val (.int p4), .val (.int p5), .val (.int (Int32.ofNat nn)), .val (.int (p0 &&& (3 : Int32))), .val (.ref aM), .val (.int (0 : Int32)), .val (.int (Int32.ofNat mm)), .val (.int (Int32.ofNat pp)), .val (.long ((own_low (Int32.ofNat mm)) ||| ((1 : Int64) <<< ((Int32.ofNat pp) &&& 0x3f).toInt64))), .second, .val (.ref ar), .val (.double (FP.ddiv (FP.dadd (FP.i2d (Int32.ofNat mm)) (FP.ddiv (FP.i2d (Int32.ofNat (mm + 1))) (FP.i2d (Int32.ofNat (pp + 1))))) (FP.i2d p3))), .second, .unset, .unset, .val (.double (FP.i2d (Int32.ofNat mm))), .second]) rfl k_) ?_
        refine own_go (t' := T41.setTop (mkF m 486 #[.val (.int p0), .val (.int p1), .val (.long p2), .second, .val (.int p3), .val (.int p4), .val (.int p5), .val (.int (Int32.ofNat nn)), .val (.int (p0 &&& (3 : Int32))), .val (.ref aM), .val (.int (0 : Int32)), .val (.int (Int32.ofNat mm)), .val (.int (Int32.ofNat pp)), .val (.long ((own_low (Int32.ofNat mm)) ||| ((1 : Int64) <<< ((Int32.ofNat pp) &&& 0x3f).toInt64))), .second, .val (.ref ar), .val (.double (FP.ddiv (FP.dadd (FP.i2d (Int32.ofNat mm)) (FP.ddiv (FP.i2d (Int32.ofNat (mm + 1))) (FP.i2d (Int32.ofNat (pp + 1))))) (FP.i2d p3))), .second, .unset, .unset, .val (.double (FP.i2d (Int32.ofNat mm))), .second] [(.int (Int32.ofNat pp))])) (fun _ k_ => XS.iload X41.here hx rfl (Jvm.hb hby at_484) rfl k_) ?_
        refine own_go (t' := T41.setTop (mkF m 489 #[.val (.int p0), .val (.int p1), .val (.long p2), .second, .val (.int p3), .val (.int p4), .val (.int p5), .val (.int (Int32.ofNat nn)), .val (.int (p0 &&& (3 : Int32))), .val (.ref aM), .val (.int (0 : Int32)), .val (.int (Int32.ofNat mm)), .val (.int (Int32.ofNat pp)), .val (.long ((own_low (Int32.ofNat mm)) ||| ((1 : Int64) <<< ((Int32.ofNat pp) &&& 0x3f).toInt64))), .second, .val (.ref ar), .val (.double (FP.ddiv (FP.dadd (FP.i2d (Int32.ofNat mm)) (FP.ddiv (FP.i2d (Int32.ofNat (mm + 1))) (FP.i2d (Int32.ofNat (pp + 1))))) (FP.i2d p3))), .second, .unset, .unset, .val (.double (FP.i2d (Int32.ofNat mm))), .second] [])) (fun _ k_ => XS.ifNo X41.here hx rfl (Jvm.hb hby at_486) rfl ((if0 _ _).trans (flt (own_pos (by omega))).1) k_) ?_
        refine own_go (t' := T41.setTop (mkF m 491 #[.val (.int p0), .val (.int p1), .val (.long p2), .second, .val (.int p3), .val (.int p4), .val (.int p5), .val (.int (Int32.ofNat nn)), .val (.int (p0 &&& (3 : Int32))), .val (.ref aM), .val (.int (0 : Int32)), .val (.int (Int32.ofNat mm)), .val (.int (Int32.ofNat pp)), .val (.long ((own_low (Int32.ofNat mm)) ||| ((1 : Int64) <<< ((Int32.ofNat pp) &&& 0x3f).toInt64))), .second, .val (.ref ar), .val (.double (FP.ddiv (FP.dadd (FP.i2d (Int32.ofNat mm)) (FP.ddiv (FP.i2d (Int32.ofNat (mm + 1))) (FP.i2d (Int32.ofNat (pp + 1))))) (FP.i2d p3))), .second, .unset, .unset, .val (.double (FP.i2d (Int32.ofNat mm))), .second] [(.double (FP.i2d (Int32.ofNat mm)))])) (fun _ k_ => XS.dload X41.here hx rfl (Jvm.hb hby at_489) rfl k_) ?_
        refine own_go (t' := T41.setTop (mkF m 493 #[.val (.int p0), .val (.int p1), .val (.long p2), .second, .val (.int p3), .val (.int p4), .val (.int p5), .val (.int (Int32.ofNat nn)), .val (.int (p0 &&& (3 : Int32))), .val (.ref aM), .val (.int (0 : Int32)), .val (.int (Int32.ofNat mm)), .val (.int (Int32.ofNat pp)), .val (.long ((own_low (Int32.ofNat mm)) ||| ((1 : Int64) <<< ((Int32.ofNat pp) &&& 0x3f).toInt64))), .second, .val (.ref ar), .val (.double (FP.ddiv (FP.dadd (FP.i2d (Int32.ofNat mm)) (FP.ddiv (FP.i2d (Int32.ofNat (mm + 1))) (FP.i2d (Int32.ofNat (pp + 1))))) (FP.i2d p3))), .second, .unset, .unset, .val (.double (FP.i2d (Int32.ofNat mm))), .second] [(.int (Int32.ofNat mm)), (.double (FP.i2d (Int32.ofNat mm)))])) (fun _ k_ => XS.iload X41.here hx rfl (Jvm.hb hby at_491) rfl k_) ?_
        refine own_go (t' := T41.setTop (mkF m 494 #[.val (.int p0), .val (.int p1), .val (.long p2), .second, .val (.int p3), .val (.int p4), .val (.int p5), .val (.int (Int32.ofNat nn)), .val (.int (p0 &&& (3 : Int32))), .val (.ref aM), .val (.int (0 : Int32)), .val (.int (Int32.ofNat mm)), .val (.int (Int32.ofNat pp)), .val (.long ((own_low (Int32.ofNat mm)) ||| ((1 : Int64) <<< ((Int32.ofNat pp) &&& 0x3f).toInt64))), .second, .val (.ref ar), .val (.double (FP.ddiv (FP.dadd (FP.i2d (Int32.ofNat mm)) (FP.ddiv (FP.i2d (Int32.ofNat (mm + 1))) (FP.i2d (Int32.ofNat (pp + 1))))) (FP.i2d p3))), .second, .unset, .unset, .val (.double (FP.i2d (Int32.ofNat mm))), .second] [(.int (1 : Int32)), (.int (Int32.ofNat mm)), (.double (FP.i2d (Int32.ofNat mm)))])) (fun _ k_ => XS.iconst X41.here hx rfl (Jvm.hb hby at_493) k_) ?_
        refine own_go (t' := T41.setTop (mkF m 495 #[.val (.int p0), .val (.int p1), .val (.long p2), .second, .val (.int p3), .val (.int p4), .val (.int p5), .val (.int (Int32.ofNat nn)), .val (.int (p0 &&& (3 : Int32))), .val (.ref aM), .val (.int (0 : Int32)), .val (.int (Int32.ofNat mm)), .val (.int (Int32.ofNat pp)), .val (.long ((own_low (Int32.ofNat mm)) ||| ((1 : Int64) <<< ((Int32.ofNat pp) &&& 0x3f).toInt64))), .second, .val (.ref ar), .val (.double (FP.ddiv (FP.dadd (FP.i2d (Int32.ofNat mm)) (FP.ddiv (FP.i2d (Int32.ofNat (mm + 1))) (FP.i2d (Int32.ofNat (pp + 1))))) (FP.i2d p3))), .second, .unset, .unset, .val (.double (FP.i2d (Int32.ofNat mm))), .second] [(.int ((Int32.ofNat mm) + (1 : Int32))), (.double (FP.i2d (Int32.ofNat mm)))])) (fun _ k_ => XS.iadd X41.here hx rfl (Jvm.hb hby at_494) rfl k_) ?_
        rw [own_succ mm]
        refine own_go (t' := T41.setTop (mkF m 496 #[.val (.int p0), .val (.int p1), .val (.long p2), .second, .val (.int p3), .val (.int p4), .val (.int p5), .val (.int (Int32.ofNat nn)), .val (.int (p0 &&& (3 : Int32))), .val (.ref aM), .val (.int (0 : Int32)), .val (.int (Int32.ofNat mm)), .val (.int (Int32.ofNat pp)), .val (.long ((own_low (Int32.ofNat mm)) ||| ((1 : Int64) <<< ((Int32.ofNat pp) &&& 0x3f).toInt64))), .second, .val (.ref ar), .val (.double (FP.ddiv (FP.dadd (FP.i2d (Int32.ofNat mm)) (FP.ddiv (FP.i2d (Int32.ofNat (mm + 1))) (FP.i2d (Int32.ofNat (pp + 1))))) (FP.i2d p3))), .second, .unset, .unset, .val (.double (FP.i2d (Int32.ofNat mm))), .second] [(.double (FP.i2d (Int32.ofNat (mm + 1)))), (.double (FP.i2d (Int32.ofNat mm)))])) (fun _ k_ => XS.i2dS X41.here hx rfl (Jvm.hb hby at_495) rfl rfl k_) ?_
        refine own_go (t' := T41.setTop (mkF m 498 #[.val (.int p0), .val (.int p1), .val (.long p2), .second, .val (.int p3), .val (.int p4), .val (.int p5), .val (.int (Int32.ofNat nn)), .val (.int (p0 &&& (3 : Int32))), .val (.ref aM), .val (.int (0 : Int32)), .val (.int (Int32.ofNat mm)), .val (.int (Int32.ofNat pp)), .val (.long ((own_low (Int32.ofNat mm)) ||| ((1 : Int64) <<< ((Int32.ofNat pp) &&& 0x3f).toInt64))), .second, .val (.ref ar), .val (.double (FP.ddiv (FP.dadd (FP.i2d (Int32.ofNat mm)) (FP.ddiv (FP.i2d (Int32.ofNat (mm + 1))) (FP.i2d (Int32.ofNat (pp + 1))))) (FP.i2d p3))), .second, .unset, .unset, .val (.double (FP.i2d (Int32.ofNat mm))), .second] [(.int (Int32.ofNat pp)), (.double (FP.i2d (Int32.ofNat (mm + 1)))), (.double (FP.i2d (Int32.ofNat mm)))])) (fun _ k_ => XS.iload X41.here hx rfl (Jvm.hb hby at_496) rfl k_) ?_
        refine own_go (t' := T41.setTop (mkF m 499 #[.val (.int p0), .val (.int p1), .val (.long p2), .second, .val (.int p3), .val (.int p4), .val (.int p5), .val (.int (Int32.ofNat nn)), .val (.int (p0 &&& (3 : Int32))), .val (.ref aM), .val (.int (0 : Int32)), .val (.int (Int32.ofNat mm)), .val (.int (Int32.ofNat pp)), .val (.long ((own_low (Int32.ofNat mm)) ||| ((1 : Int64) <<< ((Int32.ofNat pp) &&& 0x3f).toInt64))), .second, .val (.ref ar), .val (.double (FP.ddiv (FP.dadd (FP.i2d (Int32.ofNat mm)) (FP.ddiv (FP.i2d (Int32.ofNat (mm + 1))) (FP.i2d (Int32.ofNat (pp + 1))))) (FP.i2d p3))), .second, .unset, .unset, .val (.double (FP.i2d (Int32.ofNat mm))), .second] [(.int (1 : Int32)), (.int (Int32.ofNat pp)), (.double (FP.i2d (Int32.ofNat (mm + 1)))), (.double (FP.i2d (Int32.ofNat mm)))])) (fun _ k_ => XS.iconst X41.here hx rfl (Jvm.hb hby at_498) k_) ?_
        refine own_go (t' := T41.setTop (mkF m 500 #[.val (.int p0), .val (.int p1), .val (.long p2), .second, .val (.int p3), .val (.int p4), .val (.int p5), .val (.int (Int32.ofNat nn)), .val (.int (p0 &&& (3 : Int32))), .val (.ref aM), .val (.int (0 : Int32)), .val (.int (Int32.ofNat mm)), .val (.int (Int32.ofNat pp)), .val (.long ((own_low (Int32.ofNat mm)) ||| ((1 : Int64) <<< ((Int32.ofNat pp) &&& 0x3f).toInt64))), .second, .val (.ref ar), .val (.double (FP.ddiv (FP.dadd (FP.i2d (Int32.ofNat mm)) (FP.ddiv (FP.i2d (Int32.ofNat (mm + 1))) (FP.i2d (Int32.ofNat (pp + 1))))) (FP.i2d p3))), .second, .unset, .unset, .val (.double (FP.i2d (Int32.ofNat mm))), .second] [(.int ((Int32.ofNat pp) + (1 : Int32))), (.double (FP.i2d (Int32.ofNat (mm + 1)))), (.double (FP.i2d (Int32.ofNat mm)))])) (fun _ k_ => XS.iadd X41.here hx rfl (Jvm.hb hby at_499) rfl k_) ?_
        rw [own_succ pp]
        refine own_go (t' := T41.setTop (mkF m 501 #[.val (.int p0), .val (.int p1), .val (.long p2), .second, .val (.int p3), .val (.int p4), .val (.int p5), .val (.int (Int32.ofNat nn)), .val (.int (p0 &&& (3 : Int32))), .val (.ref aM), .val (.int (0 : Int32)), .val (.int (Int32.ofNat mm)), .val (.int (Int32.ofNat pp)), .val (.long ((own_low (Int32.ofNat mm)) ||| ((1 : Int64) <<< ((Int32.ofNat pp) &&& 0x3f).toInt64))), .second, .val (.ref ar), .val (.double (FP.ddiv (FP.dadd (FP.i2d (Int32.ofNat mm)) (FP.ddiv (FP.i2d (Int32.ofNat (mm + 1))) (FP.i2d (Int32.ofNat (pp + 1))))) (FP.i2d p3))), .second, .unset, .unset, .val (.double (FP.i2d (Int32.ofNat mm))), .second] [(.double (FP.i2d (Int32.ofNat (pp + 1)))), (.double (FP.i2d (Int32.ofNat (mm + 1)))), (.double (FP.i2d (Int32.ofNat mm)))])) (fun _ k_ => XS.i2dS X41.here hx rfl (Jvm.hb hby at_500) rfl rfl k_) ?_
        have hq : OwnFp.DF (FP.ddiv (FP.i2d (Int32.ofNat (mm + 1))) (FP.i2d (Int32.ofNat (pp + 1)))) := OwnFp.quo_fin (by rw [own_i32 (by omega)]; omega) (by rw [own_i32 (by omega)]; omega) (by rw [own_i32 (by omega), own_i32 (by omega)]; omega)
        refine own_go (t' := T41.setTop (mkF m 502 #[.val (.int p0), .val (.int p1), .val (.long p2), .second, .val (.int p3), .val (.int p4), .val (.int p5), .val (.int (Int32.ofNat nn)), .val (.int (p0 &&& (3 : Int32))), .val (.ref aM), .val (.int (0 : Int32)), .val (.int (Int32.ofNat mm)), .val (.int (Int32.ofNat pp)), .val (.long ((own_low (Int32.ofNat mm)) ||| ((1 : Int64) <<< ((Int32.ofNat pp) &&& 0x3f).toInt64))), .second, .val (.ref ar), .val (.double (FP.ddiv (FP.dadd (FP.i2d (Int32.ofNat mm)) (FP.ddiv (FP.i2d (Int32.ofNat (mm + 1))) (FP.i2d (Int32.ofNat (pp + 1))))) (FP.i2d p3))), .second, .unset, .unset, .val (.double (FP.i2d (Int32.ofNat mm))), .second] [(.double (FP.ddiv (FP.i2d (Int32.ofNat (mm + 1))) (FP.i2d (Int32.ofNat (pp + 1))))), (.double (FP.i2d (Int32.ofNat mm)))])) (fun _ k_ => XS.ddivS X41.here hx rfl (Jvm.hb hby at_501) rfl (OwnFp.no_nan (OwnFp.fin_nan hq)) rfl k_) ?_
        refine own_go (t' := T41.setTop (mkF m 503 #[.val (.int p0), .val (.int p1), .val (.long p2), .second, .val (.int p3), .val (.int p4), .val (.int p5), .val (.int (Int32.ofNat nn)), .val (.int (p0 &&& (3 : Int32))), .val (.ref aM), .val (.int (0 : Int32)), .val (.int (Int32.ofNat mm)), .val (.int (Int32.ofNat pp)), .val (.long ((own_low (Int32.ofNat mm)) ||| ((1 : Int64) <<< ((Int32.ofNat pp) &&& 0x3f).toInt64))), .second, .val (.ref ar), .val (.double (FP.ddiv (FP.dadd (FP.i2d (Int32.ofNat mm)) (FP.ddiv (FP.i2d (Int32.ofNat (mm + 1))) (FP.i2d (Int32.ofNat (pp + 1))))) (FP.i2d p3))), .second, .unset, .unset, .val (.double (FP.i2d (Int32.ofNat mm))), .second] [(.double (FP.dadd (FP.i2d (Int32.ofNat mm)) (FP.ddiv (FP.i2d (Int32.ofNat (mm + 1))) (FP.i2d (Int32.ofNat (pp + 1))))))])) (fun _ k_ => XS.daddS X41.here hx rfl (Jvm.hb hby at_502) rfl (OwnFp.no_nan hfin) rfl k_) ?_
        refine own_go (t' := T41.setTop (mkF m 505 #[.val (.int p0), .val (.int p1), .val (.long p2), .second, .val (.int p3), .val (.int p4), .val (.int p5), .val (.int (Int32.ofNat nn)), .val (.int (p0 &&& (3 : Int32))), .val (.ref aM), .val (.int (0 : Int32)), .val (.int (Int32.ofNat mm)), .val (.int (Int32.ofNat pp)), .val (.long ((own_low (Int32.ofNat mm)) ||| ((1 : Int64) <<< ((Int32.ofNat pp) &&& 0x3f).toInt64))), .second, .val (.ref ar), .val (.double (FP.ddiv (FP.dadd (FP.i2d (Int32.ofNat mm)) (FP.ddiv (FP.i2d (Int32.ofNat (mm + 1))) (FP.i2d (Int32.ofNat (pp + 1))))) (FP.i2d p3))), .second, .unset, .unset, .val (.double (FP.dadd (FP.i2d (Int32.ofNat mm)) (FP.ddiv (FP.i2d (Int32.ofNat (mm + 1))) (FP.i2d (Int32.ofNat (pp + 1)))))), .second] [])) (fun _ k_ => XS.dstore X41.here hx rfl (Jvm.hb hby at_503) rfl (l' := #[.val (.int p0), .val (.int p1), .val (.long p2), .second, .val (.int p3), .val (.int p4), .val (.int p5), .val (.int (Int32.ofNat nn)), .val (.int (p0 &&& (3 : Int32))), .val (.ref aM), .val (.int (0 : Int32)), .val (.int (Int32.ofNat mm)), .val (.int (Int32.ofNat pp)), .val (.long ((own_low (Int32.ofNat mm)) ||| ((1 : Int64) <<< ((Int32.ofNat pp) &&& 0x3f).toInt64))), .second, .val (.ref ar), .val (.double (FP.ddiv (FP.dadd (FP.i2d (Int32.ofNat mm)) (FP.ddiv (FP.i2d (Int32.ofNat (mm + 1))) (FP.i2d (Int32.ofNat (pp + 1))))) (FP.i2d p3))), .second, .unset, .unset, .val (.double (FP.dadd (FP.i2d (Int32.ofNat mm)) (FP.ddiv (FP.i2d (Int32.ofNat (mm + 1))) (FP.i2d (Int32.ofNat (pp + 1)))))), .second]) rfl k_) ?_
        refine own_go (t' := T41.setTop (mkF m 507 #[.val (.int p0), .val (.int p1), .val (.long p2), .second, .val (.int p3), .val (.int p4), .val (.int p5), .val (.int (Int32.ofNat nn)), .val (.int (p0 &&& (3 : Int32))), .val (.ref aM), .val (.int (0 : Int32)), .val (.int (Int32.ofNat mm)), .val (.int (Int32.ofNat pp)), .val (.long ((own_low (Int32.ofNat mm)) ||| ((1 : Int64) <<< ((Int32.ofNat pp) &&& 0x3f).toInt64))), .second, .val (.ref ar), .val (.double (FP.ddiv (FP.dadd (FP.i2d (Int32.ofNat mm)) (FP.ddiv (FP.i2d (Int32.ofNat (mm + 1))) (FP.i2d (Int32.ofNat (pp + 1))))) (FP.i2d p3))), .second, .unset, .unset, .val (.double (FP.dadd (FP.i2d (Int32.ofNat mm)) (FP.ddiv (FP.i2d (Int32.ofNat (mm + 1))) (FP.i2d (Int32.ofNat (pp + 1)))))), .second] [(.double (FP.dadd (FP.i2d (Int32.ofNat mm)) (FP.ddiv (FP.i2d (Int32.ofNat (mm + 1))) (FP.i2d (Int32.ofNat (pp + 1))))))])) (fun _ k_ => XS.dload X41.here hx rfl (Jvm.hb hby at_505) rfl k_) ?_
        refine own_go (t' := T41.setTop (mkF m 509 #[.val (.int p0), .val (.int p1), .val (.long p2), .second, .val (.int p3), .val (.int p4), .val (.int p5), .val (.int (Int32.ofNat nn)), .val (.int (p0 &&& (3 : Int32))), .val (.ref aM), .val (.int (0 : Int32)), .val (.int (Int32.ofNat mm)), .val (.int (Int32.ofNat pp)), .val (.long ((own_low (Int32.ofNat mm)) ||| ((1 : Int64) <<< ((Int32.ofNat pp) &&& 0x3f).toInt64))), .second, .val (.ref ar), .val (.double (FP.ddiv (FP.dadd (FP.i2d (Int32.ofNat mm)) (FP.ddiv (FP.i2d (Int32.ofNat (mm + 1))) (FP.i2d (Int32.ofNat (pp + 1))))) (FP.i2d p3))), .second, .unset, .unset, .val (.double (FP.dadd (FP.i2d (Int32.ofNat mm)) (FP.ddiv (FP.i2d (Int32.ofNat (mm + 1))) (FP.i2d (Int32.ofNat (pp + 1)))))), .second] [(.int p3), (.double (FP.dadd (FP.i2d (Int32.ofNat mm)) (FP.ddiv (FP.i2d (Int32.ofNat (mm + 1))) (FP.i2d (Int32.ofNat (pp + 1))))))])) (fun _ k_ => XS.iload X41.here hx rfl (Jvm.hb hby at_507) rfl k_) ?_
        refine own_go (t' := T41.setTop (mkF m 510 #[.val (.int p0), .val (.int p1), .val (.long p2), .second, .val (.int p3), .val (.int p4), .val (.int p5), .val (.int (Int32.ofNat nn)), .val (.int (p0 &&& (3 : Int32))), .val (.ref aM), .val (.int (0 : Int32)), .val (.int (Int32.ofNat mm)), .val (.int (Int32.ofNat pp)), .val (.long ((own_low (Int32.ofNat mm)) ||| ((1 : Int64) <<< ((Int32.ofNat pp) &&& 0x3f).toInt64))), .second, .val (.ref ar), .val (.double (FP.ddiv (FP.dadd (FP.i2d (Int32.ofNat mm)) (FP.ddiv (FP.i2d (Int32.ofNat (mm + 1))) (FP.i2d (Int32.ofNat (pp + 1))))) (FP.i2d p3))), .second, .unset, .unset, .val (.double (FP.dadd (FP.i2d (Int32.ofNat mm)) (FP.ddiv (FP.i2d (Int32.ofNat (mm + 1))) (FP.i2d (Int32.ofNat (pp + 1)))))), .second] [(.double (FP.i2d p3)), (.double (FP.dadd (FP.i2d (Int32.ofNat mm)) (FP.ddiv (FP.i2d (Int32.ofNat (mm + 1))) (FP.i2d (Int32.ofNat (pp + 1))))))])) (fun _ k_ => XS.i2dS X41.here hx rfl (Jvm.hb hby at_509) rfl rfl k_) ?_
        have hdv := OwnFp.div_any hfin hz
        refine own_go (t' := T41.setTop (mkF m 511 #[.val (.int p0), .val (.int p1), .val (.long p2), .second, .val (.int p3), .val (.int p4), .val (.int p5), .val (.int (Int32.ofNat nn)), .val (.int (p0 &&& (3 : Int32))), .val (.ref aM), .val (.int (0 : Int32)), .val (.int (Int32.ofNat mm)), .val (.int (Int32.ofNat pp)), .val (.long ((own_low (Int32.ofNat mm)) ||| ((1 : Int64) <<< ((Int32.ofNat pp) &&& 0x3f).toInt64))), .second, .val (.ref ar), .val (.double (FP.ddiv (FP.dadd (FP.i2d (Int32.ofNat mm)) (FP.ddiv (FP.i2d (Int32.ofNat (mm + 1))) (FP.i2d (Int32.ofNat (pp + 1))))) (FP.i2d p3))), .second, .unset, .unset, .val (.double (FP.dadd (FP.i2d (Int32.ofNat mm)) (FP.ddiv (FP.i2d (Int32.ofNat (mm + 1))) (FP.i2d (Int32.ofNat (pp + 1)))))), .second] [(.double (FP.ddiv (FP.dadd (FP.i2d (Int32.ofNat mm)) (FP.ddiv (FP.i2d (Int32.ofNat (mm + 1))) (FP.i2d (Int32.ofNat (pp + 1))))) (FP.i2d p3)))])) (fun _ k_ => XS.ddivS X41.here hx rfl (Jvm.hb hby at_510) rfl hdv rfl k_) ?_
        refine own_go (t' := T41.setTop (mkF m 513 #[.val (.int p0), .val (.int p1), .val (.long p2), .second, .val (.int p3), .val (.int p4), .val (.int p5), .val (.int (Int32.ofNat nn)), .val (.int (p0 &&& (3 : Int32))), .val (.ref aM), .val (.int (0 : Int32)), .val (.int (Int32.ofNat mm)), .val (.int (Int32.ofNat pp)), .val (.long ((own_low (Int32.ofNat mm)) ||| ((1 : Int64) <<< ((Int32.ofNat pp) &&& 0x3f).toInt64))), .second, .val (.ref ar), .val (.double (FP.ddiv (FP.dadd (FP.i2d (Int32.ofNat mm)) (FP.ddiv (FP.i2d (Int32.ofNat (mm + 1))) (FP.i2d (Int32.ofNat (pp + 1))))) (FP.i2d p3))), .second, .val (.double (FP.ddiv (FP.dadd (FP.i2d (Int32.ofNat mm)) (FP.ddiv (FP.i2d (Int32.ofNat (mm + 1))) (FP.i2d (Int32.ofNat (pp + 1))))) (FP.i2d p3))), .second, .val (.double (FP.dadd (FP.i2d (Int32.ofNat mm)) (FP.ddiv (FP.i2d (Int32.ofNat (mm + 1))) (FP.i2d (Int32.ofNat (pp + 1)))))), .second] [])) (fun _ k_ => XS.dstore X41.here hx rfl (Jvm.hb hby at_511) rfl (l' := #[.val (.int p0), .val (.int p1), .val (.long p2), .second, .val (.int p3), .val (.int p4), .val (.int p5), .val (.int (Int32.ofNat nn)), .val (.int (p0 &&& (3 : Int32))), .val (.ref aM), .val (.int (0 : Int32)), .val (.int (Int32.ofNat mm)), .val (.int (Int32.ofNat pp)), .val (.long ((own_low (Int32.ofNat mm)) ||| ((1 : Int64) <<< ((Int32.ofNat pp) &&& 0x3f).toInt64))), .second, .val (.ref ar), .val (.double (FP.ddiv (FP.dadd (FP.i2d (Int32.ofNat mm)) (FP.ddiv (FP.i2d (Int32.ofNat (mm + 1))) (FP.i2d (Int32.ofNat (pp + 1))))) (FP.i2d p3))), .second, .val (.double (FP.ddiv (FP.dadd (FP.i2d (Int32.ofNat mm)) (FP.ddiv (FP.i2d (Int32.ofNat (mm + 1))) (FP.i2d (Int32.ofNat (pp + 1))))) (FP.i2d p3))), .second, .val (.double (FP.dadd (FP.i2d (Int32.ofNat mm)) (FP.ddiv (FP.i2d (Int32.ofNat (mm + 1))) (FP.i2d (Int32.ofNat (pp + 1)))))), .second]) rfl k_) ?_
        refine own_go (t' := T41.setTop (mkF m 547 #[.val (.int p0), .val (.int p1), .val (.long p2), .second, .val (.int p3), .val (.int p4), .val (.int p5), .val (.int (Int32.ofNat nn)), .val (.int (p0 &&& (3 : Int32))), .val (.ref aM), .val (.int (0 : Int32)), .val (.int (Int32.ofNat mm)), .val (.int (Int32.ofNat pp)), .val (.long ((own_low (Int32.ofNat mm)) ||| ((1 : Int64) <<< ((Int32.ofNat pp) &&& 0x3f).toInt64))), .second, .val (.ref ar), .val (.double (FP.ddiv (FP.dadd (FP.i2d (Int32.ofNat mm)) (FP.ddiv (FP.i2d (Int32.ofNat (mm + 1))) (FP.i2d (Int32.ofNat (pp + 1))))) (FP.i2d p3))), .second, .val (.double (FP.ddiv (FP.dadd (FP.i2d (Int32.ofNat mm)) (FP.ddiv (FP.i2d (Int32.ofNat (mm + 1))) (FP.i2d (Int32.ofNat (pp + 1))))) (FP.i2d p3))), .second, .val (.double (FP.dadd (FP.i2d (Int32.ofNat mm)) (FP.ddiv (FP.i2d (Int32.ofNat (mm + 1))) (FP.i2d (Int32.ofNat (pp + 1)))))), .second] [])) (fun _ k_ => XS.goto X41.here hx rfl (pc0 := 513) (pc' := 547) rfl (Jvm.hb hby at_513) (by decide) (by decide) k_) ?_
        refine own_go (t' := T41.setTop (mkF m 549 #[.val (.int p0), .val (.int p1), .val (.long p2), .second, .val (.int p3), .val (.int p4), .val (.int p5), .val (.int (Int32.ofNat nn)), .val (.int (p0 &&& (3 : Int32))), .val (.ref aM), .val (.int (0 : Int32)), .val (.int (Int32.ofNat mm)), .val (.int (Int32.ofNat pp)), .val (.long ((own_low (Int32.ofNat mm)) ||| ((1 : Int64) <<< ((Int32.ofNat pp) &&& 0x3f).toInt64))), .second, .val (.ref ar), .val (.double (FP.ddiv (FP.dadd (FP.i2d (Int32.ofNat mm)) (FP.ddiv (FP.i2d (Int32.ofNat (mm + 1))) (FP.i2d (Int32.ofNat (pp + 1))))) (FP.i2d p3))), .second, .val (.double (FP.ddiv (FP.dadd (FP.i2d (Int32.ofNat mm)) (FP.ddiv (FP.i2d (Int32.ofNat (mm + 1))) (FP.i2d (Int32.ofNat (pp + 1))))) (FP.i2d p3))), .second, .val (.double (FP.dadd (FP.i2d (Int32.ofNat mm)) (FP.ddiv (FP.i2d (Int32.ofNat (mm + 1))) (FP.i2d (Int32.ofNat (pp + 1)))))), .second] [(.double (FP.ddiv (FP.dadd (FP.i2d (Int32.ofNat mm)) (FP.ddiv (FP.i2d (Int32.ofNat (mm + 1))) (FP.i2d (Int32.ofNat (pp + 1))))) (FP.i2d p3)))])) (fun _ k_ => XS.dload X41.here hx rfl (Jvm.hb hby at_547) rfl k_) ?_
        refine own_go (t' := T41.setTop (mkF m 551 #[.val (.int p0), .val (.int p1), .val (.long p2), .second, .val (.int p3), .val (.int p4), .val (.int p5), .val (.int (Int32.ofNat nn)), .val (.int (p0 &&& (3 : Int32))), .val (.ref aM), .val (.int (0 : Int32)), .val (.int (Int32.ofNat mm)), .val (.int (Int32.ofNat pp)), .val (.long ((own_low (Int32.ofNat mm)) ||| ((1 : Int64) <<< ((Int32.ofNat pp) &&& 0x3f).toInt64))), .second, .val (.ref ar), .val (.double (FP.ddiv (FP.dadd (FP.i2d (Int32.ofNat mm)) (FP.ddiv (FP.i2d (Int32.ofNat (mm + 1))) (FP.i2d (Int32.ofNat (pp + 1))))) (FP.i2d p3))), .second, .val (.double (FP.ddiv (FP.dadd (FP.i2d (Int32.ofNat mm)) (FP.ddiv (FP.i2d (Int32.ofNat (mm + 1))) (FP.i2d (Int32.ofNat (pp + 1))))) (FP.i2d p3))), .second, .val (.double (FP.dadd (FP.i2d (Int32.ofNat mm)) (FP.ddiv (FP.i2d (Int32.ofNat (mm + 1))) (FP.i2d (Int32.ofNat (pp + 1)))))), .second] [(.double (FP.ddiv (FP.dadd (FP.i2d (Int32.ofNat mm)) (FP.ddiv (FP.i2d (Int32.ofNat (mm + 1))) (FP.i2d (Int32.ofNat (pp + 1))))) (FP.i2d p3))), (.double (FP.ddiv (FP.dadd (FP.i2d (Int32.ofNat mm)) (FP.ddiv (FP.i2d (Int32.ofNat (mm + 1))) (FP.i2d (Int32.ofNat (pp + 1))))) (FP.i2d p3)))])) (fun _ k_ => XS.dload X41.here hx rfl (Jvm.hb hby at_549) rfl k_) ?_
        refine own_go (t' := T41.setTop (mkF m 552 #[.val (.int p0), .val (.int p1), .val (.long p2), .second, .val (.int p3), .val (.int p4), .val (.int p5), .val (.int (Int32.ofNat nn)), .val (.int (p0 &&& (3 : Int32))), .val (.ref aM), .val (.int (0 : Int32)), .val (.int (Int32.ofNat mm)), .val (.int (Int32.ofNat pp)), .val (.long ((own_low (Int32.ofNat mm)) ||| ((1 : Int64) <<< ((Int32.ofNat pp) &&& 0x3f).toInt64))), .second, .val (.ref ar), .val (.double (FP.ddiv (FP.dadd (FP.i2d (Int32.ofNat mm)) (FP.ddiv (FP.i2d (Int32.ofNat (mm + 1))) (FP.i2d (Int32.ofNat (pp + 1))))) (FP.i2d p3))), .second, .val (.double (FP.ddiv (FP.dadd (FP.i2d (Int32.ofNat mm)) (FP.ddiv (FP.i2d (Int32.ofNat (mm + 1))) (FP.i2d (Int32.ofNat (pp + 1))))) (FP.i2d p3))), .second, .val (.double (FP.dadd (FP.i2d (Int32.ofNat mm)) (FP.ddiv (FP.i2d (Int32.ofNat (mm + 1))) (FP.i2d (Int32.ofNat (pp + 1)))))), .second] [(.int (cmpValue (FP.dcmp (FP.ddiv (FP.dadd (FP.i2d (Int32.ofNat mm)) (FP.ddiv (FP.i2d (Int32.ofNat (mm + 1))) (FP.i2d (Int32.ofNat (pp + 1))))) (FP.i2d p3)) (FP.ddiv (FP.dadd (FP.i2d (Int32.ofNat mm)) (FP.ddiv (FP.i2d (Int32.ofNat (mm + 1))) (FP.i2d (Int32.ofNat (pp + 1))))) (FP.i2d p3))) CmpOp.l))])) (fun _ k_ => XS.dcmpS X41.here hx rfl (Jvm.hb hby at_551) rfl rfl k_) ?_
        refine own_go (t' := T41.setTop (mkF m 555 #[.val (.int p0), .val (.int p1), .val (.long p2), .second, .val (.int p3), .val (.int p4), .val (.int p5), .val (.int (Int32.ofNat nn)), .val (.int (p0 &&& (3 : Int32))), .val (.ref aM), .val (.int (0 : Int32)), .val (.int (Int32.ofNat mm)), .val (.int (Int32.ofNat pp)), .val (.long ((own_low (Int32.ofNat mm)) ||| ((1 : Int64) <<< ((Int32.ofNat pp) &&& 0x3f).toInt64))), .second, .val (.ref ar), .val (.double (FP.ddiv (FP.dadd (FP.i2d (Int32.ofNat mm)) (FP.ddiv (FP.i2d (Int32.ofNat (mm + 1))) (FP.i2d (Int32.ofNat (pp + 1))))) (FP.i2d p3))), .second, .val (.double (FP.ddiv (FP.dadd (FP.i2d (Int32.ofNat mm)) (FP.ddiv (FP.i2d (Int32.ofNat (mm + 1))) (FP.i2d (Int32.ofNat (pp + 1))))) (FP.i2d p3))), .second, .val (.double (FP.dadd (FP.i2d (Int32.ofNat mm)) (FP.ddiv (FP.i2d (Int32.ofNat (mm + 1))) (FP.i2d (Int32.ofNat (pp + 1)))))), .second] [])) (fun _ k_ => XS.ifNo X41.here hx rfl (Jvm.hb hby at_552) rfl ((if0 _ _).trans (teq (OwnFp.self_eq hdv _)).2) k_) ?_
        refine own_go (t' := T41.setTop (mkF m 556 #[.val (.int p0), .val (.int p1), .val (.long p2), .second, .val (.int p3), .val (.int p4), .val (.int p5), .val (.int (Int32.ofNat nn)), .val (.int (p0 &&& (3 : Int32))), .val (.ref aM), .val (.int (0 : Int32)), .val (.int (Int32.ofNat mm)), .val (.int (Int32.ofNat pp)), .val (.long ((own_low (Int32.ofNat mm)) ||| ((1 : Int64) <<< ((Int32.ofNat pp) &&& 0x3f).toInt64))), .second, .val (.ref ar), .val (.double (FP.ddiv (FP.dadd (FP.i2d (Int32.ofNat mm)) (FP.ddiv (FP.i2d (Int32.ofNat (mm + 1))) (FP.i2d (Int32.ofNat (pp + 1))))) (FP.i2d p3))), .second, .val (.double (FP.ddiv (FP.dadd (FP.i2d (Int32.ofNat mm)) (FP.ddiv (FP.i2d (Int32.ofNat (mm + 1))) (FP.i2d (Int32.ofNat (pp + 1))))) (FP.i2d p3))), .second, .val (.double (FP.dadd (FP.i2d (Int32.ofNat mm)) (FP.ddiv (FP.i2d (Int32.ofNat (mm + 1))) (FP.i2d (Int32.ofNat (pp + 1)))))), .second] [(.int (1 : Int32))])) (fun _ k_ => XS.iconst X41.here hx rfl (Jvm.hb hby at_555) k_) ?_
        refine own_go (t' := T41.setTop (mkF m 560 #[.val (.int p0), .val (.int p1), .val (.long p2), .second, .val (.int p3), .val (.int p4), .val (.int p5), .val (.int (Int32.ofNat nn)), .val (.int (p0 &&& (3 : Int32))), .val (.ref aM), .val (.int (0 : Int32)), .val (.int (Int32.ofNat mm)), .val (.int (Int32.ofNat pp)), .val (.long ((own_low (Int32.ofNat mm)) ||| ((1 : Int64) <<< ((Int32.ofNat pp) &&& 0x3f).toInt64))), .second, .val (.ref ar), .val (.double (FP.ddiv (FP.dadd (FP.i2d (Int32.ofNat mm)) (FP.ddiv (FP.i2d (Int32.ofNat (mm + 1))) (FP.i2d (Int32.ofNat (pp + 1))))) (FP.i2d p3))), .second, .val (.double (FP.ddiv (FP.dadd (FP.i2d (Int32.ofNat mm)) (FP.ddiv (FP.i2d (Int32.ofNat (mm + 1))) (FP.i2d (Int32.ofNat (pp + 1))))) (FP.i2d p3))), .second, .val (.double (FP.dadd (FP.i2d (Int32.ofNat mm)) (FP.ddiv (FP.i2d (Int32.ofNat (mm + 1))) (FP.i2d (Int32.ofNat (pp + 1)))))), .second] [(.int (1 : Int32))])) (fun _ k_ => XS.goto X41.here hx rfl (pc0 := 556) (pc' := 560) rfl (Jvm.hb hby at_556) (by decide) (by decide) k_) ?_
        exact own_retZ X41 hx Bd.returns (BodyLoose.notSynchronized Bd) rfl (Jvm.hb hby at_560) (by decide) (by decide) ⟨rfl, N41⟩
  refine own_go (t' := s₁.setTop (mkF m 16 #[.val (.int p0), .val (.int p1), .val (.long p2), .second, .val (.int p3), .val (.int p4), .val (.int p5), .val (.int (Int32.ofNat nn)), .val (.int (p0 &&& (3 : Int32))), .unset, .unset, .unset, .unset, .unset, .unset, .unset, .unset, .unset, .unset, .unset, .unset, .unset] [(.int (p0 &&& (3 : Int32)))])) (fun _ k_ => XS.iload X0.here hx rfl (Jvm.hb hby at_14) rfl k_) ?_
  by_cases q0 : (p0 &&& (3 : Int32)) = 0
  ·
    refine own_go (t' := s₁.setTop (mkF m 19 #[.val (.int p0), .val (.int p1), .val (.long p2), .second, .val (.int p3), .val (.int p4), .val (.int p5), .val (.int (Int32.ofNat nn)), .val (.int (p0 &&& (3 : Int32))), .unset, .unset, .unset, .unset, .unset, .unset, .unset, .unset, .unset, .unset, .unset, .unset, .unset] [])) (fun _ k_ => XS.ifNo X0.here hx rfl (Jvm.hb hby at_16) rfl ((if0 _ _).trans (teq q0).2) k_) ?_
    obtain ⟨T42, X42, e42, st42⟩ := getS (host := "") X0 hx hZ hown (hw _ (List.mem_of_getElem? (i := 1) rfl)) Via.refl e0 S_a5 (g := (mkF m 19 #[.val (.int p0), .val (.int p1), .val (.long p2), .second, .val (.int p3), .val (.int p4), .val (.int p5), .val (.int (Int32.ofNat nn)), .val (.int (p0 &&& (3 : Int32))), .unset, .unset, .unset, .unset, .unset, .unset, .unset, .unset, .unset, .unset, .unset, .unset, .unset] [])) rfl (Jvm.hb hby at_19)
    refine own_go (t' := T42.setTop (mkF m 22 #[.val (.int p0), .val (.int p1), .val (.long p2), .second, .val (.int p3), .val (.int p4), .val (.int p5), .val (.int (Int32.ofNat nn)), .val (.int (p0 &&& (3 : Int32))), .unset, .unset, .unset, .unset, .unset, .unset, .unset, .unset, .unset, .unset, .unset, .unset, .unset] [(.ref a5)])) st42 ?_
    refine own_go (t' := T42.setTop (mkF m 24 #[.val (.int p0), .val (.int p1), .val (.long p2), .second, .val (.int p3), .val (.int p4), .val (.int p5), .val (.int (Int32.ofNat nn)), .val (.int (p0 &&& (3 : Int32))), .val (.ref a5), .unset, .unset, .unset, .unset, .unset, .unset, .unset, .unset, .unset, .unset, .unset, .unset] [])) (fun _ k_ => XS.astore X42.here hx rfl (Jvm.hb hby at_22) rfl rfl (l' := #[.val (.int p0), .val (.int p1), .val (.long p2), .second, .val (.int p3), .val (.int p4), .val (.int p5), .val (.int (Int32.ofNat nn)), .val (.int (p0 &&& (3 : Int32))), .val (.ref a5), .unset, .unset, .unset, .unset, .unset, .unset, .unset, .unset, .unset, .unset, .unset, .unset]) rfl k_) ?_
    refine own_go (t' := T42.setTop (mkF m 25 #[.val (.int p0), .val (.int p1), .val (.long p2), .second, .val (.int p3), .val (.int p4), .val (.int p5), .val (.int (Int32.ofNat nn)), .val (.int (p0 &&& (3 : Int32))), .val (.ref a5), .unset, .unset, .unset, .unset, .unset, .unset, .unset, .unset, .unset, .unset, .unset, .unset] [(.int (5 : Int32))])) (fun _ k_ => XS.iconst X42.here hx rfl (Jvm.hb hby at_24) k_) ?_
    refine own_go (t' := T42.setTop (mkF m 27 #[.val (.int p0), .val (.int p1), .val (.long p2), .second, .val (.int p3), .val (.int p4), .val (.int p5), .val (.int (Int32.ofNat nn)), .val (.int (p0 &&& (3 : Int32))), .val (.ref a5), .val (.int (5 : Int32)), .unset, .unset, .unset, .unset, .unset, .unset, .unset, .unset, .unset, .unset, .unset] [])) (fun _ k_ => XS.istore X42.here hx rfl (Jvm.hb hby at_25) rfl (l' := #[.val (.int p0), .val (.int p1), .val (.long p2), .second, .val (.int p3), .val (.int p4), .val (.int p5), .val (.int (Int32.ofNat nn)), .val (.int (p0 &&& (3 : Int32))), .val (.ref a5), .val (.int (5 : Int32)), .unset, .unset, .unset, .unset, .unset, .unset, .unset, .unset, .unset, .unset, .unset]) rfl k_) ?_
    refine own_go (t' := T42.setTop (mkF m 74 #[.val (.int p0), .val (.int p1), .val (.long p2), .second, .val (.int p3), .val (.int p4), .val (.int p5), .val (.int (Int32.ofNat nn)), .val (.int (p0 &&& (3 : Int32))), .val (.ref a5), .val (.int (5 : Int32)), .unset, .unset, .unset, .unset, .unset, .unset, .unset, .unset, .unset, .unset, .unset] [])) (fun _ k_ => XS.goto X42.here hx rfl (pc0 := 27) (pc' := 74) rfl (Jvm.hb hby at_27) (by decide) (by decide) k_) ?_
    refine own_go (t' := T42.setTop (mkF m 75 #[.val (.int p0), .val (.int p1), .val (.long p2), .second, .val (.int p3), .val (.int p4), .val (.int p5), .val (.int (Int32.ofNat nn)), .val (.int (p0 &&& (3 : Int32))), .val (.ref a5), .val (.int (5 : Int32)), .unset, .unset, .unset, .unset, .unset, .unset, .unset, .unset, .unset, .unset, .unset] [(.int (0 : Int32))])) (fun _ k_ => XS.iconst X42.here hx rfl (Jvm.hb hby at_74) k_) ?_
    refine own_go (t' := T42.setTop (mkF m 77 #[.val (.int p0), .val (.int p1), .val (.long p2), .second, .val (.int p3), .val (.int p4), .val (.int p5), .val (.int (Int32.ofNat nn)), .val (.int (p0 &&& (3 : Int32))), .val (.ref a5), .val (.int (5 : Int32)), .val (.int (0 : Int32)), .unset, .unset, .unset, .unset, .unset, .unset, .unset, .unset, .unset, .unset] [])) (fun _ k_ => XS.istore X42.here hx rfl (Jvm.hb hby at_75) rfl (l' := #[.val (.int p0), .val (.int p1), .val (.long p2), .second, .val (.int p3), .val (.int p4), .val (.int p5), .val (.int (Int32.ofNat nn)), .val (.int (p0 &&& (3 : Int32))), .val (.ref a5), .val (.int (5 : Int32)), .val (.int (0 : Int32)), .unset, .unset, .unset, .unset, .unset, .unset, .unset, .unset, .unset, .unset]) rfl k_) ?_
    refine own_go (t' := T42.setTop (mkF m 78 #[.val (.int p0), .val (.int p1), .val (.long p2), .second, .val (.int p3), .val (.int p4), .val (.int p5), .val (.int (Int32.ofNat nn)), .val (.int (p0 &&& (3 : Int32))), .val (.ref a5), .val (.int (5 : Int32)), .val (.int (0 : Int32)), .unset, .unset, .unset, .unset, .unset, .unset, .unset, .unset, .unset, .unset] [(.int (-1 : Int32))])) (fun _ k_ => XS.iconst X42.here hx rfl (Jvm.hb hby at_77) k_) ?_
    refine own_go (t' := T42.setTop (mkF m 80 #[.val (.int p0), .val (.int p1), .val (.long p2), .second, .val (.int p3), .val (.int p4), .val (.int p5), .val (.int (Int32.ofNat nn)), .val (.int (p0 &&& (3 : Int32))), .val (.ref a5), .val (.int (5 : Int32)), .val (.int (0 : Int32)), .val (.int (-1 : Int32)), .unset, .unset, .unset, .unset, .unset, .unset, .unset, .unset, .unset] [])) (fun _ k_ => XS.istore X42.here hx rfl (Jvm.hb hby at_78) rfl (l' := #[.val (.int p0), .val (.int p1), .val (.long p2), .second, .val (.int p3), .val (.int p4), .val (.int p5), .val (.int (Int32.ofNat nn)), .val (.int (p0 &&& (3 : Int32))), .val (.ref a5), .val (.int (5 : Int32)), .val (.int (0 : Int32)), .val (.int (-1 : Int32)), .unset, .unset, .unset, .unset, .unset, .unset, .unset, .unset, .unset]) rfl k_) ?_
    exact JA _ _ a5 5 X42 e42 N0 (by rw [q0]; decide) F_a5 X_a5 n_a5 (by decide) (by decide)
  ·
    refine own_go (t' := s₁.setTop (mkF m 30 #[.val (.int p0), .val (.int p1), .val (.long p2), .second, .val (.int p3), .val (.int p4), .val (.int p5), .val (.int (Int32.ofNat nn)), .val (.int (p0 &&& (3 : Int32))), .unset, .unset, .unset, .unset, .unset, .unset, .unset, .unset, .unset, .unset, .unset, .unset, .unset] [])) (fun _ k_ => XS.ifYes X0.here hx rfl (pc0 := 16) (pc' := 30) rfl (Jvm.hb hby at_16) rfl ((if0 _ _).trans (feq q0).2) (by decide) (by decide) k_) ?_
    refine own_go (t' := s₁.setTop (mkF m 32 #[.val (.int p0), .val (.int p1), .val (.long p2), .second, .val (.int p3), .val (.int p4), .val (.int p5), .val (.int (Int32.ofNat nn)), .val (.int (p0 &&& (3 : Int32))), .unset, .unset, .unset, .unset, .unset, .unset, .unset, .unset, .unset, .unset, .unset, .unset, .unset] [(.int (p0 &&& (3 : Int32)))])) (fun _ k_ => XS.iload X0.here hx rfl (Jvm.hb hby at_30) rfl k_) ?_
    refine own_go (t' := s₁.setTop (mkF m 33 #[.val (.int p0), .val (.int p1), .val (.long p2), .second, .val (.int p3), .val (.int p4), .val (.int p5), .val (.int (Int32.ofNat nn)), .val (.int (p0 &&& (3 : Int32))), .unset, .unset, .unset, .unset, .unset, .unset, .unset, .unset, .unset, .unset, .unset, .unset, .unset] [(.int (1 : Int32)), (.int (p0 &&& (3 : Int32)))])) (fun _ k_ => XS.iconst X0.here hx rfl (Jvm.hb hby at_32) k_) ?_
    by_cases q1 : (p0 &&& (3 : Int32)) = 1
    ·
      refine own_go (t' := s₁.setTop (mkF m 36 #[.val (.int p0), .val (.int p1), .val (.long p2), .second, .val (.int p3), .val (.int p4), .val (.int p5), .val (.int (Int32.ofNat nn)), .val (.int (p0 &&& (3 : Int32))), .unset, .unset, .unset, .unset, .unset, .unset, .unset, .unset, .unset, .unset, .unset, .unset, .unset] [])) (fun _ k_ => XS.icmpNo X0.here hx rfl (Jvm.hb hby at_33) rfl (teq q1).2 k_) ?_
      obtain ⟨T43, X43, e43, st43⟩ := getS (host := "") X0 hx hZ hown (hw _ (List.mem_of_getElem? (i := 38) rfl)) Via.refl e0 S_aT (g := (mkF m 36 #[.val (.int p0), .val (.int p1), .val (.long p2), .second, .val (.int p3), .val (.int p4), .val (.int p5), .val (.int (Int32.ofNat nn)), .val (.int (p0 &&& (3 : Int32))), .unset, .unset, .unset, .unset, .unset, .unset, .unset, .unset, .unset, .unset, .unset, .unset, .unset] [])) rfl (Jvm.hb hby at_36)
      refine own_go (t' := T43.setTop (mkF m 39 #[.val (.int p0), .val (.int p1), .val (.long p2), .second, .val (.int p3), .val (.int p4), .val (.int p5), .val (.int (Int32.ofNat nn)), .val (.int (p0 &&& (3 : Int32))), .unset, .unset, .unset, .unset, .unset, .unset, .unset, .unset, .unset, .unset, .unset, .unset, .unset] [(.ref aT)])) st43 ?_
      refine own_go (t' := T43.setTop (mkF m 41 #[.val (.int p0), .val (.int p1), .val (.long p2), .second, .val (.int p3), .val (.int p4), .val (.int p5), .val (.int (Int32.ofNat nn)), .val (.int (p0 &&& (3 : Int32))), .val (.ref aT), .unset, .unset, .unset, .unset, .unset, .unset, .unset, .unset, .unset, .unset, .unset, .unset] [])) (fun _ k_ => XS.astore X43.here hx rfl (Jvm.hb hby at_39) rfl rfl (l' := #[.val (.int p0), .val (.int p1), .val (.long p2), .second, .val (.int p3), .val (.int p4), .val (.int p5), .val (.int (Int32.ofNat nn)), .val (.int (p0 &&& (3 : Int32))), .val (.ref aT), .unset, .unset, .unset, .unset, .unset, .unset, .unset, .unset, .unset, .unset, .unset, .unset]) rfl k_) ?_
      refine own_go (t' := T43.setTop (mkF m 43 #[.val (.int p0), .val (.int p1), .val (.long p2), .second, .val (.int p3), .val (.int p4), .val (.int p5), .val (.int (Int32.ofNat nn)), .val (.int (p0 &&& (3 : Int32))), .val (.ref aT), .unset, .unset, .unset, .unset, .unset, .unset, .unset, .unset, .unset, .unset, .unset, .unset] [(.int (10 : Int32))])) (fun _ k_ => XS.bipush X43.here hx rfl (Jvm.hb hby at_41) k_) ?_
      refine own_go (t' := T43.setTop (mkF m 45 #[.val (.int p0), .val (.int p1), .val (.long p2), .second, .val (.int p3), .val (.int p4), .val (.int p5), .val (.int (Int32.ofNat nn)), .val (.int (p0 &&& (3 : Int32))), .val (.ref aT), .val (.int (10 : Int32)), .unset, .unset, .unset, .unset, .unset, .unset, .unset, .unset, .unset, .unset, .unset] [])) (fun _ k_ => XS.istore X43.here hx rfl (Jvm.hb hby at_43) rfl (l' := #[.val (.int p0), .val (.int p1), .val (.long p2), .second, .val (.int p3), .val (.int p4), .val (.int p5), .val (.int (Int32.ofNat nn)), .val (.int (p0 &&& (3 : Int32))), .val (.ref aT), .val (.int (10 : Int32)), .unset, .unset, .unset, .unset, .unset, .unset, .unset, .unset, .unset, .unset, .unset]) rfl k_) ?_
      refine own_go (t' := T43.setTop (mkF m 74 #[.val (.int p0), .val (.int p1), .val (.long p2), .second, .val (.int p3), .val (.int p4), .val (.int p5), .val (.int (Int32.ofNat nn)), .val (.int (p0 &&& (3 : Int32))), .val (.ref aT), .val (.int (10 : Int32)), .unset, .unset, .unset, .unset, .unset, .unset, .unset, .unset, .unset, .unset, .unset] [])) (fun _ k_ => XS.goto X43.here hx rfl (pc0 := 45) (pc' := 74) rfl (Jvm.hb hby at_45) (by decide) (by decide) k_) ?_
      refine own_go (t' := T43.setTop (mkF m 75 #[.val (.int p0), .val (.int p1), .val (.long p2), .second, .val (.int p3), .val (.int p4), .val (.int p5), .val (.int (Int32.ofNat nn)), .val (.int (p0 &&& (3 : Int32))), .val (.ref aT), .val (.int (10 : Int32)), .unset, .unset, .unset, .unset, .unset, .unset, .unset, .unset, .unset, .unset, .unset] [(.int (0 : Int32))])) (fun _ k_ => XS.iconst X43.here hx rfl (Jvm.hb hby at_74) k_) ?_
      refine own_go (t' := T43.setTop (mkF m 77 #[.val (.int p0), .val (.int p1), .val (.long p2), .second, .val (.int p3), .val (.int p4), .val (.int p5), .val (.int (Int32.ofNat nn)), .val (.int (p0 &&& (3 : Int32))), .val (.ref aT), .val (.int (10 : Int32)), .val (.int (0 : Int32)), .unset, .unset, .unset, .unset, .unset, .unset, .unset, .unset, .unset, .unset] [])) (fun _ k_ => XS.istore X43.here hx rfl (Jvm.hb hby at_75) rfl (l' := #[.val (.int p0), .val (.int p1), .val (.long p2), .second, .val (.int p3), .val (.int p4), .val (.int p5), .val (.int (Int32.ofNat nn)), .val (.int (p0 &&& (3 : Int32))), .val (.ref aT), .val (.int (10 : Int32)), .val (.int (0 : Int32)), .unset, .unset, .unset, .unset, .unset, .unset, .unset, .unset, .unset, .unset]) rfl k_) ?_
      refine own_go (t' := T43.setTop (mkF m 78 #[.val (.int p0), .val (.int p1), .val (.long p2), .second, .val (.int p3), .val (.int p4), .val (.int p5), .val (.int (Int32.ofNat nn)), .val (.int (p0 &&& (3 : Int32))), .val (.ref aT), .val (.int (10 : Int32)), .val (.int (0 : Int32)), .unset, .unset, .unset, .unset, .unset, .unset, .unset, .unset, .unset, .unset] [(.int (-1 : Int32))])) (fun _ k_ => XS.iconst X43.here hx rfl (Jvm.hb hby at_77) k_) ?_
      refine own_go (t' := T43.setTop (mkF m 80 #[.val (.int p0), .val (.int p1), .val (.long p2), .second, .val (.int p3), .val (.int p4), .val (.int p5), .val (.int (Int32.ofNat nn)), .val (.int (p0 &&& (3 : Int32))), .val (.ref aT), .val (.int (10 : Int32)), .val (.int (0 : Int32)), .val (.int (-1 : Int32)), .unset, .unset, .unset, .unset, .unset, .unset, .unset, .unset, .unset] [])) (fun _ k_ => XS.istore X43.here hx rfl (Jvm.hb hby at_78) rfl (l' := #[.val (.int p0), .val (.int p1), .val (.long p2), .second, .val (.int p3), .val (.int p4), .val (.int p5), .val (.int (Int32.ofNat nn)), .val (.int (p0 &&& (3 : Int32))), .val (.ref aT), .val (.int (10 : Int32)), .val (.int (0 : Int32)), .val (.int (-1 : Int32)), .unset, .unset, .unset, .unset, .unset, .unset, .unset, .unset, .unset]) rfl k_) ?_
      exact JA _ _ aT 10 X43 e43 N0 (by rw [q1]; decide) F_aT X_aT n_aT (by decide) (by decide)
    ·
      refine own_go (t' := s₁.setTop (mkF m 48 #[.val (.int p0), .val (.int p1), .val (.long p2), .second, .val (.int p3), .val (.int p4), .val (.int p5), .val (.int (Int32.ofNat nn)), .val (.int (p0 &&& (3 : Int32))), .unset, .unset, .unset, .unset, .unset, .unset, .unset, .unset, .unset, .unset, .unset, .unset, .unset] [])) (fun _ k_ => XS.icmpYes X0.here hx rfl (pc0 := 33) (pc' := 48) rfl (Jvm.hb hby at_33) rfl (feq q1).2 (by decide) (by decide) k_) ?_
      refine own_go (t' := s₁.setTop (mkF m 50 #[.val (.int p0), .val (.int p1), .val (.long p2), .second, .val (.int p3), .val (.int p4), .val (.int p5), .val (.int (Int32.ofNat nn)), .val (.int (p0 &&& (3 : Int32))), .unset, .unset, .unset, .unset, .unset, .unset, .unset, .unset, .unset, .unset, .unset, .unset, .unset] [(.int (p0 &&& (3 : Int32)))])) (fun _ k_ => XS.iload X0.here hx rfl (Jvm.hb hby at_48) rfl k_) ?_
      refine own_go (t' := s₁.setTop (mkF m 51 #[.val (.int p0), .val (.int p1), .val (.long p2), .second, .val (.int p3), .val (.int p4), .val (.int p5), .val (.int (Int32.ofNat nn)), .val (.int (p0 &&& (3 : Int32))), .unset, .unset, .unset, .unset, .unset, .unset, .unset, .unset, .unset, .unset, .unset, .unset, .unset] [(.int (2 : Int32)), (.int (p0 &&& (3 : Int32)))])) (fun _ k_ => XS.iconst X0.here hx rfl (Jvm.hb hby at_50) k_) ?_
      by_cases q2 : (p0 &&& (3 : Int32)) = 2
      ·
        refine own_go (t' := s₁.setTop (mkF m 54 #[.val (.int p0), .val (.int p1), .val (.long p2), .second, .val (.int p3), .val (.int p4), .val (.int p5), .val (.int (Int32.ofNat nn)), .val (.int (p0 &&& (3 : Int32))), .unset, .unset, .unset, .unset, .unset, .unset, .unset, .unset, .unset, .unset, .unset, .unset, .unset] [])) (fun _ k_ => XS.icmpNo X0.here hx rfl (Jvm.hb hby at_51) rfl (teq q2).2 k_) ?_
        obtain ⟨T44, X44, e44, st44⟩ := getS (host := "") X0 hx hZ hown (hw _ (List.mem_of_getElem? (i := 36) rfl)) Via.refl e0 S_a30 (g := (mkF m 54 #[.val (.int p0), .val (.int p1), .val (.long p2), .second, .val (.int p3), .val (.int p4), .val (.int p5), .val (.int (Int32.ofNat nn)), .val (.int (p0 &&& (3 : Int32))), .unset, .unset, .unset, .unset, .unset, .unset, .unset, .unset, .unset, .unset, .unset, .unset, .unset] [])) rfl (Jvm.hb hby at_54)
        refine own_go (t' := T44.setTop (mkF m 57 #[.val (.int p0), .val (.int p1), .val (.long p2), .second, .val (.int p3), .val (.int p4), .val (.int p5), .val (.int (Int32.ofNat nn)), .val (.int (p0 &&& (3 : Int32))), .unset, .unset, .unset, .unset, .unset, .unset, .unset, .unset, .unset, .unset, .unset, .unset, .unset] [(.ref a30)])) st44 ?_
        refine own_go (t' := T44.setTop (mkF m 59 #[.val (.int p0), .val (.int p1), .val (.long p2), .second, .val (.int p3), .val (.int p4), .val (.int p5), .val (.int (Int32.ofNat nn)), .val (.int (p0 &&& (3 : Int32))), .val (.ref a30), .unset, .unset, .unset, .unset, .unset, .unset, .unset, .unset, .unset, .unset, .unset, .unset] [])) (fun _ k_ => XS.astore X44.here hx rfl (Jvm.hb hby at_57) rfl rfl (l' := #[.val (.int p0), .val (.int p1), .val (.long p2), .second, .val (.int p3), .val (.int p4), .val (.int p5), .val (.int (Int32.ofNat nn)), .val (.int (p0 &&& (3 : Int32))), .val (.ref a30), .unset, .unset, .unset, .unset, .unset, .unset, .unset, .unset, .unset, .unset, .unset, .unset]) rfl k_) ?_
        refine own_go (t' := T44.setTop (mkF m 61 #[.val (.int p0), .val (.int p1), .val (.long p2), .second, .val (.int p3), .val (.int p4), .val (.int p5), .val (.int (Int32.ofNat nn)), .val (.int (p0 &&& (3 : Int32))), .val (.ref a30), .unset, .unset, .unset, .unset, .unset, .unset, .unset, .unset, .unset, .unset, .unset, .unset] [(.int (30 : Int32))])) (fun _ k_ => XS.bipush X44.here hx rfl (Jvm.hb hby at_59) k_) ?_
        refine own_go (t' := T44.setTop (mkF m 63 #[.val (.int p0), .val (.int p1), .val (.long p2), .second, .val (.int p3), .val (.int p4), .val (.int p5), .val (.int (Int32.ofNat nn)), .val (.int (p0 &&& (3 : Int32))), .val (.ref a30), .val (.int (30 : Int32)), .unset, .unset, .unset, .unset, .unset, .unset, .unset, .unset, .unset, .unset, .unset] [])) (fun _ k_ => XS.istore X44.here hx rfl (Jvm.hb hby at_61) rfl (l' := #[.val (.int p0), .val (.int p1), .val (.long p2), .second, .val (.int p3), .val (.int p4), .val (.int p5), .val (.int (Int32.ofNat nn)), .val (.int (p0 &&& (3 : Int32))), .val (.ref a30), .val (.int (30 : Int32)), .unset, .unset, .unset, .unset, .unset, .unset, .unset, .unset, .unset, .unset, .unset]) rfl k_) ?_
        refine own_go (t' := T44.setTop (mkF m 74 #[.val (.int p0), .val (.int p1), .val (.long p2), .second, .val (.int p3), .val (.int p4), .val (.int p5), .val (.int (Int32.ofNat nn)), .val (.int (p0 &&& (3 : Int32))), .val (.ref a30), .val (.int (30 : Int32)), .unset, .unset, .unset, .unset, .unset, .unset, .unset, .unset, .unset, .unset, .unset] [])) (fun _ k_ => XS.goto X44.here hx rfl (pc0 := 63) (pc' := 74) rfl (Jvm.hb hby at_63) (by decide) (by decide) k_) ?_
        refine own_go (t' := T44.setTop (mkF m 75 #[.val (.int p0), .val (.int p1), .val (.long p2), .second, .val (.int p3), .val (.int p4), .val (.int p5), .val (.int (Int32.ofNat nn)), .val (.int (p0 &&& (3 : Int32))), .val (.ref a30), .val (.int (30 : Int32)), .unset, .unset, .unset, .unset, .unset, .unset, .unset, .unset, .unset, .unset, .unset] [(.int (0 : Int32))])) (fun _ k_ => XS.iconst X44.here hx rfl (Jvm.hb hby at_74) k_) ?_
        refine own_go (t' := T44.setTop (mkF m 77 #[.val (.int p0), .val (.int p1), .val (.long p2), .second, .val (.int p3), .val (.int p4), .val (.int p5), .val (.int (Int32.ofNat nn)), .val (.int (p0 &&& (3 : Int32))), .val (.ref a30), .val (.int (30 : Int32)), .val (.int (0 : Int32)), .unset, .unset, .unset, .unset, .unset, .unset, .unset, .unset, .unset, .unset] [])) (fun _ k_ => XS.istore X44.here hx rfl (Jvm.hb hby at_75) rfl (l' := #[.val (.int p0), .val (.int p1), .val (.long p2), .second, .val (.int p3), .val (.int p4), .val (.int p5), .val (.int (Int32.ofNat nn)), .val (.int (p0 &&& (3 : Int32))), .val (.ref a30), .val (.int (30 : Int32)), .val (.int (0 : Int32)), .unset, .unset, .unset, .unset, .unset, .unset, .unset, .unset, .unset, .unset]) rfl k_) ?_
        refine own_go (t' := T44.setTop (mkF m 78 #[.val (.int p0), .val (.int p1), .val (.long p2), .second, .val (.int p3), .val (.int p4), .val (.int p5), .val (.int (Int32.ofNat nn)), .val (.int (p0 &&& (3 : Int32))), .val (.ref a30), .val (.int (30 : Int32)), .val (.int (0 : Int32)), .unset, .unset, .unset, .unset, .unset, .unset, .unset, .unset, .unset, .unset] [(.int (-1 : Int32))])) (fun _ k_ => XS.iconst X44.here hx rfl (Jvm.hb hby at_77) k_) ?_
        refine own_go (t' := T44.setTop (mkF m 80 #[.val (.int p0), .val (.int p1), .val (.long p2), .second, .val (.int p3), .val (.int p4), .val (.int p5), .val (.int (Int32.ofNat nn)), .val (.int (p0 &&& (3 : Int32))), .val (.ref a30), .val (.int (30 : Int32)), .val (.int (0 : Int32)), .val (.int (-1 : Int32)), .unset, .unset, .unset, .unset, .unset, .unset, .unset, .unset, .unset] [])) (fun _ k_ => XS.istore X44.here hx rfl (Jvm.hb hby at_78) rfl (l' := #[.val (.int p0), .val (.int p1), .val (.long p2), .second, .val (.int p3), .val (.int p4), .val (.int p5), .val (.int (Int32.ofNat nn)), .val (.int (p0 &&& (3 : Int32))), .val (.ref a30), .val (.int (30 : Int32)), .val (.int (0 : Int32)), .val (.int (-1 : Int32)), .unset, .unset, .unset, .unset, .unset, .unset, .unset, .unset, .unset]) rfl k_) ?_
        exact JA _ _ a30 30 X44 e44 N0 (by rw [q2]; decide) F_a30 X_a30 n_a30 (by decide) (by decide)
      ·
        refine own_go (t' := s₁.setTop (mkF m 66 #[.val (.int p0), .val (.int p1), .val (.long p2), .second, .val (.int p3), .val (.int p4), .val (.int p5), .val (.int (Int32.ofNat nn)), .val (.int (p0 &&& (3 : Int32))), .unset, .unset, .unset, .unset, .unset, .unset, .unset, .unset, .unset, .unset, .unset, .unset, .unset] [])) (fun _ k_ => XS.icmpYes X0.here hx rfl (pc0 := 51) (pc' := 66) rfl (Jvm.hb hby at_51) rfl (feq q2).2 (by decide) (by decide) k_) ?_
        obtain ⟨T45, X45, e45, st45⟩ := getS (host := "") X0 hx hZ hown (hw _ (List.mem_of_getElem? (i := 40) rfl)) Via.refl e0 S_M (g := (mkF m 66 #[.val (.int p0), .val (.int p1), .val (.long p2), .second, .val (.int p3), .val (.int p4), .val (.int p5), .val (.int (Int32.ofNat nn)), .val (.int (p0 &&& (3 : Int32))), .unset, .unset, .unset, .unset, .unset, .unset, .unset, .unset, .unset, .unset, .unset, .unset, .unset] [])) rfl (Jvm.hb hby at_66)
        refine own_go (t' := T45.setTop (mkF m 69 #[.val (.int p0), .val (.int p1), .val (.long p2), .second, .val (.int p3), .val (.int p4), .val (.int p5), .val (.int (Int32.ofNat nn)), .val (.int (p0 &&& (3 : Int32))), .unset, .unset, .unset, .unset, .unset, .unset, .unset, .unset, .unset, .unset, .unset, .unset, .unset] [(.ref aM)])) st45 ?_
        refine own_go (t' := T45.setTop (mkF m 71 #[.val (.int p0), .val (.int p1), .val (.long p2), .second, .val (.int p3), .val (.int p4), .val (.int p5), .val (.int (Int32.ofNat nn)), .val (.int (p0 &&& (3 : Int32))), .val (.ref aM), .unset, .unset, .unset, .unset, .unset, .unset, .unset, .unset, .unset, .unset, .unset, .unset] [])) (fun _ k_ => XS.astore X45.here hx rfl (Jvm.hb hby at_69) rfl rfl (l' := #[.val (.int p0), .val (.int p1), .val (.long p2), .second, .val (.int p3), .val (.int p4), .val (.int p5), .val (.int (Int32.ofNat nn)), .val (.int (p0 &&& (3 : Int32))), .val (.ref aM), .unset, .unset, .unset, .unset, .unset, .unset, .unset, .unset, .unset, .unset, .unset, .unset]) rfl k_) ?_
        refine own_go (t' := T45.setTop (mkF m 72 #[.val (.int p0), .val (.int p1), .val (.long p2), .second, .val (.int p3), .val (.int p4), .val (.int p5), .val (.int (Int32.ofNat nn)), .val (.int (p0 &&& (3 : Int32))), .val (.ref aM), .unset, .unset, .unset, .unset, .unset, .unset, .unset, .unset, .unset, .unset, .unset, .unset] [(.int (0 : Int32))])) (fun _ k_ => XS.iconst X45.here hx rfl (Jvm.hb hby at_71) k_) ?_
        refine own_go (t' := T45.setTop (mkF m 74 #[.val (.int p0), .val (.int p1), .val (.long p2), .second, .val (.int p3), .val (.int p4), .val (.int p5), .val (.int (Int32.ofNat nn)), .val (.int (p0 &&& (3 : Int32))), .val (.ref aM), .val (.int (0 : Int32)), .unset, .unset, .unset, .unset, .unset, .unset, .unset, .unset, .unset, .unset, .unset] [])) (fun _ k_ => XS.istore X45.here hx rfl (Jvm.hb hby at_72) rfl (l' := #[.val (.int p0), .val (.int p1), .val (.long p2), .second, .val (.int p3), .val (.int p4), .val (.int p5), .val (.int (Int32.ofNat nn)), .val (.int (p0 &&& (3 : Int32))), .val (.ref aM), .val (.int (0 : Int32)), .unset, .unset, .unset, .unset, .unset, .unset, .unset, .unset, .unset, .unset, .unset]) rfl k_) ?_
        refine own_go (t' := T45.setTop (mkF m 75 #[.val (.int p0), .val (.int p1), .val (.long p2), .second, .val (.int p3), .val (.int p4), .val (.int p5), .val (.int (Int32.ofNat nn)), .val (.int (p0 &&& (3 : Int32))), .val (.ref aM), .val (.int (0 : Int32)), .unset, .unset, .unset, .unset, .unset, .unset, .unset, .unset, .unset, .unset, .unset] [(.int (0 : Int32))])) (fun _ k_ => XS.iconst X45.here hx rfl (Jvm.hb hby at_74) k_) ?_
        refine own_go (t' := T45.setTop (mkF m 77 #[.val (.int p0), .val (.int p1), .val (.long p2), .second, .val (.int p3), .val (.int p4), .val (.int p5), .val (.int (Int32.ofNat nn)), .val (.int (p0 &&& (3 : Int32))), .val (.ref aM), .val (.int (0 : Int32)), .val (.int (0 : Int32)), .unset, .unset, .unset, .unset, .unset, .unset, .unset, .unset, .unset, .unset] [])) (fun _ k_ => XS.istore X45.here hx rfl (Jvm.hb hby at_75) rfl (l' := #[.val (.int p0), .val (.int p1), .val (.long p2), .second, .val (.int p3), .val (.int p4), .val (.int p5), .val (.int (Int32.ofNat nn)), .val (.int (p0 &&& (3 : Int32))), .val (.ref aM), .val (.int (0 : Int32)), .val (.int (0 : Int32)), .unset, .unset, .unset, .unset, .unset, .unset, .unset, .unset, .unset, .unset]) rfl k_) ?_
        refine own_go (t' := T45.setTop (mkF m 78 #[.val (.int p0), .val (.int p1), .val (.long p2), .second, .val (.int p3), .val (.int p4), .val (.int p5), .val (.int (Int32.ofNat nn)), .val (.int (p0 &&& (3 : Int32))), .val (.ref aM), .val (.int (0 : Int32)), .val (.int (0 : Int32)), .unset, .unset, .unset, .unset, .unset, .unset, .unset, .unset, .unset, .unset] [(.int (-1 : Int32))])) (fun _ k_ => XS.iconst X45.here hx rfl (Jvm.hb hby at_77) k_) ?_
        refine own_go (t' := T45.setTop (mkF m 80 #[.val (.int p0), .val (.int p1), .val (.long p2), .second, .val (.int p3), .val (.int p4), .val (.int p5), .val (.int (Int32.ofNat nn)), .val (.int (p0 &&& (3 : Int32))), .val (.ref aM), .val (.int (0 : Int32)), .val (.int (0 : Int32)), .val (.int (-1 : Int32)), .unset, .unset, .unset, .unset, .unset, .unset, .unset, .unset, .unset] [])) (fun _ k_ => XS.istore X45.here hx rfl (Jvm.hb hby at_78) rfl (l' := #[.val (.int p0), .val (.int p1), .val (.long p2), .second, .val (.int p3), .val (.int p4), .val (.int p5), .val (.int (Int32.ofNat nn)), .val (.int (p0 &&& (3 : Int32))), .val (.ref aM), .val (.int (0 : Int32)), .val (.int (0 : Int32)), .val (.int (-1 : Int32)), .unset, .unset, .unset, .unset, .unset, .unset, .unset, .unset, .unset]) rfl k_) ?_
        refine own_go (t' := T45.setTop (mkF m 82 #[.val (.int p0), .val (.int p1), .val (.long p2), .second, .val (.int p3), .val (.int p4), .val (.int p5), .val (.int (Int32.ofNat nn)), .val (.int (p0 &&& (3 : Int32))), .val (.ref aM), .val (.int (0 : Int32)), .val (.int (0 : Int32)), .val (.int (-1 : Int32)), .unset, .unset, .unset, .unset, .unset, .unset, .unset, .unset, .unset] [(.int (p0 &&& (3 : Int32)))])) (fun _ k_ => XS.iload X45.here hx rfl (Jvm.hb hby at_80) rfl k_) ?_
        refine own_go (t' := T45.setTop (mkF m 83 #[.val (.int p0), .val (.int p1), .val (.long p2), .second, .val (.int p3), .val (.int p4), .val (.int p5), .val (.int (Int32.ofNat nn)), .val (.int (p0 &&& (3 : Int32))), .val (.ref aM), .val (.int (0 : Int32)), .val (.int (0 : Int32)), .val (.int (-1 : Int32)), .unset, .unset, .unset, .unset, .unset, .unset, .unset, .unset, .unset] [(.int (3 : Int32)), (.int (p0 &&& (3 : Int32)))])) (fun _ k_ => XS.iconst X45.here hx rfl (Jvm.hb hby at_82) k_) ?_
        have q3 : (p0 &&& (3 : Int32)) = 3 := own_sel3 q0 q1 q2
        refine own_go (t' := T45.setTop (mkF m 86 #[.val (.int p0), .val (.int p1), .val (.long p2), .second, .val (.int p3), .val (.int p4), .val (.int p5), .val (.int (Int32.ofNat nn)), .val (.int (p0 &&& (3 : Int32))), .val (.ref aM), .val (.int (0 : Int32)), .val (.int (0 : Int32)), .val (.int (-1 : Int32)), .unset, .unset, .unset, .unset, .unset, .unset, .unset, .unset, .unset] [])) (fun _ k_ => XS.icmpNo X45.here hx rfl (Jvm.hb hby at_83) rfl (teq q3).2 k_) ?_
        refine own_go (t' := T45.setTop (mkF m 88 #[.val (.int p0), .val (.int p1), .val (.long p2), .second, .val (.int p3), .val (.int p4), .val (.int p5), .val (.int (Int32.ofNat nn)), .val (.int (p0 &&& (3 : Int32))), .val (.ref aM), .val (.int (0 : Int32)), .val (.int (0 : Int32)), .val (.int (-1 : Int32)), .unset, .unset, .unset, .unset, .unset, .unset, .unset, .unset, .unset] [(.int p4)])) (fun _ k_ => XS.iload X45.here hx rfl (Jvm.hb hby at_86) rfl k_) ?_
        refine own_go (t' := T45.setTop (mkF m 90 #[.val (.int p0), .val (.int p1), .val (.long p2), .second, .val (.int p3), .val (.int p4), .val (.int p5), .val (.int (Int32.ofNat nn)), .val (.int (p0 &&& (3 : Int32))), .val (.ref aM), .val (.int (0 : Int32)), .val (.int (0 : Int32)), .val (.int (-1 : Int32)), .unset, .unset, .unset, .unset, .unset, .unset, .unset, .unset, .unset] [(.int (2147483647 : Int32)), (.int p4)])) (fun _ k_ => X45.ldcI (own := "com/example/kobe/kobe/eval/MeasureScorePinLaw") (index := 7) (v := (2147483647 : Int32)) hx hown (mvT hZ (hw _ (List.mem_of_getElem? (i := 0) rfl))) rfl (Jvm.hb hby at_88) k_) ?_
        refine own_go (t' := T45.setTop (mkF m 91 #[.val (.int p0), .val (.int p1), .val (.long p2), .second, .val (.int p3), .val (.int p4), .val (.int p5), .val (.int (Int32.ofNat nn)), .val (.int (p0 &&& (3 : Int32))), .val (.ref aM), .val (.int (0 : Int32)), .val (.int (0 : Int32)), .val (.int (-1 : Int32)), .unset, .unset, .unset, .unset, .unset, .unset, .unset, .unset, .unset] [(.int (p4 &&& (2147483647 : Int32)))])) (fun _ k_ => XS.iand X45.here hx rfl (Jvm.hb hby at_90) rfl k_) ?_
        refine own_go (t' := T45.setTop (mkF m 93 #[.val (.int p0), .val (.int p1), .val (.long p2), .second, .val (.int p3), .val (.int p4), .val (.int p5), .val (.int (Int32.ofNat nn)), .val (.int (p0 &&& (3 : Int32))), .val (.ref aM), .val (.int (0 : Int32)), .val (.int (0 : Int32)), .val (.int (-1 : Int32)), .unset, .unset, .unset, .unset, .unset, .unset, .unset, .unset, .unset] [(.int (Int32.ofNat nn)), (.int (p4 &&& (2147483647 : Int32)))])) (fun _ k_ => XS.iload X45.here hx rfl (Jvm.hb hby at_91) rfl k_) ?_
        refine own_go (t' := T45.setTop (mkF m 94 #[.val (.int p0), .val (.int p1), .val (.long p2), .second, .val (.int p3), .val (.int p4), .val (.int p5), .val (.int (Int32.ofNat nn)), .val (.int (p0 &&& (3 : Int32))), .val (.ref aM), .val (.int (0 : Int32)), .val (.int (0 : Int32)), .val (.int (-1 : Int32)), .unset, .unset, .unset, .unset, .unset, .unset, .unset, .unset, .unset] [(.int (1 : Int32)), (.int (Int32.ofNat nn)), (.int (p4 &&& (2147483647 : Int32)))])) (fun _ k_ => XS.iconst X45.here hx rfl (Jvm.hb hby at_93) k_) ?_
        refine own_go (t' := T45.setTop (mkF m 95 #[.val (.int p0), .val (.int p1), .val (.long p2), .second, .val (.int p3), .val (.int p4), .val (.int p5), .val (.int (Int32.ofNat nn)), .val (.int (p0 &&& (3 : Int32))), .val (.ref aM), .val (.int (0 : Int32)), .val (.int (0 : Int32)), .val (.int (-1 : Int32)), .unset, .unset, .unset, .unset, .unset, .unset, .unset, .unset, .unset] [(.int ((Int32.ofNat nn) + (1 : Int32))), (.int (p4 &&& (2147483647 : Int32)))])) (fun _ k_ => XS.iadd X45.here hx rfl (Jvm.hb hby at_94) rfl k_) ?_
        refine own_go (t' := T45.setTop (mkF m 96 #[.val (.int p0), .val (.int p1), .val (.long p2), .second, .val (.int p3), .val (.int p4), .val (.int p5), .val (.int (Int32.ofNat nn)), .val (.int (p0 &&& (3 : Int32))), .val (.ref aM), .val (.int (0 : Int32)), .val (.int (0 : Int32)), .val (.int (-1 : Int32)), .unset, .unset, .unset, .unset, .unset, .unset, .unset, .unset, .unset] [(.int ((p4 &&& (2147483647 : Int32)) % ((Int32.ofNat nn) + (1 : Int32))))])) (fun _ k_ => iremM X45 hx rfl (Jvm.hb hby at_95) rfl (own_mnz hnn) k_) ?_
        obtain ⟨mm, hmn, em⟩ := own_mm p4 hnn
        rw [em]
        refine own_go (t' := T45.setTop (mkF m 98 #[.val (.int p0), .val (.int p1), .val (.long p2), .second, .val (.int p3), .val (.int p4), .val (.int p5), .val (.int (Int32.ofNat nn)), .val (.int (p0 &&& (3 : Int32))), .val (.ref aM), .val (.int (0 : Int32)), .val (.int (Int32.ofNat mm)), .val (.int (-1 : Int32)), .unset, .unset, .unset, .unset, .unset, .unset, .unset, .unset, .unset] [])) (fun _ k_ => XS.istore X45.here hx rfl (Jvm.hb hby at_96) rfl (l' := #[.val (.int p0), .val (.int p1), .val (.long p2), .second, .val (.int p3), .val (.int p4), .val (.int p5), .val (.int (Int32.ofNat nn)), .val (.int (p0 &&& (3 : Int32))), .val (.ref aM), .val (.int (0 : Int32)), .val (.int (Int32.ofNat mm)), .val (.int (-1 : Int32)), .unset, .unset, .unset, .unset, .unset, .unset, .unset, .unset, .unset]) rfl k_) ?_
        refine own_go (t' := T45.setTop (mkF m 100 #[.val (.int p0), .val (.int p1), .val (.long p2), .second, .val (.int p3), .val (.int p4), .val (.int p5), .val (.int (Int32.ofNat nn)), .val (.int (p0 &&& (3 : Int32))), .val (.ref aM), .val (.int (0 : Int32)), .val (.int (Int32.ofNat mm)), .val (.int (-1 : Int32)), .unset, .unset, .unset, .unset, .unset, .unset, .unset, .unset, .unset] [(.int p5)])) (fun _ k_ => XS.iload X45.here hx rfl (Jvm.hb hby at_98) rfl k_) ?_
        refine own_go (t' := T45.setTop (mkF m 101 #[.val (.int p0), .val (.int p1), .val (.long p2), .second, .val (.int p3), .val (.int p4), .val (.int p5), .val (.int (Int32.ofNat nn)), .val (.int (p0 &&& (3 : Int32))), .val (.ref aM), .val (.int (0 : Int32)), .val (.int (Int32.ofNat mm)), .val (.int (-1 : Int32)), .unset, .unset, .unset, .unset, .unset, .unset, .unset, .unset, .unset] [(.int (1 : Int32)), (.int p5)])) (fun _ k_ => XS.iconst X45.here hx rfl (Jvm.hb hby at_100) k_) ?_
        refine own_go (t' := T45.setTop (mkF m 102 #[.val (.int p0), .val (.int p1), .val (.long p2), .second, .val (.int p3), .val (.int p4), .val (.int p5), .val (.int (Int32.ofNat nn)), .val (.int (p0 &&& (3 : Int32))), .val (.ref aM), .val (.int (0 : Int32)), .val (.int (Int32.ofNat mm)), .val (.int (-1 : Int32)), .unset, .unset, .unset, .unset, .unset, .unset, .unset, .unset, .unset] [(.int (p5 &&& (1 : Int32)))])) (fun _ k_ => XS.iand X45.here hx rfl (Jvm.hb hby at_101) rfl k_) ?_
        by_cases qe : (p5 &&& (1 : Int32)) = 0
        ·
          refine own_go (t' := T45.setTop (mkF m 127 #[.val (.int p0), .val (.int p1), .val (.long p2), .second, .val (.int p3), .val (.int p4), .val (.int p5), .val (.int (Int32.ofNat nn)), .val (.int (p0 &&& (3 : Int32))), .val (.ref aM), .val (.int (0 : Int32)), .val (.int (Int32.ofNat mm)), .val (.int (-1 : Int32)), .unset, .unset, .unset, .unset, .unset, .unset, .unset, .unset, .unset] [])) (fun _ k_ => XS.ifYes X45.here hx rfl (pc0 := 102) (pc' := 127) rfl (Jvm.hb hby at_102) rfl ((if0 _ _).trans (teq qe).1) (by decide) (by decide) k_) ?_
          exact JB _ _ mm _ X45 e45 N0 q3 hmn (Or.inl rfl)
        ·
          refine own_go (t' := T45.setTop (mkF m 105 #[.val (.int p0), .val (.int p1), .val (.long p2), .second, .val (.int p3), .val (.int p4), .val (.int p5), .val (.int (Int32.ofNat nn)), .val (.int (p0 &&& (3 : Int32))), .val (.ref aM), .val (.int (0 : Int32)), .val (.int (Int32.ofNat mm)), .val (.int (-1 : Int32)), .unset, .unset, .unset, .unset, .unset, .unset, .unset, .unset, .unset] [])) (fun _ k_ => XS.ifNo X45.here hx rfl (Jvm.hb hby at_102) rfl ((if0 _ _).trans (feq qe).1) k_) ?_
          refine own_go (t' := T45.setTop (mkF m 107 #[.val (.int p0), .val (.int p1), .val (.long p2), .second, .val (.int p3), .val (.int p4), .val (.int p5), .val (.int (Int32.ofNat nn)), .val (.int (p0 &&& (3 : Int32))), .val (.ref aM), .val (.int (0 : Int32)), .val (.int (Int32.ofNat mm)), .val (.int (-1 : Int32)), .unset, .unset, .unset, .unset, .unset, .unset, .unset, .unset, .unset] [(.int (Int32.ofNat mm))])) (fun _ k_ => XS.iload X45.here hx rfl (Jvm.hb hby at_105) rfl k_) ?_
          refine own_go (t' := T45.setTop (mkF m 109 #[.val (.int p0), .val (.int p1), .val (.long p2), .second, .val (.int p3), .val (.int p4), .val (.int p5), .val (.int (Int32.ofNat nn)), .val (.int (p0 &&& (3 : Int32))), .val (.ref aM), .val (.int (0 : Int32)), .val (.int (Int32.ofNat mm)), .val (.int (-1 : Int32)), .unset, .unset, .unset, .unset, .unset, .unset, .unset, .unset, .unset] [(.int (Int32.ofNat nn)), (.int (Int32.ofNat mm))])) (fun _ k_ => XS.iload X45.here hx rfl (Jvm.hb hby at_107) rfl k_) ?_
          by_cases qm : mm < nn
          ·
            refine own_go (t' := T45.setTop (mkF m 112 #[.val (.int p0), .val (.int p1), .val (.long p2), .second, .val (.int p3), .val (.int p4), .val (.int p5), .val (.int (Int32.ofNat nn)), .val (.int (p0 &&& (3 : Int32))), .val (.ref aM), .val (.int (0 : Int32)), .val (.int (Int32.ofNat mm)), .val (.int (-1 : Int32)), .unset, .unset, .unset, .unset, .unset, .unset, .unset, .unset, .unset] [])) (fun _ k_ => XS.icmpNo X45.here hx rfl (Jvm.hb hby at_109) rfl (tlt ((own_ilt (by omega) (by omega)).mpr qm)).2.1 k_) ?_
            refine own_go (t' := T45.setTop (mkF m 114 #[.val (.int p0), .val (.int p1), .val (.long p2), .second, .val (.int p3), .val (.int p4), .val (.int p5), .val (.int (Int32.ofNat nn)), .val (.int (p0 &&& (3 : Int32))), .val (.ref aM), .val (.int (0 : Int32)), .val (.int (Int32.ofNat mm)), .val (.int (-1 : Int32)), .unset, .unset, .unset, .unset, .unset, .unset, .unset, .unset, .unset] [(.int (Int32.ofNat mm))])) (fun _ k_ => XS.iload X45.here hx rfl (Jvm.hb hby at_112) rfl k_) ?_
            refine own_go (t' := T45.setTop (mkF m 116 #[.val (.int p0), .val (.int p1), .val (.long p2), .second, .val (.int p3), .val (.int p4), .val (.int p5), .val (.int (Int32.ofNat nn)), .val (.int (p0 &&& (3 : Int32))), .val (.ref aM), .val (.int (0 : Int32)), .val (.int (Int32.ofNat mm)), .val (.int (-1 : Int32)), .unset, .unset, .unset, .unset, .unset, .unset, .unset, .unset, .unset] [(.int p5), (.int (Int32.ofNat mm))])) (fun _ k_ => XS.iload X45.here hx rfl (Jvm.hb hby at_114) rfl k_) ?_
            refine own_go (t' := T45.setTop (mkF m 117 #[.val (.int p0), .val (.int p1), .val (.long p2), .second, .val (.int p3), .val (.int p4), .val (.int p5), .val (.int (Int32.ofNat nn)), .val (.int (p0 &&& (3 : Int32))), .val (.ref aM), .val (.int (0 : Int32)), .val (.int (Int32.ofNat mm)), .val (.int (-1 : Int32)), .unset, .unset, .unset, .unset, .unset, .unset, .unset, .unset, .unset] [(.int (1 : Int32)), (.int p5), (.int (Int32.ofNat mm))])) (fun _ k_ => XS.iconst X45.here hx rfl (Jvm.hb hby at_116) k_) ?_
            refine own_go (t' := T45.setTop (mkF m 118 #[.val (.int p0), .val (.int p1), .val (.long p2), .second, .val (.int p3), .val (.int p4), .val (.int p5), .val (.int (Int32.ofNat nn)), .val (.int (p0 &&& (3 : Int32))), .val (.ref aM), .val (.int (0 : Int32)), .val (.int (Int32.ofNat mm)), .val (.int (-1 : Int32)), .unset, .unset, .unset, .unset, .unset, .unset, .unset, .unset, .unset] [(.int ((p5.toUInt32 >>> ((1 : Int32) &&& 31).toUInt32).toInt32)), (.int (Int32.ofNat mm))])) (fun _ k_ => XS.iushr X45.here hx rfl (Jvm.hb hby at_117) rfl k_) ?_
            refine own_go (t' := T45.setTop (mkF m 120 #[.val (.int p0), .val (.int p1), .val (.long p2), .second, .val (.int p3), .val (.int p4), .val (.int p5), .val (.int (Int32.ofNat nn)), .val (.int (p0 &&& (3 : Int32))), .val (.ref aM), .val (.int (0 : Int32)), .val (.int (Int32.ofNat mm)), .val (.int (-1 : Int32)), .unset, .unset, .unset, .unset, .unset, .unset, .unset, .unset, .unset] [(.int (Int32.ofNat nn)), (.int ((p5.toUInt32 >>> ((1 : Int32) &&& 31).toUInt32).toInt32)), (.int (Int32.ofNat mm))])) (fun _ k_ => XS.iload X45.here hx rfl (Jvm.hb hby at_118) rfl k_) ?_
            refine own_go (t' := T45.setTop (mkF m 122 #[.val (.int p0), .val (.int p1), .val (.long p2), .second, .val (.int p3), .val (.int p4), .val (.int p5), .val (.int (Int32.ofNat nn)), .val (.int (p0 &&& (3 : Int32))), .val (.ref aM), .val (.int (0 : Int32)), .val (.int (Int32.ofNat mm)), .val (.int (-1 : Int32)), .unset, .unset, .unset, .unset, .unset, .unset, .unset, .unset, .unset] [(.int (Int32.ofNat mm)), (.int (Int32.ofNat nn)), (.int ((p5.toUInt32 >>> ((1 : Int32) &&& 31).toUInt32).toInt32)), (.int (Int32.ofNat mm))])) (fun _ k_ => XS.iload X45.here hx rfl (Jvm.hb hby at_120) rfl k_) ?_
            refine own_go (t' := T45.setTop (mkF m 123 #[.val (.int p0), .val (.int p1), .val (.long p2), .second, .val (.int p3), .val (.int p4), .val (.int p5), .val (.int (Int32.ofNat nn)), .val (.int (p0 &&& (3 : Int32))), .val (.ref aM), .val (.int (0 : Int32)), .val (.int (Int32.ofNat mm)), .val (.int (-1 : Int32)), .unset, .unset, .unset, .unset, .unset, .unset, .unset, .unset, .unset] [(.int ((Int32.ofNat nn) - (Int32.ofNat mm))), (.int ((p5.toUInt32 >>> ((1 : Int32) &&& 31).toUInt32).toInt32)), (.int (Int32.ofNat mm))])) (fun _ k_ => XS.isub X45.here hx rfl (Jvm.hb hby at_122) rfl k_) ?_
            refine own_go (t' := T45.setTop (mkF m 124 #[.val (.int p0), .val (.int p1), .val (.long p2), .second, .val (.int p3), .val (.int p4), .val (.int p5), .val (.int (Int32.ofNat nn)), .val (.int (p0 &&& (3 : Int32))), .val (.ref aM), .val (.int (0 : Int32)), .val (.int (Int32.ofNat mm)), .val (.int (-1 : Int32)), .unset, .unset, .unset, .unset, .unset, .unset, .unset, .unset, .unset] [(.int (((p5.toUInt32 >>> ((1 : Int32) &&& 31).toUInt32).toInt32) % ((Int32.ofNat nn) - (Int32.ofNat mm)))), (.int (Int32.ofNat mm))])) (fun _ k_ => iremM X45 hx rfl (Jvm.hb hby at_123) rfl (own_pnz qm hnn) k_) ?_
            refine own_go (t' := T45.setTop (mkF m 125 #[.val (.int p0), .val (.int p1), .val (.long p2), .second, .val (.int p3), .val (.int p4), .val (.int p5), .val (.int (Int32.ofNat nn)), .val (.int (p0 &&& (3 : Int32))), .val (.ref aM), .val (.int (0 : Int32)), .val (.int (Int32.ofNat mm)), .val (.int (-1 : Int32)), .unset, .unset, .unset, .unset, .unset, .unset, .unset, .unset, .unset] [(.int ((Int32.ofNat mm) + (((p5.toUInt32 >>> ((1 : Int32) &&& 31).toUInt32).toInt32) % ((Int32.ofNat nn) - (Int32.ofNat mm)))))])) (fun _ k_ => XS.iadd X45.here hx rfl (Jvm.hb hby at_124) rfl k_) ?_
            obtain ⟨pp, hp1, hp2, ep⟩ := own_pp p5 qm hnn
            rw [ep]
            refine own_go (t' := T45.setTop (mkF m 127 #[.val (.int p0), .val (.int p1), .val (.long p2), .second, .val (.int p3), .val (.int p4), .val (.int p5), .val (.int (Int32.ofNat nn)), .val (.int (p0 &&& (3 : Int32))), .val (.ref aM), .val (.int (0 : Int32)), .val (.int (Int32.ofNat mm)), .val (.int (Int32.ofNat pp)), .unset, .unset, .unset, .unset, .unset, .unset, .unset, .unset, .unset] [])) (fun _ k_ => XS.istore X45.here hx rfl (Jvm.hb hby at_125) rfl (l' := #[.val (.int p0), .val (.int p1), .val (.long p2), .second, .val (.int p3), .val (.int p4), .val (.int p5), .val (.int (Int32.ofNat nn)), .val (.int (p0 &&& (3 : Int32))), .val (.ref aM), .val (.int (0 : Int32)), .val (.int (Int32.ofNat mm)), .val (.int (Int32.ofNat pp)), .unset, .unset, .unset, .unset, .unset, .unset, .unset, .unset, .unset]) rfl k_) ?_
            exact JB _ _ mm _ X45 e45 N0 q3 hmn (Or.inr ⟨pp, hp1, hp2, rfl⟩)
          ·
            refine own_go (t' := T45.setTop (mkF m 127 #[.val (.int p0), .val (.int p1), .val (.long p2), .second, .val (.int p3), .val (.int p4), .val (.int p5), .val (.int (Int32.ofNat nn)), .val (.int (p0 &&& (3 : Int32))), .val (.ref aM), .val (.int (0 : Int32)), .val (.int (Int32.ofNat mm)), .val (.int (-1 : Int32)), .unset, .unset, .unset, .unset, .unset, .unset, .unset, .unset, .unset] [])) (fun _ k_ => XS.icmpYes X45.here hx rfl (pc0 := 109) (pc' := 127) rfl (Jvm.hb hby at_109) rfl (flt (fun q => qm ((own_ilt (by omega) (by omega)).mp q))).2.1 (by decide) (by decide) k_) ?_
            exact JB _ _ mm _ X45 e45 N0 q3 hmn (Or.inl rfl)
theorem own_fe {Z : State} {args : Array Value} {t : Term} {a : Addr} {C0 f0 d0 : String} (ea : Term.eval args Z none [] Z t = some (.ref a)) : Term.eval args Z none [] Z (Term.field t C0 f0 d0) = Z.fieldOf? a C0 f0 d0 := by
  simp only [Term.eval]
  rw [ea]
  rfl
theorem own_eqi {Z : State} {args : Array Value} {t : Term} {k : Int32} (h : (Jvm.Cond.eq t (Term.int k)).value args Z none Z [] = some true) : Term.eval args Z none [] Z t = some (.int k) := by
  obtain ⟨x, y, e1, e2, -, -⟩ := cmp_v (Or.inl h)
  have hy : y = .int k := Option.some.inj (e2.symm.trans rfl)
  subst hy
  simp only [Cond.value, e1, e2] at h
  rw [e1]
  cases x with
  | int z => simp at h; rw [h]
  | _ => simp at h
theorem own_enum {Z : State} {args : Array Value} {C0 f0 d0 : String} {k : Int32} (h1 : (Jvm.Cond.exactly (Term.static C0 f0 d0) C0).value args Z none Z [] = some true) (h2 : (Jvm.Cond.eq (Term.field (Term.static C0 f0 d0) C0 "cutoff" "I") (Term.int k)).value args Z none Z [] = some true)
    (wi : (Jvm.Cond.initialized C0).before args Z = true) (wl : (Jvm.Cond.laysStatic C0 f0 d0).before args Z = true) : ∃ a : Addr, (Term.static C0 f0 d0).eval args Z none [] Z = some (.ref a) ∧ Sta Z Z.heap C0 f0 d0 (.ref a) ∧ Exa Z Z.heap a C0 ∧ Fld Z Z.heap a C0 "cutoff" "I" (.int k) := by
  obtain ⟨a, ea⟩ := exa_v h1
  exact ⟨a, ea, Sta.start ea (Or.inr ⟨wi, wl⟩), Exa.start ea h1, Fld.start ((own_fe ea).symm.trans (own_eqi h2))⟩
theorem own_ordne {Z : State} {args : Array Value} {C0 f0 d0 g0 : String} {j k : Int32} {a b : Addr} (ea : (Term.static C0 f0 d0).eval args Z none [] Z = some (.ref a)) (eb : (Term.static C0 g0 d0).eval args Z none [] Z = some (.ref b)) (h1 : (Jvm.Cond.eq (Term.field (Term.static C0 f0 d0) "java/lang/Enum" "ordinal" "I") (Term.int j)).value args Z none Z [] = some true) (h2 : (Jvm.Cond.eq (Term.field (Term.static C0 g0 d0) "java/lang/Enum" "ordinal" "I") (Term.int k)).value args Z none Z [] = some true) (hjk : j ≠ k) : a ≠ b := fun q => by
  subst q
  have q1 := (own_fe ea).symm.trans (own_eqi h1)
  have q2 := (own_fe eb).symm.trans (own_eqi h2)
  exact hjk (Value.int.inj (Option.some.inj (q1.symm.trans q2)))
set_option maxRecDepth 65536 in
set_option maxHeartbeats 40000000 in
theorem comes_1 {Post : Tables → Env → Array Value → State → Outcome → State → Prop} (hpost : ∀ tb e args s v u, (limb_1_1.after args s (.returned v) u = true ∧ limb_1_2.after args s (.returned v) u = true ∧ True) → FrameEnd s (.returned v) u (Jvm.fieldLocs frame_1_writes args s ++ Jvm.arrayLocs frame_1_arrays args s ++ Jvm.staticLocs frame_1_statics s) 16 192 → Post tb e args s (.returned v) u) :
    ArmFor flags0 classFile x code maxLocals ret World_1 tables_1 room_1 Calls_1 rest_1 Pre_1 Post := by
  intro l hfl _ _ p e ha hc hk s m args below hf hA hF happ hP
  obtain ⟨hcalls, hrest, hpre⟩ := hP
  obtain ⟨-, -, -, hnamed, -, -, -, hat⟩ := (Spec.applies_iff hf).mp happ
  obtain ⟨hg, hn⟩ := and_e (Cond.before_iff.mp (show (Jvm.Cond.and given_1 narrow_1).before args s = true from hpre))
  obtain ⟨h1, g0⟩ := and_e hg
  obtain ⟨k0, g1⟩ := and_e g0
  obtain ⟨k1, g2⟩ := and_e g1
  obtain ⟨k2, g3⟩ := and_e g2
  obtain ⟨k3, g4⟩ := and_e g3
  obtain ⟨k4, g5⟩ := and_e g4
  have k5 := g5
  obtain ⟨w0, w1, w2, w3, w4, w5, rfl⟩ : ∃ w0 w1 w2 w3 w4 w5 : Value, args = #[w0, w1, w2, w3, w4, w5] := by
    have hs : args.size = 6 := by simpa [Cond.value, given_1] using h1
    obtain ⟨L⟩ := args
    match L, hs with
    | [w0, w1, w2, w3, w4, w5], _ => exact ⟨w0, w1, w2, w3, w4, w5, rfl⟩
  have hw := fun d (hd : d ∈ tables_1) => atoms_spec (ws := Jvm.Cond.code x code maxLocals ret :: tables_1) hat d (List.mem_cons_of_mem _ hd)
  have hfit : Fit s := fun {y c} hc i hi => by
    obtain ⟨ha, rfl⟩ := Array.getElem?_eq_some_iff.mp hc
    have q := List.all_eq_true.mp ((Array.all_eq_true_iff_forall_mem.mp hF) _ (Array.getElem_mem ha)) i (List.mem_range.mpr hi)
    simpa [Array.getElem?_eq_getElem hi] using q
  obtain ⟨i0, e0⟩ := is_v k0
  obtain rfl : w0 = (.int i0) := Option.some.inj e0
  obtain ⟨i1, e1⟩ := is_v k1
  obtain rfl : w1 = (.int i1) := Option.some.inj e1
  obtain ⟨i2, e2⟩ := isL_v k2
  obtain rfl : w2 = (.long i2) := Option.some.inj e2
  obtain ⟨i3, e3⟩ := is_v k3
  obtain rfl : w3 = (.int i3) := Option.some.inj e3
  obtain ⟨i4, e4⟩ := is_v k4
  obtain rfl : w4 = (.int i4) := Option.some.inj e4
  obtain ⟨i5, e5⟩ := is_v k5
  obtain rfl : w5 = (.int i5) := Option.some.inj e5
  obtain ⟨m1, hn⟩ := and_e hn
  obtain ⟨m2, hn⟩ := and_e hn
  obtain ⟨m3, hn⟩ := and_e hn
  obtain ⟨m4, hn⟩ := and_e hn
  obtain ⟨m5, hn⟩ := and_e hn
  obtain ⟨m6, hn⟩ := and_e hn
  obtain ⟨m7, hn⟩ := and_e hn
  obtain ⟨m8, hn⟩ := and_e hn
  obtain ⟨m9, hn⟩ := and_e hn
  obtain ⟨m10, hn⟩ := and_e hn
  obtain ⟨m11, m12⟩ := and_e hn
  obtain ⟨a5, v5, S5, X5, F5⟩ := own_enum m1 m5 (hw _ (List.mem_of_getElem? (i := 2) rfl)) (hw _ (List.mem_of_getElem? (i := 3) rfl))
  obtain ⟨aT, vT, ST, XT, FT⟩ := own_enum m9 m11 (hw _ (List.mem_of_getElem? (i := 2) rfl)) (hw _ (List.mem_of_getElem? (i := 39) rfl))
  obtain ⟨a30, v30, S30, X30, F30⟩ := own_enum m6 m8 (hw _ (List.mem_of_getElem? (i := 2) rfl)) (hw _ (List.mem_of_getElem? (i := 37) rfl))
  obtain ⟨aM, vM, SM, XM, FM⟩ := own_enum m2 m12 (hw _ (List.mem_of_getElem? (i := 2) rfl)) (hw _ (List.mem_of_getElem? (i := 15) rfl))
  have n5 := own_ordne v5 vM m3 m4 (by decide)
  have nT := own_ordne vT vM m10 m4 (by decide)
  have n30 := own_ordne v30 vM m7 m4 (by decide)
  obtain ⟨n, o, q1, q2, q3, _, L, rfl, ⟨rfl, N⟩, hq⟩ := rm_law l s _ hw tables_1 i0 i1 i2 i3 i4 i5 a5 aT a30 aM s.heap s.heap.size (Nat.le_refl _) S5 F5 X5 n5 ST FT XT nT S30 F30 X30 n30 SM XM p e ha hc hk s m _ below hf ((Spec.applies_iff_loose hf).mp happ).1 ⟨rfl, State.Warmed39.refl s, rfl⟩ trivial
  refine ⟨n, _, q1, q2, q3, hpost _ _ _ _ _ _ ⟨Cond.after_iff.mpr rfl, Cond.after_iff.mpr (eq_i res_at (Term.int_eval (1)) rfl), trivial⟩ ⟨hq.1, hq.2.1, (hq.2.2.sift fun y hy => Or.inr (N y hy)).mono (by decide) (by decide)⟩⟩
theorem main_1_1 : Claimed_1_1 := comes_1 fun _ _ _ _ _ _ h hF => ⟨h.1, hF⟩
theorem main_1_2 : Claimed_1_2 := comes_1 fun _ _ _ _ _ _ h hF => ⟨h.2.1, hF⟩
end Jvm.Pilot.@@N@@
namespace Jvm.Pilot.@@N@@
open Jvm Jvm.ClassFile Sem Op Lib Jvm.Free Jvm.Stand Jvm.Pilot.@@N@@.Jvm.D
/-! MADE BY PROGRAM (witnessworld.py) out of the Statement's table words and the real class files: 15 classes; the members and pool entries that the words name. The judged class is class 1, her method 1. -/
namespace start1
open Jvm.ClassFile
def u (s : String) : CpInfo := .utf8 (stringToUtf16 s)
/-- a pool by its gaps: so many unusable entries, then the entry; so many at the end -/
def gap : Nat → List CpInfo → List CpInfo
  | 0, r => r
  | n + 1, r => .unusable :: gap n r
def poolList (es : List (Nat × CpInfo)) (last : Nat) : List CpInfo := es.foldr (fun e r => gap e.1 (e.2 :: r)) (gap last [])
def pool (es : List (Nat × CpInfo)) (last : Nat) : Array CpInfo := ⟨poolList es last⟩
def fileOf (pool : Array CpInfo) (this : Nat) (attrs : Array Attribute := #[]) (ms : Array MethodInfo := #[]) (fl : Nat := 33) (sup : Nat := 0) (ifs : Array Nat := #[]) (fds : Array FieldInfo := #[]) : ClassFile where
  minorVersion := 0
  majorVersion := 65
  constantPool := pool
  accessFlags := fl
  thisClass := this
  superClass := sup
  interfaces := ifs
  fields := fds
  methods := ms
  attributes := attrs
def plain (name : String) (sup : Option ClassId) : Class where
  name := name
  kind := .ordinary
  loader := none
  accessFlags := 33
  super := sup
  interfaces := #[]
  cf := none
  fields := #[]
  methods := #[]
  instanceTypes := #[]
  staticTypes := #[]
  resolved := #[]
  callSites := []
  init := .initialized
  statics := none
  mirror := none

def pool0 : Array CpInfo := pool [(5, u "<init>"), (0, u "()V"), (1, .class_ 10), (1, u "java/lang/Object")] 113

def k0m0 : Method := { name := "<init>", desc := "()V", sig := { parameters := [], returnType := none }, accessFlags := 1, code := none }
/-- java/lang/Object -/
def k0 : Class := { plain "java/lang/Object" none with
  accessFlags := 33
  interfaces := #[]
  cf := some (fileOf pool0 8 #[] #[{ accessFlags := 1, nameIndex := 5, descriptorIndex := 6, attributes := #[] }] 33 0 #[] #[])
  fields := #[]
  methods := #[k0m0]
  instanceTypes := #[]
  staticTypes := #[]
  resolved := Array.replicate 124 none
  statics := none }

def pool1 : Array CpInfo := pool [(2, .class_ 4), (1, u "java/lang/Object"), (0, u "<init>"), (0, u "()V"), (0, .integer 2147483647), (0, .fieldref 9 10), (0, .class_ 11), (0, .nameAndType 12 13), (0, u "com/example/kobe/kobe/eval/Measure"), (0, u "P_5"), (0, u "Lcom/example/kobe/kobe/eval/Measure;"), (0, .fieldref 9 15), (0, .nameAndType 16 13), (0, u "P_10"), (0, .fieldref 9 18), (0, .nameAndType 19 13), (0, u "P_30"), (0, .fieldref 9 21), (0, .nameAndType 22 13), (0, u "MAP"), (0, .methodref 24 25), (0, .class_ 26), (0, .nameAndType 27 28), (0, u "com/example/kobe/kobe/eval/MeasureScorePinLaw"), (0, u "lowOnes"), (0, u "(I)J"), (0, .methodref 24 30), (0, .nameAndType 31 32), (0, u "set"), (0, u "([ZIJ)V"), (0, .methodref 9 34), (0, .nameAndType 35 36), (0, u "score"), (0, u "([ZI)D"), (0, .methodref 38 39), (0, .class_ 40), (0, .nameAndType 41 42), (0, u "java/lang/Math"), (0, u "min"), (0, u "(II)I"), (0, .methodref 24 44), (0, .nameAndType 45 46), (0, u "popcount"), (0, u "(J)I"), (0, .long 6148914691236517205), (1, .long 3689348814741910323), (1, .long 1085102592571150095), (1, .long 72340172838076673), (3, u "law"), (0, u "(IIJIII)Z")] 5

def k1m0 : Method := { name := "<init>", desc := "()V", sig := { parameters := [], returnType := none }, accessFlags := 1, code := none }
def k1c1 : Code := { maxStack := 6, maxLocals := 22, code := code, exceptionTable := #[], attributes := #[] }
def k1m1 : Method := { name := "law", desc := "(IIJIII)Z", sig := { parameters := [.int, .int, .long, .int, .int, .int], returnType := some .boolean }, accessFlags := 9, code := some k1c1 }
def k1c2 : Code := { maxStack := 6, maxLocals := 4, code := method_3_code, exceptionTable := #[], attributes := #[] }
def k1m2 : Method := { name := "set", desc := "([ZIJ)V", sig := { parameters := [(.array .boolean), .int, .long], returnType := none }, accessFlags := 10, code := some k1c2 }
def k1c3 : Code := { maxStack := 4, maxLocals := 1, code := method_4_code, exceptionTable := #[], attributes := #[] }
def k1m3 : Method := { name := "lowOnes", desc := "(I)J", sig := { parameters := [.int], returnType := some .long }, accessFlags := 10, code := some k1c3 }
def k1c4 : Code := { maxStack := 6, maxLocals := 4, code := method_5_code, exceptionTable := #[], attributes := #[] }
def k1m4 : Method := { name := "popcount", desc := "(J)I", sig := { parameters := [.long], returnType := some .int }, accessFlags := 10, code := some k1c4 }
/-- com/example/kobe/kobe/eval/MeasureScorePinLaw -/
def k1 : Class := { plain "com/example/kobe/kobe/eval/MeasureScorePinLaw" (some 0) with
  accessFlags := 49
  interfaces := #[]
  cf := some (fileOf pool1 24 #[] #[{ accessFlags := 1, nameIndex := 5, descriptorIndex := 6, attributes := #[] }, { accessFlags := 9, nameIndex := 57, descriptorIndex := 58, attributes := #[] }, { accessFlags := 10, nameIndex := 31, descriptorIndex := 32, attributes := #[] }, { accessFlags := 10, nameIndex := 27, descriptorIndex := 28, attributes := #[] }, { accessFlags := 10, nameIndex := 45, descriptorIndex := 46, attributes := #[] }] 49 2 #[] #[])
  fields := #[]
  methods := #[k1m0, k1m1, k1m2, k1m3, k1m4]
  instanceTypes := #[]
  staticTypes := #[]
  resolved := Array.replicate 64 none
  statics := none }

def pool2 : Array CpInfo := pool [(1, .class_ 2), (0, u "java/lang/constant/Constable"), (0, .class_ 4), (0, u "java/lang/Object")] 6

/-- java/lang/constant/Constable -/
def k2 : Class := { plain "java/lang/constant/Constable" (some 0) with
  accessFlags := 1537
  interfaces := #[]
  cf := some (fileOf pool2 1 #[] #[] 1537 3 #[] #[])
  fields := #[]
  methods := #[]
  instanceTypes := #[]
  staticTypes := #[]
  resolved := Array.replicate 11 none
  statics := none }

def pool3 : Array CpInfo := pool [(1, .class_ 2), (0, u "java/lang/Comparable"), (0, .class_ 4), (0, u "java/lang/Object")] 7

/-- java/lang/Comparable -/
def k3 : Class := { plain "java/lang/Comparable" (some 0) with
  accessFlags := 1537
  interfaces := #[]
  cf := some (fileOf pool3 1 #[] #[] 1537 3 #[] #[])
  fields := #[]
  methods := #[]
  instanceTypes := #[]
  staticTypes := #[]
  resolved := Array.replicate 12 none
  statics := none }

def pool4 : Array CpInfo := pool [(1, .class_ 2), (0, u "java/io/Serializable"), (0, .class_ 4), (0, u "java/lang/Object")] 2

/-- java/io/Serializable -/
def k4 : Class := { plain "java/io/Serializable" (some 0) with
  accessFlags := 1537
  interfaces := #[]
  cf := some (fileOf pool4 1 #[] #[] 1537 3 #[] #[])
  fields := #[]
  methods := #[]
  instanceTypes := #[]
  staticTypes := #[]
  resolved := Array.replicate 7 none
  statics := none }

def pool5 : Array CpInfo := pool [(2, .class_ 4), (1, u "java/lang/Enum"), (0, u "name"), (0, u "Ljava/lang/String;"), (2, u "ordinal"), (0, u "I"), (1, .class_ 14), (1, u "java/lang/Object"), (4, u "hash"), (86, .class_ 108), (1, u "java/lang/Enum$EnumDesc"), (2, .class_ 112), (0, u "java/lang/constant/Constable"), (0, .class_ 114), (0, u "java/lang/Comparable"), (0, .class_ 116), (0, u "java/io/Serializable")] 87

/-- java/lang/Enum -/
def k5 : Class := { plain "java/lang/Enum" (some 0) with
  accessFlags := 1057
  interfaces := #[2, 3, 4]
  cf := some (fileOf pool5 2 #[.nestMembers #[106]] #[] 1057 12 #[111, 113, 115] #[{ accessFlags := 18, nameIndex := 5, descriptorIndex := 6, attributes := #[] }, { accessFlags := 18, nameIndex := 9, descriptorIndex := 10, attributes := #[] }, { accessFlags := 2, nameIndex := 19, descriptorIndex := 10, attributes := #[] }])
  fields := #[{ name := "name", type := (.object "java/lang/String"), accessFlags := 18, slot := 0, constantValue := 0 }, { name := "ordinal", type := .int, accessFlags := 18, slot := 1, constantValue := 0 }, { name := "hash", type := .int, accessFlags := 2, slot := 2, constantValue := 0 }]
  methods := #[]
  instanceTypes := #[(.object "java/lang/String"), .int, .int]
  staticTypes := #[]
  resolved := Array.replicate 204 none
  statics := none }

def pool6 : Array CpInfo := pool [(1, .class_ 2), (0, u "com/example/kobe/kobe/eval/Measure"), (2, u "P_5"), (0, u "Lcom/example/kobe/kobe/eval/Measure;"), (2, u "P_10"), (2, u "P_30"), (0, .fieldref 1 14), (0, .nameAndType 15 6), (0, u "MAP"), (2, u "$VALUES"), (0, u "[Lcom/example/kobe/kobe/eval/Measure;"), (6, .class_ 28), (1, u "java/lang/Enum"), (8, u "label"), (0, u "Ljava/lang/String;"), (0, .fieldref 1 40), (0, .nameAndType 41 42), (0, u "cutoff"), (0, u "I"), (0, .methodref 1 44), (0, .nameAndType 45 46), (0, u "averagePrecision"), (0, u "([ZI)D"), (0, .methodref 1 48), (0, .nameAndType 49 50), (0, u "precisionAt"), (0, u "(I[Z)D"), (0, .methodref 52 53), (0, .class_ 54), (0, .nameAndType 55 56), (0, u "java/lang/Math"), (0, u "min"), (0, u "(II)I"), (20, u "score")] 6

def k6c0 : Code := { maxStack := 2, maxLocals := 3, code := prog_11_method_5_code, exceptionTable := #[], attributes := #[] }
def k6m0 : Method := { name := "score", desc := "([ZI)D", sig := { parameters := [(.array .boolean), .int], returnType := some .double }, accessFlags := 0, code := some k6c0 }
def k6c1 : Code := { maxStack := 6, maxLocals := 6, code := prog_11_method_6_code, exceptionTable := #[], attributes := #[] }
def k6m1 : Method := { name := "averagePrecision", desc := "([ZI)D", sig := { parameters := [(.array .boolean), .int], returnType := some .double }, accessFlags := 10, code := some k6c1 }
def k6c2 : Code := { maxStack := 4, maxLocals := 4, code := prog_11_method_7_code, exceptionTable := #[], attributes := #[] }
def k6m2 : Method := { name := "precisionAt", desc := "(I[Z)D", sig := { parameters := [.int, (.array .boolean)], returnType := some .double }, accessFlags := 10, code := some k6c2 }
/-- com/example/kobe/kobe/eval/Measure -/
def k6 : Class := { plain "com/example/kobe/kobe/eval/Measure" (some 5) with
  accessFlags := 16433
  interfaces := #[]
  cf := some (fileOf pool6 1 #[] #[{ accessFlags := 0, nameIndex := 77, descriptorIndex := 46, attributes := #[] }, { accessFlags := 10, nameIndex := 45, descriptorIndex := 46, attributes := #[] }, { accessFlags := 10, nameIndex := 49, descriptorIndex := 50, attributes := #[] }] 16433 26 #[] #[{ accessFlags := 16409, nameIndex := 5, descriptorIndex := 6, attributes := #[] }, { accessFlags := 16409, nameIndex := 9, descriptorIndex := 6, attributes := #[] }, { accessFlags := 16409, nameIndex := 12, descriptorIndex := 6, attributes := #[] }, { accessFlags := 16409, nameIndex := 15, descriptorIndex := 6, attributes := #[] }, { accessFlags := 18, nameIndex := 37, descriptorIndex := 38, attributes := #[] }, { accessFlags := 18, nameIndex := 41, descriptorIndex := 42, attributes := #[] }, { accessFlags := 4122, nameIndex := 18, descriptorIndex := 19, attributes := #[] }])
  fields := #[{ name := "P_5", type := (.object "com/example/kobe/kobe/eval/Measure"), accessFlags := 16409, slot := 0, constantValue := 0 }, { name := "P_10", type := (.object "com/example/kobe/kobe/eval/Measure"), accessFlags := 16409, slot := 1, constantValue := 0 }, { name := "P_30", type := (.object "com/example/kobe/kobe/eval/Measure"), accessFlags := 16409, slot := 2, constantValue := 0 }, { name := "MAP", type := (.object "com/example/kobe/kobe/eval/Measure"), accessFlags := 16409, slot := 3, constantValue := 0 }, { name := "label", type := (.object "java/lang/String"), accessFlags := 18, slot := 3, constantValue := 0 }, { name := "cutoff", type := .int, accessFlags := 18, slot := 4, constantValue := 0 }, { name := "$VALUES", type := (.array (.object "com/example/kobe/kobe/eval/Measure")), accessFlags := 4122, slot := 4, constantValue := 0 }]
  methods := #[k6m0, k6m1, k6m2]
  instanceTypes := #[(.object "java/lang/String"), .int, .int, (.object "java/lang/String"), .int]
  staticTypes := #[(.object "com/example/kobe/kobe/eval/Measure"), (.object "com/example/kobe/kobe/eval/Measure"), (.object "com/example/kobe/kobe/eval/Measure"), (.object "com/example/kobe/kobe/eval/Measure"), (.array (.object "com/example/kobe/kobe/eval/Measure"))]
  resolved := Array.replicate 84 none
  statics := some 0 }

def pool7 : Array CpInfo := pool [(1, .class_ 2), (0, u "java/lang/Math"), (1, .class_ 6), (1, u "java/lang/Object"), (0, u "<init>"), (0, u "()V"), (89, .class_ 100), (1, u "java/lang/Math$RandomNumberGeneratorHolder"), (71, u "negativeZeroFloatBits"), (0, u "J"), (2, u "negativeZeroDoubleBits"), (24, u "min"), (43, u "$assertionsDisabled"), (0, u "Z"), (88, u "(II)I"), (2, u "twoToTheDoubleScaleDown"), (0, u "D"), (4, u "twoToTheDoubleScaleUp"), (9, u "E"), (3, u "PI"), (2, u "TAU"), (2, u "DEGREES_TO_RADIANS"), (0, u "RADIANS_TO_DEGREES")] 94

def k7m0 : Method := { name := "<init>", desc := "()V", sig := { parameters := [], returnType := none }, accessFlags := 2, code := none }
def k7c1 : Code := { maxStack := 2, maxLocals := 2, code := jdk_29_method_69_code, exceptionTable := #[], attributes := #[] }
def k7m1 : Method := { name := "min", desc := "(II)I", sig := { parameters := [.int, .int], returnType := some .int }, accessFlags := 9, code := some k7c1 }
/-- java/lang/Math -/
def k7 : Class := { plain "java/lang/Math" (some 0) with
  accessFlags := 49
  interfaces := #[]
  cf := some (fileOf pool7 1 #[.nestMembers #[98]] #[{ accessFlags := 2, nameIndex := 7, descriptorIndex := 8, attributes := #[] }, { accessFlags := 9, nameIndex := 201, descriptorIndex := 335, attributes := #[] }] 49 4 #[] #[{ accessFlags := 25, nameIndex := 354, descriptorIndex := 339, attributes := #[] }, { accessFlags := 25, nameIndex := 358, descriptorIndex := 339, attributes := #[] }, { accessFlags := 25, nameIndex := 361, descriptorIndex := 339, attributes := #[] }, { accessFlags := 26, nameIndex := 364, descriptorIndex := 339, attributes := #[] }, { accessFlags := 26, nameIndex := 365, descriptorIndex := 339, attributes := #[] }, { accessFlags := 26, nameIndex := 172, descriptorIndex := 173, attributes := #[] }, { accessFlags := 26, nameIndex := 176, descriptorIndex := 173, attributes := #[] }, { accessFlags := 8, nameIndex := 344, descriptorIndex := 339, attributes := #[] }, { accessFlags := 8, nameIndex := 338, descriptorIndex := 339, attributes := #[] }, { accessFlags := 4120, nameIndex := 245, descriptorIndex := 246, attributes := #[] }])
  fields := #[{ name := "E", type := .double, accessFlags := 25, slot := 0, constantValue := 0 }, { name := "PI", type := .double, accessFlags := 25, slot := 1, constantValue := 0 }, { name := "TAU", type := .double, accessFlags := 25, slot := 2, constantValue := 0 }, { name := "DEGREES_TO_RADIANS", type := .double, accessFlags := 26, slot := 3, constantValue := 0 }, { name := "RADIANS_TO_DEGREES", type := .double, accessFlags := 26, slot := 4, constantValue := 0 }, { name := "negativeZeroFloatBits", type := .long, accessFlags := 26, slot := 5, constantValue := 0 }, { name := "negativeZeroDoubleBits", type := .long, accessFlags := 26, slot := 6, constantValue := 0 }, { name := "twoToTheDoubleScaleUp", type := .double, accessFlags := 8, slot := 7, constantValue := 0 }, { name := "twoToTheDoubleScaleDown", type := .double, accessFlags := 8, slot := 8, constantValue := 0 }, { name := "$assertionsDisabled", type := .boolean, accessFlags := 4120, slot := 9, constantValue := 0 }]
  methods := #[k7m0, k7m1]
  instanceTypes := #[]
  staticTypes := #[.double, .double, .double, .double, .double, .long, .long, .double, .double, .boolean]
  resolved := Array.replicate 460 none
  statics := none }

def pool8 : Array CpInfo := pool [(1, u "java/lang/Cloneable"), (0, .class_ 1), (0, u "java/lang/Object"), (0, .class_ 3)] 3

/-- java/lang/Cloneable -/
def k8 : Class := { plain "java/lang/Cloneable" (some 0) with
  accessFlags := 1537
  interfaces := #[]
  cf := some (fileOf pool8 2 #[] #[] 1537 4 #[] #[])
  fields := #[]
  methods := #[]
  instanceTypes := #[]
  staticTypes := #[]
  resolved := Array.replicate 8 none
  statics := none }

/-- the primitive boolean -/
def k9 : Class := { plain "boolean" none with kind := .primitive 'Z', accessFlags := 0x411 }
/-- [Z -/
def k10 : Class := { plain "[Z" (some 0) with kind := .array 9 .boolean, interfaces := #[8, 4], accessFlags := 1041 }

/-- the primitive byte -/
def k11 : Class := { plain "byte" none with kind := .primitive 'B', accessFlags := 0x411 }
/-- [B -/
def k12 : Class := { plain "[B" (some 0) with kind := .array 11 .byte, interfaces := #[8, 4], accessFlags := 1041 }

/-- the primitive int -/
def k13 : Class := { plain "int" none with kind := .primitive 'I', accessFlags := 0x411 }
/-- [I -/
def k14 : Class := { plain "[I" (some 0) with kind := .array 13 .int, interfaces := #[8, 4], accessFlags := 1041 }

def heap : Heap := #[{ cls := 6, slots := #[.ref 1, .ref 2, .ref 3, .ref 4, .null], vm := .statics 6 },
  { cls := 6, slots := #[.null, .int 0, .int 0, .null, .int 5], vm := .none },
  { cls := 6, slots := #[.null, .int 1, .int 0, .null, .int 10], vm := .none },
  { cls := 6, slots := #[.null, .int 2, .int 0, .null, .int 30], vm := .none },
  { cls := 6, slots := #[.null, .int 3, .int 0, .null, .int 0], vm := .none }]
def classes : Array Class := #[k0, k1, k2, k3, k4, k5, k6, k7, k8, k9, k10, k11, k12, k13, k14]
def interned : List (Array UInt16 × Addr) := []
def slotsUsed : Nat := 25
def theMethod : MethodId := ⟨1, 1⟩
def args0 : Array Value := #[.int 5, .int 7, .long 3, .int 2, .int 1, .int 4]
def aboutOver (below : List Frame) : State where
  vm := { classes := classes, interned := interned.toArray }
  heap := heap
  slotsUsed := slotsUsed
  threads := #[{ frames := .invoking theMethod args0 :: below }]
def below0 : List Frame := [.native { method := ⟨0, 0⟩, args := #[] }]
def about1 : State := aboutOver below0
def p0 : Program := .bare "" "" ""
def e0 : Env := launch0.env 0 0 0
theorem w_frames : about1.frames = Frame.invoking theMethod args0 :: below0 := rfl
set_option maxRecDepth 65536 in
theorem w_args : argsFit about1.vm theMethod args0 = true := by decide +kernel
set_option maxRecDepth 65536 in
theorem w_heap : heapFits about1 = true := by decide +kernel
set_option maxRecDepth 65536 in
theorem w_runnable : about1.curStatus? = some .runnable := by decide +kernel
set_option maxRecDepth 65536 in
theorem w_alone : about1.alone = true := by decide +kernel
set_option maxRecDepth 65536 in
theorem w_named : about1.methodNamed? x = some theMethod := by decide +kernel
set_option maxRecDepth 65536 in
theorem w_hears : about1.hears theMethod below0 = true := by decide +kernel
set_option maxRecDepth 65536 in
theorem w_ripe : about1.ripe theMethod args0 below0 = true := by decide +kernel
theorem w_running : about1.status = .running := rfl
set_option maxRecDepth 65536 in
theorem w_room : about1.hasRoom e0.platform room_1 = true :=
  launch0.hasRoom_least _ room_1 (by decide +kernel) (by decide +kernel) (by decide +kernel) (by decide +kernel) (by decide +kernel) (by decide +kernel)
theorem allAtoms_all (ts : List Jvm.Cond) (a : Array Jvm.Value) (st : Jvm.State) : (allAtoms ts).before a st = ts.all (fun c => c.before a st) := by
  induction ts with
  | nil => rfl
  | cons c t ih =>
    show (Jvm.Cond.and c (allAtoms t)).before a st = _
    rw [Jvm.Cond.before_and, ih, List.all_cons]
def words1 : List Jvm.Cond := Jvm.Cond.code x code maxLocals ret :: tables_1
/-- a 'code' word, met by the world's own term for the bytes: nothing is compared byte by byte -/
theorem code_word {y : MethodName} {bytes : ByteArray} {mx : Nat} {rt : Option FieldType} {a : Array Value} {s : State} {m : MethodId} {meth : Method} {c : Code} (h1 : s.methodNamed? y = some m) (h2 : s.vm.method? m = some meth) (h3 : meth.code = some c) (h4 : c.code = bytes)
    (h5 : (c.maxLocals == mx && c.exceptionTable.isEmpty && decide (c.maxStack ≤ mostOperands) && decide (meth.sig.returnType = rt) && !meth.locks && decide (parseMethodDescriptor y.desc = some meth.sig)) = true) : (Jvm.Cond.code y bytes mx rt).before a s = true := by
  simp only [Bool.and_eq_true, beq_iff_eq, Bool.not_eq_true', decide_eq_true_eq] at h5
  obtain ⟨⟨⟨⟨⟨g1, g2⟩, g3⟩, g4⟩, g5⟩, g6⟩ := h5
  simp [Cond.before, Cond.holds, Cond.value, h1, h2, h3, h4, g1, g2, g3, g4, g5, g6]
def isCode : Jvm.Cond → Bool
  | .code _ _ _ _ => true
  | _ => false
theorem all_split {L : List Jvm.Cond} {P : Jvm.Cond → Bool} (h1 : L.all (fun c => isCode c || P c) = true) (h2 : ∀ c ∈ L.filter isCode, P c = true) : L.all P = true := by
  refine List.all_eq_true.mpr fun c hc => ?_
  have h := List.all_eq_true.mp h1 c hc
  rcases Bool.eq_false_or_eq_true (isCode c) with hi | hi
  · exact h2 c (List.mem_filter.mpr ⟨hc, hi⟩)
  · simpa [hi] using h
set_option maxRecDepth 65536 in
theorem w_c0 : (Jvm.Cond.code x code maxLocals ret).before args0 about1 = true := code_word (m := ⟨1, 1⟩) (meth := k1m1) (c := k1c1) (by decide +kernel) rfl rfl rfl (by decide +kernel)
set_option maxRecDepth 65536 in
theorem w_c1 : (Jvm.Cond.code ({ cls := "com/example/kobe/kobe/eval/MeasureScorePinLaw", name := "set", desc := "([ZIJ)V" } : Jvm.MethodName) method_3_code (4 : Nat) (Option.none : Option Jvm.ClassFile.FieldType)).before args0 about1 = true := code_word (m := ⟨1, 2⟩) (meth := k1m2) (c := k1c2) (by decide +kernel) rfl rfl rfl (by decide +kernel)
set_option maxRecDepth 65536 in
theorem w_c2 : (Jvm.Cond.code ({ cls := "com/example/kobe/kobe/eval/Measure", name := "score", desc := "([ZI)D" } : Jvm.MethodName) prog_11_method_5_code (3 : Nat) (Option.some Jvm.ClassFile.FieldType.double)).before args0 about1 = true := code_word (m := ⟨6, 0⟩) (meth := k6m0) (c := k6c0) (by decide +kernel) rfl rfl rfl (by decide +kernel)
set_option maxRecDepth 65536 in
theorem w_c3 : (Jvm.Cond.code ({ cls := "com/example/kobe/kobe/eval/Measure", name := "precisionAt", desc := "(I[Z)D" } : Jvm.MethodName) prog_11_method_7_code (4 : Nat) (Option.some Jvm.ClassFile.FieldType.double)).before args0 about1 = true := code_word (m := ⟨6, 2⟩) (meth := k6m2) (c := k6c2) (by decide +kernel) rfl rfl rfl (by decide +kernel)
set_option maxRecDepth 65536 in
theorem w_c4 : (Jvm.Cond.code ({ cls := "java/lang/Math", name := "min", desc := "(II)I" } : Jvm.MethodName) jdk_29_method_69_code (2 : Nat) (Option.some Jvm.ClassFile.FieldType.int)).before args0 about1 = true := code_word (m := ⟨7, 1⟩) (meth := k7m1) (c := k7c1) (by decide +kernel) rfl rfl rfl (by decide +kernel)
set_option maxRecDepth 65536 in
theorem w_c5 : (Jvm.Cond.code ({ cls := "com/example/kobe/kobe/eval/MeasureScorePinLaw", name := "lowOnes", desc := "(I)J" } : Jvm.MethodName) method_4_code (1 : Nat) (Option.some Jvm.ClassFile.FieldType.long)).before args0 about1 = true := code_word (m := ⟨1, 3⟩) (meth := k1m3) (c := k1c3) (by decide +kernel) rfl rfl rfl (by decide +kernel)
set_option maxRecDepth 65536 in
theorem w_c6 : (Jvm.Cond.code ({ cls := "com/example/kobe/kobe/eval/MeasureScorePinLaw", name := "popcount", desc := "(J)I" } : Jvm.MethodName) method_5_code (4 : Nat) (Option.some Jvm.ClassFile.FieldType.int)).before args0 about1 = true := code_word (m := ⟨1, 4⟩) (meth := k1m4) (c := k1c4) (by decide +kernel) rfl rfl rfl (by decide +kernel)
set_option maxRecDepth 65536 in
theorem w_c7 : (Jvm.Cond.code ({ cls := "com/example/kobe/kobe/eval/Measure", name := "averagePrecision", desc := "([ZI)D" } : Jvm.MethodName) prog_11_method_6_code (6 : Nat) (Option.some Jvm.ClassFile.FieldType.double)).before args0 about1 = true := code_word (m := ⟨6, 1⟩) (meth := k6m1) (c := k6c1) (by decide +kernel) rfl rfl rfl (by decide +kernel)
def codes1 : List Jvm.Cond := [Jvm.Cond.code x code maxLocals ret, Jvm.Cond.code ({ cls := "com/example/kobe/kobe/eval/MeasureScorePinLaw", name := "set", desc := "([ZIJ)V" } : Jvm.MethodName) method_3_code (4 : Nat) (Option.none : Option Jvm.ClassFile.FieldType), Jvm.Cond.code ({ cls := "com/example/kobe/kobe/eval/Measure", name := "score", desc := "([ZI)D" } : Jvm.MethodName) prog_11_method_5_code (3 : Nat) (Option.some Jvm.ClassFile.FieldType.double), Jvm.Cond.code ({ cls := "com/example/kobe/kobe/eval/Measure", name := "precisionAt", desc := "(I[Z)D" } : Jvm.MethodName) prog_11_method_7_code (4 : Nat) (Option.some Jvm.ClassFile.FieldType.double), Jvm.Cond.code ({ cls := "java/lang/Math", name := "min", desc := "(II)I" } : Jvm.MethodName) jdk_29_method_69_code (2 : Nat) (Option.some Jvm.ClassFile.FieldType.int), Jvm.Cond.code ({ cls := "com/example/kobe/kobe/eval/MeasureScorePinLaw", name := "lowOnes", desc := "(I)J" } : Jvm.MethodName) method_4_code (1 : Nat) (Option.some Jvm.ClassFile.FieldType.long), Jvm.Cond.code ({ cls := "com/example/kobe/kobe/eval/MeasureScorePinLaw", name := "popcount", desc := "(J)I" } : Jvm.MethodName) method_5_code (4 : Nat) (Option.some Jvm.ClassFile.FieldType.int), Jvm.Cond.code ({ cls := "com/example/kobe/kobe/eval/Measure", name := "averagePrecision", desc := "([ZI)D" } : Jvm.MethodName) prog_11_method_6_code (6 : Nat) (Option.some Jvm.ClassFile.FieldType.double)]
set_option maxRecDepth 65536 in
theorem codes_eq : words1.filter isCode = codes1 := rfl
theorem w_codes : ∀ c ∈ words1.filter isCode, c.before args0 about1 = true := by
  rw [codes_eq]
  intro c hc
  simp only [codes1, List.mem_cons, List.not_mem_nil, or_false] at hc
  rcases hc with rfl | rfl | rfl | rfl | rfl | rfl | rfl | rfl
  · exact w_c0
  · exact w_c1
  · exact w_c2
  · exact w_c3
  · exact w_c4
  · exact w_c5
  · exact w_c6
  · exact w_c7
set_option maxRecDepth 65536 in
theorem w_t1 : (words1.take 24).all (fun c => isCode c || c.before args0 about1) = true := by decide +kernel
set_option maxRecDepth 65536 in
theorem w_t2 : (words1.drop 24).all (fun c => isCode c || c.before args0 about1) = true := by decide +kernel
theorem w_tables : (allAtoms (Jvm.Cond.code x code maxLocals ret :: tables_1)).before args0 about1 = true := by
  rw [allAtoms_all]
  show words1.all (fun c => c.before args0 about1) = true
  refine all_split ?_ w_codes
  rw [← List.take_append_drop 24 words1, List.all_append, w_t1, w_t2]
  rfl
set_option maxRecDepth 65536 in
theorem w_case : (Jvm.Cond.and given_1 narrow_1).before args0 about1 = true := by decide +kernel
theorem w_applies : (headSpec (Jvm.Cond.code x code maxLocals ret :: tables_1) room_1).applies x e0.platform about1 = true :=
  (Spec.applies_iff w_frames).mpr ⟨w_running, w_runnable, w_alone, w_named, w_hears, w_ripe, w_room, w_tables⟩
theorem atStart : AtStart classFile x code maxLocals ret World_1 tables_1 room_1 Calls_1 rest_1 Pre_1 launch0 p0 e0 about1 theMethod args0 below0 :=
  ⟨lists_1, trivial, launch0.admits_env _ _ _, launch0.least_env, fairChoices_fair.cas, fairChoices_fair.clock, w_frames, w_args, w_heap, w_applies, trivial, trivial, w_case⟩
end start1
theorem witness_1 : WitnessClaimed_1 := ⟨start1.p0, start1.e0, start1.about1, start1.theMethod, start1.args0, start1.below0, start1.atStart⟩
end Jvm.Pilot.@@N@@
