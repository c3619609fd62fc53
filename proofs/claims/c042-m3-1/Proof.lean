import JvmDerived
import JvmDerived.Pilot.@@N@@Statement
import JvmDerived.Pilot.@@N@@Code
set_option linter.unusedVariables false
set_option linter.unusedSimpArgs false
/-! own layer: doubles by their values in units of 2^-1074 (zval), over the library's float laws -/
namespace Jvm.Pilot.@@N@@.OwnFp
open Jvm.FP.Core
abbrev oz (x : UInt64) : Int := zval b64 (val64 x)
theorem one_pos : (0 : Int) < (one64 : Int) := by have := one64_pos; omega
theorem fin_nan {x : UInt64} (h : DFin x) : val64 x ≠ .nan := h.ne_nan
theorem signs_le {s sv : Bool} {A B zr zv : Nat} (h : signed s A ≤ signed sv B) (hle : A ≤ B → zr ≤ zv) (hge : B ≤ A → zv ≤ zr) (hz : B = 0 → zv = 0) : signed s zr ≤ signed sv zv := by
  cases s <;> cases sv <;> simp only [signed, if_true, Bool.false_eq_true, if_false] at h ⊢
  · have := hle (by omega); omega
  · have := hle (by omega); have := hz (by omega); omega
  · omega
  · have := hge (by omega); omega
theorem signs_ge {s sv : Bool} {A B zr zv : Nat} (h : signed sv B ≤ signed s A) (hle : A ≤ B → zr ≤ zv) (hge : B ≤ A → zv ≤ zr) (hz : B = 0 → zv = 0) : signed sv zv ≤ signed s zr := by
  cases s <;> cases sv <;> simp only [signed, if_true, Bool.false_eq_true, if_false] at h ⊢
  · have := hge (by omega); omega
  · omega
  · have := hle (by omega); have := hz (by omega); omega
  · have := hle (by omega); omega
/-- what a quotient by a positive divisor is, set against a number V of the format -/
theorem div_core {x y V : UInt64} (hx : DFin x) (hy : DFin y) (hp : 0 < oz y) (hV : val64 V ≠ .nan) :
    (oz x * (one64 : Int) ≤ oz V * oz y → oz (ddiv x y) ≤ oz V) ∧ (oz V * oz y ≤ oz x * (one64 : Int) → oz V ≤ oz (ddiv x y)) := by
  obtain ⟨s, c, q, ex⟩ := hx
  obtain ⟨t, d, r, ey⟩ := hy
  have fx := val64_fits x
  have fy := val64_fits y
  unfold oz at *
  rw [val64_ddiv, ex, ey]
  rw [ex] at fx
  rw [ey] at fy hp
  have ht : t = false := by
    cases t
    · rfl
    · exfalso
      simp only [zval, sgn, signed, if_true] at hp
      omega
  subst ht
  have hd : 0 < d := by
    rcases Nat.eq_zero_or_pos d with h0 | h0
    · subst h0
      exfalso
      simp [zval, zmag, inUnits, sgn, signed] at hp
    · exact h0
  have eq0 : quotient b64 (.fin s c q) (.fin false d r) = roundRatio b64 (s != false) c d (q - r) := by
    simp only [quotient, if_neg (Nat.ne_of_gt hd)]
  have es : (s != false) = s := by cases s <;> rfl
  rw [eq0, es]
  have hq1 := fx.2.1
  have hr1 := fy.2.1
  have hqn := qmin_neg good_b64
  have eA : inUnits c (q - r) (2 * b64.qmin - r) = zmag b64 (.fin s c q) * one64 := by
    show _ = inUnits c q b64.qmin * one64
    unfold inUnits
    rw [← pow_qmin64, Nat.mul_assoc, ← Nat.pow_add]
    congr 2
    omega
  have eB : 2 ^ (b64.qmin - (2 * b64.qmin - r)).toNat * d = zmag b64 (.fin false d r) := by
    show _ = inUnits d r b64.qmin
    unfold inUnits
    rw [Nat.mul_comm]
    congr 2
    omega
  have hle := zmag_roundRatio_le good_b64 (s := s) (A := c) (B := d) (e := q - r) (e0 := 2 * b64.qmin - r) hd (val64_fits V) hV (by omega) (by omega)
  have hge := zmag_roundRatio_ge good_b64 (s := s) (A := c) (B := d) (e := q - r) (e0 := 2 * b64.qmin - r) hd (val64_fits V) (by omega) (by omega)
  rw [eA, Nat.mul_assoc, eB] at hle hge
  have hy0 : 0 < zmag b64 (.fin false d r) := by
    show 0 < inUnits d r b64.qmin
    exact Nat.mul_pos hd (Nat.two_pow_pos _)
  have hz : zmag b64 (val64 V) * zmag b64 (.fin false d r) = 0 → zmag b64 (val64 V) = 0 := by
    intro h0
    rcases Nat.mul_eq_zero.mp h0 with h0 | h0 <;> omega
  unfold zval
  rw [sgn_roundRatio]
  have e1 : signed (sgn (.fin s c q)) (zmag b64 (.fin s c q)) * (one64 : Int) = signed s (zmag b64 (.fin s c q) * one64) := (signed_mul _ _ _).symm
  have e2 : signed (sgn (val64 V)) (zmag b64 (val64 V)) * signed (sgn (.fin false d r)) (zmag b64 (.fin false d r)) = signed (sgn (val64 V)) (zmag b64 (val64 V) * zmag b64 (.fin false d r)) := (signed_mul _ _ _).symm
  rw [e1, e2]
  exact ⟨fun h => signs_le h hle hge hz, fun h => signs_ge h hle hge hz⟩
theorem div_eq {x y V : UInt64} (hx : DFin x) (hy : DFin y) (hp : 0 < oz y) (hV : val64 V ≠ .nan) (h : oz x * (one64 : Int) = oz V * oz y) : oz (ddiv x y) = oz V :=
  Int.le_antisymm ((div_core hx hy hp hV).1 (Int.le_of_eq h)) ((div_core hx hy hp hV).2 (Int.le_of_eq h.symm))
theorem mul_core {x y V : UInt64} (hx : DFin x) (hy : DFin y) (hV : val64 V ≠ .nan) :
    (oz x * oz y ≤ oz V * (one64 : Int) → oz (dmul x y) ≤ oz V) ∧ (oz V * (one64 : Int) ≤ oz x * oz y → oz V ≤ oz (dmul x y)) := by
  obtain ⟨s, c, q, ex⟩ := hx
  obtain ⟨t, d, r, ey⟩ := hy
  have fx := val64_fits x
  have fy := val64_fits y
  unfold oz at *
  rw [val64_dmul, ex, ey]
  rw [ex] at fx
  rw [ey] at fy
  obtain ⟨h1, h2, h3⟩ := product_units fx fy
  have hqn := qmin_neg good_b64
  have e1 : signed (s != t) (inUnits (c * d) (q + r) (2 * b64.qmin)) = zval b64 (.fin s c q) * zval b64 (.fin t d r) := by
    rw [h3]; exact signed_xor _ _ _ _
  have e2 : ((2 ^ (b64.qmin - 2 * b64.qmin).toNat : Nat) : Int) = (one64 : Int) := by
    rw [show (b64.qmin - 2 * b64.qmin).toNat = (-b64.qmin).toNat by omega, pow_qmin64]
  rw [h1]
  refine ⟨fun h => ?_, fun h => ?_⟩
  · refine zval_round_le good_b64 (val64_fits V) hV (e0 := 2 * b64.qmin) (by omega) h2 ?_
    rw [e1, e2]; exact h
  · refine zval_round_ge good_b64 (val64_fits V) hV (e0 := 2 * b64.qmin) (by omega) h2 ?_
    rw [e1, e2]; exact h
theorem mul_eq {x y V : UInt64} (hx : DFin x) (hy : DFin y) (hV : val64 V ≠ .nan) (h : oz x * oz y = oz V * (one64 : Int)) : oz (dmul x y) = oz V :=
  Int.le_antisymm ((mul_core hx hy hV).1 (Int.le_of_eq h)) ((mul_core hx hy hV).2 (Int.le_of_eq h.symm))
theorem add_core {x y V : UInt64} (hx : DFin x) (hy : DFin y) (hV : val64 V ≠ .nan) :
    (oz x + oz y ≤ oz V → oz (dadd x y) ≤ oz V) ∧ (oz V ≤ oz x + oz y → oz V ≤ oz (dadd x y)) := by
  unfold oz
  rw [val64_dadd]
  exact ⟨sum_le good_b64 hx hy (val64_fits x) (val64_fits y) (val64_fits V) hV, sum_ge good_b64 hx hy (val64_fits x) (val64_fits y) (val64_fits V) hV⟩
theorem add_eq {x y V : UInt64} (hx : DFin x) (hy : DFin y) (hV : val64 V ≠ .nan) (h : oz x + oz y = oz V) : oz (dadd x y) = oz V :=
  Int.le_antisymm ((add_core hx hy hV).1 (Int.le_of_eq h)) ((add_core hx hy hV).2 (Int.le_of_eq h.symm))
theorem sub_core {x y V : UInt64} (hx : DFin x) (hy : DFin y) (hV : val64 V ≠ .nan) :
    (oz x - oz y ≤ oz V → oz (dsub x y) ≤ oz V) ∧ (oz V ≤ oz x - oz y → oz V ≤ oz (dsub x y)) := by
  unfold oz
  rw [val64_dsub]
  have hn : ∃ s c q, negate (val64 y) = .fin s c q := by
    obtain ⟨s, c, q, e⟩ := hy
    exact ⟨!s, c, q, by rw [e]; rfl⟩
  have ez : zval b64 (negate (val64 y)) = -zval b64 (val64 y) := zval_negate _ _
  refine ⟨fun h => sum_le good_b64 hx hn (val64_fits x) (negate_fits (val64_fits y)) (val64_fits V) hV ?_, fun h => sum_ge good_b64 hx hn (val64_fits x) (negate_fits (val64_fits y)) (val64_fits V) hV ?_⟩
  · rw [ez]; omega
  · rw [ez]; omega
theorem sub_eq {x y V : UInt64} (hx : DFin x) (hy : DFin y) (hV : val64 V ≠ .nan) (h : oz x - oz y = oz V) : oz (dsub x y) = oz V :=
  Int.le_antisymm ((sub_core hx hy hV).1 (Int.le_of_eq h)) ((sub_core hx hy hV).2 (Int.le_of_eq h.symm))
/-- n / 2^k is a double, for n of less than 53 digits -/
theorem rep (n : Int) (k : Nat) (hn : n.natAbs < 2 ^ 53) (hk : k ≤ 1074) : ∃ V : UInt64, DFin V ∧ oz V = n * ((2 ^ (1074 - k) : Nat) : Int) := by
  have hq : b64.qmin = -1074 := qmin_b64
  have hm : b64.qmax = 971 := by decide
  obtain ⟨c', q', h1, h2⟩ := round_exact good_b64 (decide (n < 0)) (c := n.natAbs) (q := -(k : Int)) hn (by omega) (by omega)
  refine ⟨of64 (round b64 (.fin (decide (n < 0)) n.natAbs (-(k : Int)))), ⟨_, c', q', by rw [val64_of64 (round_fits good_b64 _), h1]⟩, ?_⟩
  unfold oz
  rw [val64_of64 (round_fits good_b64 _), h1]
  show signed (decide (n < 0)) (inUnits c' q' b64.qmin) = _
  rw [h2]
  unfold inUnits
  rw [signed_mul, show (-(k : Int) - b64.qmin).toNat = 1074 - k by omega]
  congr 1
  unfold signed
  by_cases h : n < 0 <;> simp [h] <;> omega
/-- m * 2^k is a double, for m of less than 53 digits, k small -/
theorem repUp (m k : Nat) (hn : m < 2 ^ 53) (hk : k ≤ 900) : ∃ V : UInt64, DFin V ∧ oz V = ((m * 2 ^ k : Nat) : Int) * (one64 : Int) := by
  have hq : b64.qmin = -1074 := qmin_b64
  have hm : b64.qmax = 971 := by decide
  obtain ⟨c', q', h1, h2⟩ := round_exact good_b64 false (c := m) (q := (k : Int)) hn (by omega) (by omega)
  refine ⟨of64 (round b64 (.fin false m (k : Int))), ⟨_, c', q', by rw [val64_of64 (round_fits good_b64 _), h1]⟩, ?_⟩
  unfold oz
  rw [val64_of64 (round_fits good_b64 _), h1]
  show signed false (inUnits c' q' b64.qmin) = _
  rw [h2]
  unfold inUnits
  rw [show ((k : Int) - b64.qmin).toNat = k + (-b64.qmin).toNat by omega, Nat.pow_add, pow_qmin64, ← Nat.mul_assoc, Int.natCast_mul]
  simp [signed]
theorem fin_of_eq {x V : UInt64} (hn : val64 x ≠ .nan) (hV : DFin V) (h : oz x = oz V) : DFin x := by
  have hl := hV.zval_lt
  cases e : val64 x with
  | nan => exact absurd e hn
  | inf s =>
    exfalso
    unfold oz at h
    rw [e] at h
    have h2 : zval b64 (.inf s) = signed s (b64.tails * 2 ^ (b64.exps - 2)) := rfl
    rw [h2] at h
    have h3 := congrArg Int.natAbs h
    unfold zval at h3
    rw [natAbs_signed, natAbs_signed] at h3
    omega
  | fin s c q => exact ⟨s, c, q, e⟩
/-- the comparison's int, by the values -/
theorem cmp_val {x y : UInt64} (hx : val64 x ≠ .nan) (hy : val64 y ≠ .nan) (o : ClassFile.CmpOp) : Op.cmpValue (Jvm.FP.dcmp x y) o = if oz x < oz y then -1 else if oz x = oz y then 0 else 1 := by
  have h : Jvm.FP.dcmp x y = some (compare (oz x) (oz y)) := dcmp_zval hx hy
  rw [h, compare_ite]
  by_cases h1 : oz x < oz y
  · rw [if_pos h1, if_pos h1]; cases o <;> rfl
  · rw [if_neg h1, if_neg h1]
    by_cases h2 : oz x = oz y
    · rw [if_pos h2, if_pos h2]; cases o <;> rfl
    · rw [if_neg h2, if_neg h2]; cases o <;> rfl
theorem cmp_lt {x y : UInt64} (hx : val64 x ≠ .nan) (hy : val64 y ≠ .nan) (o : ClassFile.CmpOp) : Op.cmpValue (Jvm.FP.dcmp x y) o < 0 ↔ oz x < oz y := by
  rw [cmp_val hx hy o]
  by_cases h1 : oz x < oz y
  · rw [if_pos h1]; exact ⟨fun _ => h1, fun _ => by decide⟩
  · rw [if_neg h1]
    by_cases h2 : oz x = oz y
    · rw [if_pos h2]; exact ⟨fun q => absurd q (by decide), fun q => absurd q h1⟩
    · rw [if_neg h2]; exact ⟨fun q => absurd q (by decide), fun q => absurd q h1⟩
theorem cmp_gt {x y : UInt64} (hx : val64 x ≠ .nan) (hy : val64 y ≠ .nan) (o : ClassFile.CmpOp) : 0 < Op.cmpValue (Jvm.FP.dcmp x y) o ↔ oz y < oz x := by
  rw [cmp_val hx hy o]
  by_cases h1 : oz x < oz y
  · rw [if_pos h1]; exact ⟨fun q => absurd q (by decide), fun q => by omega⟩
  · rw [if_neg h1]
    by_cases h2 : oz x = oz y
    · rw [if_pos h2]; exact ⟨fun q => absurd q (by decide), fun q => by omega⟩
    · rw [if_neg h2]; exact ⟨fun _ => by omega, fun _ => by decide⟩
theorem cmp_eq {x y : UInt64} (hx : val64 x ≠ .nan) (hy : val64 y ≠ .nan) (o : ClassFile.CmpOp) : Op.cmpValue (Jvm.FP.dcmp x y) o = 0 ↔ oz x = oz y := by
  rw [cmp_val hx hy o]
  by_cases h1 : oz x < oz y
  · rw [if_pos h1]; exact ⟨fun q => absurd q (by decide), fun q => by omega⟩
  · rw [if_neg h1]
    by_cases h2 : oz x = oz y
    · rw [if_pos h2]; exact ⟨fun _ => h2, fun _ => rfl⟩
    · rw [if_neg h2]; exact ⟨fun q => absurd q (by decide), fun q => absurd q h2⟩
theorem oz_int {i : Int} {a : UInt64} (h : DInt i a) : oz a = i * (one64 : Int) := DInt_zval h
theorem int_fin {i : Int} {a : UInt64} (h : DInt i a) : DFin a := by
  unfold DInt at h
  cases e : val64 a with
  | nan => rw [e] at h; exact h.elim
  | inf s => rw [e] at h; exact h.elim
  | fin s c q => exact ⟨s, c, q, e⟩
theorem oz_i2d (x : Int32) : oz (i2d x) = x.toInt * (one64 : Int) := oz_int (i2d_int x)
theorem oz_l2d {a : Int64} (h : a.toInt.natAbs ≤ 2 ^ 53) : oz (l2d a) = a.toInt * (one64 : Int) := oz_int (l2d_int h)
theorem no_nan {x : UInt64} (h : val64 x ≠ .nan) : Jvm.Free.Fl.NoNaN64 x := Jvm.Free.Fl.val64_no.mpr h
theorem nan_no {x : UInt64} (h : Jvm.Free.Fl.NoNaN64 x) : val64 x ≠ .nan := Jvm.Free.Fl.val64_no.mp h
/-- a positive value makes a divisor -/
theorem div_nan {x y : UInt64} (hx : DFin x) (hy : DFin y) (hp : 0 < oz y) : val64 (ddiv x y) ≠ .nan := by
  have hz : ¬ DZero y := fun h => by have := h.zval; unfold oz at hp; omega
  exact (notNaN_iff _).mp (ddiv_out hx.notNaN hy hz)
theorem mul_nan {x y : UInt64} (hx : DFin x) (hy : DFin y) : val64 (dmul x y) ≠ .nan := (notNaN_iff _).mp (dmul_out hx hy)
theorem add_nan {x y : UInt64} (hx : DFin x) (hy : DFin y) : val64 (dadd x y) ≠ .nan := (notNaN_iff _).mp (dadd_out hx.notNaN hy)
theorem sub_nan {x y : UInt64} (hx : DFin x) (hy : DFin y) : val64 (dsub x y) ≠ .nan := (notNaN_iff _).mp (dsub_out hx.notNaN hy)
/-- a bit pattern that is finite, and what it is worth, by reckoning -/
theorem fin_lit {x : UInt64} (h : x.toNat % 2 ^ 63 < 9218868437227405312) : DFin x := (fin_bits x).mpr h
theorem oz_max {a b : UInt64} (ha : val64 a ≠ .nan) (hb : val64 b ≠ .nan) : oz (Native.java_lang_Math.nans.pick64 true a b) = max (oz a) (oz b) := by
  have h : Jvm.FP.dcmp a b = some (compare (oz a) (oz b)) := dcmp_zval ha hb
  rw [compare_ite] at h
  by_cases h1 : oz a < oz b
  · rw [if_pos h1] at h
    have e : Native.java_lang_Math.nans.pick64 true a b = b := by simp [Native.java_lang_Math.nans.pick64, h]
    rw [e]; omega
  · rw [if_neg h1] at h
    by_cases h2 : oz a = oz b
    · rcases Jvm.Free.Fl.pick64_or true a b with e | e <;> rw [e] <;> omega
    · rw [if_neg h2] at h
      have e : Native.java_lang_Math.nans.pick64 true a b = a := by simp [Native.java_lang_Math.nans.pick64, h]
      rw [e]; omega
theorem max_nan {a b : UInt64} (ha : val64 a ≠ .nan) (hb : val64 b ≠ .nan) : val64 (Native.java_lang_Math.nans.pick64 true a b) ≠ .nan := by
  rcases Jvm.Free.Fl.pick64_or true a b with e | e <;> rw [e] <;> assumption
theorem d2l_nonneg {a : UInt64} (hn : val64 a ≠ .nan) (h0 : 0 ≤ oz a) (h1 : oz a < 9223372036854775808 * (one64 : Int)) : (d2l a).toInt = oz a / (one64 : Int) := by
  rw [d2l_val hn]
  have hp := one64_pos
  have key : signed (sgn (val64 a)) (zmag b64 (val64 a) / one64) = oz a / (one64 : Int) := by
    unfold oz zval at *
    cases hs : sgn (val64 a)
    · simp [signed]
    · rw [hs] at h0
      simp only [signed, if_true] at h0 ⊢
      have : zmag b64 (val64 a) = 0 := by omega
      rw [this]; simp
  rw [key]
  have h2 : 0 ≤ oz a / (one64 : Int) := Int.ediv_nonneg h0 (by omega)
  have h3 : oz a / (one64 : Int) < 9223372036854775808 := Int.ediv_lt_of_lt_mul (by omega) h1
  omega
end Jvm.Pilot.@@N@@.OwnFp
namespace Jvm.Pilot.@@N@@.OwnFp
open Jvm.FP.Core
theorem oz_8 : oz 4620693217682128896 = 8 * (one64 : Int) := by decide +kernel
theorem oz_6 : oz 4618441417868443648 = 6 * (one64 : Int) := by decide +kernel
theorem oz_2 : oz 4611686018427387904 = 2 * (one64 : Int) := by decide +kernel
theorem oz_half : oz 4602678819172646912 = ((2 ^ 1073 : Nat) : Int) := by decide +kernel
theorem oz_0 : oz 0 = 0 := by decide +kernel
theorem one_1 : (one64 : Int) = 2 * ((2 ^ 1073 : Nat) : Int) := by decide +kernel
theorem fin_8 : DFin 4620693217682128896 := fin_lit (by decide)
theorem fin_6 : DFin 4618441417868443648 := fin_lit (by decide)
theorem fin_2 : DFin 4611686018427387904 := fin_lit (by decide)
theorem u_pos : (0 : Int) < ((2 ^ 1073 : Nat) : Int) := by have := Nat.two_pow_pos 1073; omega
theorem head_core (a : Int32) {hv : UInt64} (hh : hv = 0 ∨ hv = 4602678819172646912) : DFin hv ∧ DFin (dadd (i2d a) hv) ∧ DFin (dsub (dadd (i2d a) hv) 4611686018427387904) ∧
    oz (dsub (dadd (i2d a) hv) 4611686018427387904) = oz (dadd (i2d a) hv) - 2 * (one64 : Int) := by
  have ha1 := Int32.toInt_lt a
  have ha2 := Int32.le_toInt a
  obtain ⟨k, hk, ek, fh⟩ : ∃ k : Int, (k = 0 ∨ k = 1) ∧ oz hv = k * ((2 ^ 1073 : Nat) : Int) ∧ DFin hv := by
    rcases hh with rfl | rfl
    · exact ⟨0, Or.inl rfl, by rw [oz_0]; omega, fin_lit (by decide)⟩
    · exact ⟨1, Or.inr rfl, by rw [oz_half]; omega, fin_lit (by decide)⟩
  have hr : (2 * a.toInt + k).natAbs < 2 ^ 53 := by omega
  have hr2 : (2 * a.toInt + k - 4).natAbs < 2 ^ 53 := by omega
  obtain ⟨V, hV, eV⟩ := rep (2 * a.toInt + k) 1 hr (by decide)
  obtain ⟨V2, hV2, eV2⟩ := rep (2 * a.toInt + k - 4) 1 hr2 (by decide)
  have e1 : oz (dadd (i2d a) hv) = oz V := by
    refine add_eq (i2d_fin a) fh (fin_nan hV) ?_
    rw [oz_i2d, ek, eV, one_1, show (1074 - 1 : Nat) = 1073 from rfl]
    generalize ((2 ^ 1073 : Nat) : Int) = U
    grind
  have f1 : DFin (dadd (i2d a) hv) := fin_of_eq (add_nan (i2d_fin a) fh) hV e1
  have e2 : oz (dsub (dadd (i2d a) hv) 4611686018427387904) = oz V2 := by
    refine sub_eq f1 fin_2 (fin_nan hV2) ?_
    rw [e1, eV, eV2, oz_2, one_1, show (1074 - 1 : Nat) = 1073 from rfl]
    generalize ((2 ^ 1073 : Nat) : Int) = U
    grind
  refine ⟨fh, f1, fin_of_eq (sub_nan f1 fin_2) hV2 e2, ?_⟩
  rw [e2, e1, eV, eV2, one_1, show (1074 - 1 : Nat) = 1073 from rfl]
  generalize ((2 ^ 1073 : Nat) : Int) = U
  grind
theorem head_fin (a : Int32) {hv : UInt64} (hh : hv = 0 ∨ hv = 4602678819172646912) :
    (Op.cmpValue (Jvm.FP.dcmp (dadd (i2d a) hv) 4620693217682128896) .g < 0 → Op.cmpValue (Jvm.FP.dcmp (Native.java_lang_Math.nans.pick64 true 4618441417868443648 (dsub (dadd (i2d a) hv) 4611686018427387904)) 4618441417868443648) .l = 0) ∧
    (¬ Op.cmpValue (Jvm.FP.dcmp (dadd (i2d a) hv) 4620693217682128896) .g < 0 → Op.cmpValue (Jvm.FP.dcmp (Native.java_lang_Math.nans.pick64 true 4618441417868443648 (dsub (dadd (i2d a) hv) 4611686018427387904)) (dsub (dadd (i2d a) hv) 4611686018427387904)) .l = 0) := by
  obtain ⟨fh, f1, f2, e⟩ := head_core a hh
  generalize dsub (dadd (i2d a) hv) 4611686018427387904 = r at *
  generalize dadd (i2d a) hv = v at *
  have m := oz_max (fin_nan fin_6) (fin_nan f2)
  have mn := max_nan (fin_nan fin_6) (fin_nan f2)
  rw [cmp_lt (fin_nan f1) (fin_nan fin_8), cmp_eq mn (fin_nan fin_6), cmp_eq mn (fin_nan f2), m, oz_8, oz_6, e]
  have hp := one_pos
  omega
end Jvm.Pilot.@@N@@.OwnFp
namespace Jvm.Pilot.@@N@@
open Jvm Jvm.ClassFile Sem Op Lib Jvm.Free Jvm.Stand Jvm.LawKit Jvm.RoadKit Bundle Jvm.Pilot.@@N@@.Jvm.D
/-! own layer: a walk in continuation style over the library's laws of lawnew's family -/
section OwnBase
/-- from the state t the invocation over 'below' comes to its end, and F holds there -/
def own_Ends (tb : Tables) (e : Env) (below : List Frame) (F : Outcome → State → Prop) (t : State) : Prop :=
  ∃ s₂ o, Steps tb e below t s₂ ∧ s₂.status = .running ∧ Ended s₂ below o ∧ F o s₂
theorem own_go {tb : Tables} {e : Env} {below : List Frame} {F : Outcome → State → Prop} {t t' : State} (k : ∀ target, Steps tb e below t' target → Steps tb e below t target) (h : own_Ends tb e below F t') : own_Ends tb e below F t := by
  obtain ⟨s₂, o, h1, h2⟩ := h
  exact ⟨s₂, o, k _ h1, h2⟩
/-- what a contract says of the end -/
def own_F (s : State) (Q : Option Value → Heap → List Loc → Prop) (C S : Nat) (o : Outcome) (U : State) : Prop := ∃ v L, o = .returned v ∧ Q v U.heap L ∧ FrameEnd s o U L C S
abbrev own_Ctr (l : Launch) (Z : State) (y : MethodName) (bytes : ByteArray) (ml : Nat) (rt : Option FieldType) (ws : List Jvm.Cond) (rm : Room) (as : Array Value) (h0 : Heap) (Q : Option Value → Heap → List Loc → Prop) : Prop :=
  MetFree l y (head1 (Jvm.Cond.code y bytes ml rt :: ws) rm) (fun a U => a = as ∧ Z.Warmed39 U.vm ∧ U.heap = h0) (fun _ _ _ _ _ => True) (fun _ U o U' => ∃ v L, o = .returned v ∧ Q v U'.heap L ∧ FrameEnd U o U' L rm.cells rm.slots)
theorem own_enter {l : Launch} {Z : State} {y : MethodName} {bytes : ByteArray} {ml : Nat} {rt : Option FieldType} {ws : List Jvm.Cond} {rm : Room} {as : Array Value} {h0 : Heap} {Q : Option Value → Heap → List Loc → Prop} (hp : plainFor y = true)
    (body : ∀ (p : Program) (e : Env) (s : State) (m : MethodId) (below : List Frame) (meth : Method) (c : Code) (s₁ : State), BodyLoose p l y (head1 (Jvm.Cond.code y bytes ml rt :: ws) rm) bytes ml rt e s m as below meth c s₁ → Z.Warmed39 s.vm → c.maxLocals = ml → Stand p l e rm s m as below meth c s₁ [] 0 0 → s₁.heap = h0 →
      own_Ends p.tables e below (own_F s Q rm.cells rm.slots) (s₁.setTop (entryFrame m as ml))) : own_Ctr l Z y bytes ml rt ws rm as h0 Q := by
  refine MetFree.of_bodySF hp hisR ?_
  intro p e s m args below meth c s₁ Bd hml0 hP hK
  obtain ⟨rfl, hZ, hh⟩ := hP
  have e0 : s₁.heap = h0 := by rw [← hh, Bd.state]; rfl
  exact body p e s m below meth c s₁ Bd hZ hml0 (Stand.of_body Bd) e0
variable {p : Program} {l : Launch} {e : Env} {R : Room} {s : State} {m : MethodId} {args : Array Value} {below : List Frame} {meth : Method} {c : Code} {T : State} {locs : List Loc} {cells slots : Nat} {Z : State} {a0 : Array Value} {h : Heap} {Q : Option Value → Heap → List Loc → Prop} {C S : Nat}
theorem own_ret (X : Stand p l e R s m args below meth c T locs cells slots) {v : Option Value} {g : JFrame} (hv : meth.sig.returnType = none → v = none) (hlocks : meth.locks = false)
    (st : ∀ fs, (∀ (f : JFrame) (acts : List Action), f.method = m → f.locked = none → f.entered = [] → (doReturn e (T.setTop f) acts v).1 = T.setFrames fs) → Steps p.tables e below (T.setTop g) (T.setFrames fs)) (hc : cells ≤ C) (hs : slots ≤ S) (q : Q v T.heap locs) :
    own_Ends p.tables e below (own_F s Q C S) (T.setTop g) := by
  obtain ⟨fs, hr, hrun, hended, hW, hsame⟩ := X.leave (v := v) hv hlocks
  exact ⟨_, _, st fs hr, hrun, hended, v, locs, rfl, q, ⟨_, rfl⟩, hW, hsame.mono hc hs⟩
theorem own_retV (X : Stand p l e R s m args below meth c T locs cells slots) (hx : p.tables.exec = Jvm.exec) (hret : meth.sig.returnType = none) (hlocks : meth.locks = false) {pc : Nat} {Ls : Array Slot} (hd : decode c.code pc = .ok (.return_, 1)) (hc : cells ≤ C) (hs : slots ≤ S) (q : Q none T.heap locs) :
    own_Ends p.tables e below (own_F s Q C S) (T.setTop (mkF m pc Ls [])) :=
  own_ret X (fun _ => rfl) hlocks (fun fs hr => X.returnOut hx hret hd hr) hc hs q
theorem own_retZ (X : Stand p l e R s m args below meth c T locs cells slots) (hx : p.tables.exec = Jvm.exec) (hret : meth.sig.returnType = some .boolean) (hlocks : meth.locks = false) {pc : Nat} {Ls : Array Slot} {z : Int32} {rest : List Value} (hz : nar .boolean z = z) (hd : decode c.code pc = .ok (.ireturn, 1)) (hc : cells ≤ C) (hs : slots ≤ S) (q : Q (some (.int z)) T.heap locs) :
    own_Ends p.tables e below (own_F s Q C S) (T.setTop (mkF m pc Ls (.int z :: rest))) :=
  own_ret X (v := some (.int z)) (fun q => by rw [hret] at q; cases q) hlocks (fun fs hr => retN X hx (t := .boolean) hret (by simp) hd (by rw [hz]; exact hr)) hc hs q
theorem own_retI (X : Stand p l e R s m args below meth c T locs cells slots) (hx : p.tables.exec = Jvm.exec) (hret : meth.sig.returnType = some .int) (hlocks : meth.locks = false) {pc : Nat} {Ls : Array Slot} {z : Int32} {rest : List Value} (hd : decode c.code pc = .ok (.ireturn, 1)) (hc : cells ≤ C) (hs : slots ≤ S) (q : Q (some (.int z)) T.heap locs) :
    own_Ends p.tables e below (own_F s Q C S) (T.setTop (mkF m pc Ls (.int z :: rest))) :=
  own_ret X (v := some (.int z)) (fun q => by rw [hret] at q; cases q) hlocks (fun fs hr => retOut X hx hret rfl (Or.inl ⟨rfl, Or.inl rfl, _, rfl⟩) hd hr) hc hs q
theorem own_retJ (X : Stand p l e R s m args below meth c T locs cells slots) (hx : p.tables.exec = Jvm.exec) (hret : meth.sig.returnType = some .long) (hlocks : meth.locks = false) {pc : Nat} {Ls : Array Slot} {z : Int64} {rest : List Value} (hd : decode c.code pc = .ok (.lreturn, 1)) (hc : cells ≤ C) (hs : slots ≤ S) (q : Q (some (.long z)) T.heap locs) :
    own_Ends p.tables e below (own_F s Q C S) (T.setTop (mkF m pc Ls (.long z :: rest))) :=
  own_ret X (v := some (.long z)) (fun q => by rw [hret] at q; cases q) hlocks (fun fs hr => retOut X hx hret rfl (Or.inr (Or.inl ⟨rfl, rfl, _, rfl⟩)) hd hr) hc hs q
theorem own_retD (X : Stand p l e R s m args below meth c T locs cells slots) (hx : p.tables.exec = Jvm.exec) (hret : meth.sig.returnType = some .double) (hlocks : meth.locks = false) {pc : Nat} {Ls : Array Slot} {z : UInt64} {rest : List Value} (hd : decode c.code pc = .ok (.dreturn, 1)) (hc : cells ≤ C) (hs : slots ≤ S) (q : Q (some (.double z)) T.heap locs) :
    own_Ends p.tables e below (own_F s Q C S) (T.setTop (mkF m pc Ls (.double z :: rest))) :=
  own_ret X (v := some (.double z)) (fun q => by rw [hret] at q; cases q) hlocks (fun fs hr => retOut X hx hret rfl (Or.inr (Or.inr (Or.inl ⟨rfl, rfl, _, rfl⟩))) hd hr) hc hs q
theorem own_retA (X : Stand p l e R s m args below meth c T locs cells slots) (hx : p.tables.exec = Jvm.exec) {t : FieldType} (hret : meth.sig.returnType = some t) (hlocks : meth.locks = false) {pc : Nat} {Ls : Array Slot} {w : Value} {rest : List Value} (hd : decode c.code pc = .ok (.areturn, 1)) (ht : t.isReference = true) (hw : w.isRef = true) (hc : cells ≤ C) (hs : slots ≤ S) (q : Q (some w) T.heap locs) :
    own_Ends p.tables e below (own_F s Q C S) (T.setTop (mkF m pc Ls (w :: rest))) :=
  own_ret X (v := some w) (fun q => by rw [hret] at q; cases q) hlocks (fun fs hr => retOut X hx hret (by cases t <;> first | (cases ht; done) | (cases w <;> first | (cases hw; done) | rfl)) (Or.inr (Or.inr (Or.inr (Or.inr ⟨rfl, ht, hw⟩)))) hd hr) hc hs q
theorem own_special (X : Stand p l e R s m args below meth c T locs cells slots) (hx : p.tables.exec = Jvm.exec) (hZ : Z.Warmed39 s.vm) {own : String} {index : Nat} {y : MethodName} (hy1 : y.name = "<init>") (hown : s.vm.findClass own = some m.cls)
    (w1 : (Jvm.Cond.methodLink own index y).before a0 Z = true) (w2 : (Jvm.Cond.instanceMethod y).before a0 Z = true) {bytes : ByteArray} {maxL : Nat} (w3 : (Jvm.Cond.code y bytes maxL none).before a0 Z = true) (w4 : (Jvm.Cond.initialized y.cls).before a0 Z = true)
    (hy : y.cls ≠ "java/lang/invoke/MethodHandle" ∧ y.cls ≠ "java/lang/invoke/VarHandle") {rm : Room} {a : Addr} {argsL rest : List Value}
    (K : own_Ctr l Z y bytes maxL none [] rm (.ref a :: argsL).toArray h Q) (eT : T.heap = h) {g : JFrame} (hg : g.method = m) (hsize : g.locals.size = c.maxLocals)
    (hlen : ∀ sig, parseMethodDescriptor y.desc = some sig → argsL.length = sig.parameters.length) (hst : g.stack = argsL.reverse ++ .ref a :: rest) {W : Nat} (hW : 2 * g.monitorRoom + (rest.map fun v => v.category).sum ≤ W)
    (hd : decode c.code g.pc = .ok (.invokespecial index, 3)) (hf : rm.frames + 1 ≤ R.frames) (hlo : W + (maxL + 11) + rm.locals ≤ R.locals) (hc : cells + rm.cells ≤ R.cells) (hs : slots + rm.slots ≤ R.slots) :
    ∃ T' L v, Stand p l e R s m args below meth c T' (locs ++ L) (cells + rm.cells) (slots + rm.slots) ∧ Q v T'.heap L ∧ ∀ target, Steps p.tables e below (T'.setTop { g with pc := g.pc + 3, stack := v.toList ++ rest }) target → Steps p.tables e below (T.setTop g) target := by
  obtain ⟨v, _, ⟨T', L', k', n'⟩, -, X', ⟨L, hQ, l1, y1, z1⟩, st⟩ := X.specialBack hx (y := y) hy1 hown (mvT hZ w1) (mvT hZ w2) (mvT hZ w3) hy (backOf (W := W) K hZ w3 w4 hf hlo) (g := g) hg hsize (Steps.refl _) (a := a) (argsL := argsL) (rest := rest) hlen hst hW hd (fun _ _ => ⟨rfl, eT, hc, hs⟩)
  dsimp only [Pt.U, Pt.locs, Pt.cells, Pt.slots] at X' l1 y1 z1 st hQ
  subst l1 y1 z1
  exact ⟨T', L, v, X', hQ, fun t k => st.trans k⟩
theorem own_static (X : Stand p l e R s m args below meth c T locs cells slots) (hx : p.tables.exec = Jvm.exec) (hZ : Z.Warmed39 s.vm) {own : String} {index : Nat} {y : MethodName} (hown : s.vm.findClass own = some m.cls)
    (w1 : (Jvm.Cond.methodLink own index y).before a0 Z = true) (w2 : (Jvm.Cond.static y).before a0 Z = true) (w4 : (Jvm.Cond.initialized y.cls).before a0 Z = true) {bytes : ByteArray} {maxL : Nat} {rt : Option FieldType} (w3 : (Jvm.Cond.code y bytes maxL rt).before a0 Z = true)
    (hy : y.cls ≠ "java/lang/invoke/MethodHandle" ∧ y.cls ≠ "java/lang/invoke/VarHandle") {rm : Room} {argsL rest : List Value}
    (K : own_Ctr l Z y bytes maxL rt [] rm argsL.toArray h Q) (eT : T.heap = h) {g : JFrame} (hg : g.method = m) (hsize : g.locals.size = c.maxLocals)
    (hlen : ∀ sig, parseMethodDescriptor y.desc = some sig → argsL.length = sig.parameters.length) (hst : g.stack = argsL.reverse ++ rest) {W : Nat} (hW : 2 * g.monitorRoom + (rest.map fun v => v.category).sum ≤ W)
    (hd : decode c.code g.pc = .ok (.invokestatic index, 3)) (hf : rm.frames + 1 ≤ R.frames) (hlo : W + (maxL + 11) + rm.locals ≤ R.locals) (hc : cells + rm.cells ≤ R.cells) (hs : slots + rm.slots ≤ R.slots) :
    ∃ T' L v, Stand p l e R s m args below meth c T' (locs ++ L) (cells + rm.cells) (slots + rm.slots) ∧ Q v T'.heap L ∧ ∀ target, Steps p.tables e below (T'.setTop { g with pc := g.pc + 3, stack := v.toList ++ rest }) target → Steps p.tables e below (T.setTop g) target := by
  obtain ⟨v, _, ⟨T', L', k', n'⟩, -, X', ⟨L, hQ, l1, y1, z1⟩, st⟩ := Jvm.LawKit.callS X hx (y := y) hown (mvT hZ w1) (mvT hZ w2) (mvT hZ w4) (mvT hZ w3) hy (backOf (W := W) K hZ w3 w4 hf hlo) (g := g) hg hsize (argsL := argsL) (rest := rest) hlen hst hW hd (fun _ _ => ⟨rfl, eT, hc, hs⟩)
  dsimp only [Pt.U, Pt.locs, Pt.cells, Pt.slots] at X' l1 y1 z1 st hQ
  subst l1 y1 z1
  exact ⟨T', L, v, X', hQ, st⟩
theorem own_virtual (X : Stand p l e R s m args below meth c T locs cells slots) (hx : p.tables.exec = Jvm.exec) (hZ : Z.Warmed39 s.vm) {own : String} {index : Nat} {y : MethodName} (hown : s.vm.findClass own = some m.cls)
    (w1 : (Jvm.Cond.methodLink own index y).before a0 Z = true) (w2 : (Jvm.Cond.declares y).before a0 Z = true) (w5 : (Jvm.Cond.selects y.cls y y).before a0 Z = true) (w6 : (Jvm.Cond.instanceMethod y).before a0 Z = true) {bytes : ByteArray} {maxL : Nat} {rt : Option FieldType} (w3 : (Jvm.Cond.code y bytes maxL rt).before a0 Z = true) (w4 : (Jvm.Cond.initialized y.cls).before a0 Z = true)
    (hy : y.cls ≠ "java/lang/invoke/MethodHandle" ∧ y.cls ≠ "java/lang/invoke/VarHandle") {rm : Room} {a : Addr} {argsL rest : List Value} (E : Exa Z h a y.cls)
    (K : own_Ctr l Z y bytes maxL rt [] rm (.ref a :: argsL).toArray h Q) (eT : T.heap = h) {g : JFrame} (hg : g.method = m) (hsize : g.locals.size = c.maxLocals)
    (hlen : ∀ sig, parseMethodDescriptor y.desc = some sig → argsL.length = sig.parameters.length) (hst : g.stack = argsL.reverse ++ .ref a :: rest) {W : Nat} (hW : 2 * g.monitorRoom + (rest.map fun v => v.category).sum ≤ W)
    (hd : decode c.code g.pc = .ok (.invokevirtual index, 3)) (hf : rm.frames + 1 ≤ R.frames) (hlo : W + (maxL + 11) + rm.locals ≤ R.locals) (hc : cells + rm.cells ≤ R.cells) (hs : slots + rm.slots ≤ R.slots) :
    ∃ T' L v, Stand p l e R s m args below meth c T' (locs ++ L) (cells + rm.cells) (slots + rm.slots) ∧ Q v T'.heap L ∧ ∀ target, Steps p.tables e below (T'.setTop { g with pc := g.pc + 3, stack := v.toList ++ rest }) target → Steps p.tables e below (T.setTop g) target := by
  obtain ⟨cq, kq, qa, qb, qc⟩ := isOf hZ eT E
  obtain ⟨v, _, ⟨T', L', k', n'⟩, -, X', ⟨L, hQ, l1, y1, z1⟩, st⟩ := X.virtualBack hx (y := y) (z := y) hown (mvT hZ w1) (mvT hZ w2) (notFace_of_selects (args := #[]) (mvT hZ w5)) (mvT hZ w5) (mvT hZ w6) hy (backOf (W := W) K hZ w3 w4 hf hlo) qa qc (g := g) hg hsize (Steps.refl _) (argsL := argsL) (rest := rest) hlen hst hW hd (fun _ _ => ⟨rfl, eT, hc, hs⟩)
  dsimp only [Pt.U, Pt.locs, Pt.cells, Pt.slots] at X' l1 y1 z1 st hQ
  subst l1 y1 z1
  exact ⟨T', L, v, X', hQ, fun t k => st.trans k⟩
/-- a field is still there behind a write, whatever it holds -/
theorem own_any {h h' : Heap} {a b : Addr} {sl : Nat} {v w : Value} {C0 n d : String} (W : Wr h h' a sl v) (F : Fld Z h b C0 n d w) : ∃ w', Fld Z h' b C0 n d w' := by
  obtain ⟨cell, cf, k, i, f, h1, h2, h3, h4, h5, h6, h7⟩ := F
  obtain ⟨c', e1, e2, e3, e4, -⟩ := wr_at W h1
  have hl := (Array.getElem?_eq_some_iff.mp h7).1
  exact ⟨_, c', cf, k, i, f, e1, h2, h3, by rw [e3]; exact h4, by rw [e3]; exact h5, by rw [e2]; exact h6, Array.getElem?_eq_getElem (by rw [e4]; exact hl)⟩
end OwnBase
theorem d1_0 : decode prog_4_method_1_code 0 = .ok (.aload_n 0, 1) := by decide +kernel
theorem d1_1 : decode prog_4_method_1_code 1 = .ok (.invokespecial 3, 3) := by decide +kernel
theorem d1_4 : decode prog_4_method_1_code 4 = .ok (.aload_n 0, 1) := by decide +kernel
theorem d1_5 : decode prog_4_method_1_code 5 = .ok (.dload_n 1, 1) := by decide +kernel
theorem d1_6 : decode prog_4_method_1_code 6 = .ok (.putfield 9, 3) := by decide +kernel
theorem d1_9 : decode prog_4_method_1_code 9 = .ok (.aload_n 0, 1) := by decide +kernel
theorem d1_10 : decode prog_4_method_1_code 10 = .ok (.dload_n 3, 1) := by decide +kernel
theorem d1_11 : decode prog_4_method_1_code 11 = .ok (.putfield 15, 3) := by decide +kernel
theorem d1_14 : decode prog_4_method_1_code 14 = .ok (.return_, 1) := by decide +kernel
theorem pn_d1 : plainName "com/example/rappen/rappen/BlankField" = true := by first | (simp [plainName, overriddenIn]; done) | decide +kernel
theorem pd_d1 : parseMethodDescriptor "(DD)V" = some ⟨[.double, .double], none⟩ := by decide +kernel
theorem d2_0 : decode jdk_30_method_1_code 0 = .ok (.aload_n 0, 1) := by decide +kernel
theorem d2_1 : decode jdk_30_method_1_code 1 = .ok (.invokespecial 1, 3) := by decide +kernel
theorem d2_4 : decode jdk_30_method_1_code 4 = .ok (.return_, 1) := by decide +kernel
theorem pn_d2 : plainName "java/lang/Record" = true := by first | (simp [plainName, overriddenIn]; done) | decide +kernel
theorem pd_d2 : parseMethodDescriptor "()V" = some ⟨[], none⟩ := by decide +kernel
theorem d4_0 : decode prog_41_method_1_code 0 = .ok (.aload_n 0, 1) := by decide +kernel
theorem d4_1 : decode prog_41_method_1_code 1 = .ok (.invokespecial 1, 3) := by decide +kernel
theorem d4_4 : decode prog_41_method_1_code 4 = .ok (.aload_n 0, 1) := by decide +kernel
theorem d4_5 : decode prog_41_method_1_code 5 = .ok (.dload_n 1, 1) := by decide +kernel
theorem d4_6 : decode prog_41_method_1_code 6 = .ok (.putfield 7, 3) := by decide +kernel
theorem d4_9 : decode prog_41_method_1_code 9 = .ok (.aload_n 0, 1) := by decide +kernel
theorem d4_10 : decode prog_41_method_1_code 10 = .ok (.dload_n 3, 1) := by decide +kernel
theorem d4_11 : decode prog_41_method_1_code 11 = .ok (.putfield 13, 3) := by decide +kernel
theorem d4_14 : decode prog_41_method_1_code 14 = .ok (.aload_n 0, 1) := by decide +kernel
theorem d4_15 : decode prog_41_method_1_code 15 = .ok (.iload 5, 2) := by decide +kernel
theorem d4_17 : decode prog_41_method_1_code 17 = .ok (.putfield 16, 3) := by decide +kernel
theorem d4_20 : decode prog_41_method_1_code 20 = .ok (.aload_n 0, 1) := by decide +kernel
theorem d4_21 : decode prog_41_method_1_code 21 = .ok (.aload 6, 2) := by decide +kernel
theorem d4_23 : decode prog_41_method_1_code 23 = .ok (.putfield 20, 3) := by decide +kernel
theorem d4_26 : decode prog_41_method_1_code 26 = .ok (.aload_n 0, 1) := by decide +kernel
theorem d4_27 : decode prog_41_method_1_code 27 = .ok (.aload 7, 2) := by decide +kernel
theorem d4_29 : decode prog_41_method_1_code 29 = .ok (.putfield 24, 3) := by decide +kernel
theorem d4_32 : decode prog_41_method_1_code 32 = .ok (.return_, 1) := by decide +kernel
theorem pn_d4 : plainName "com/example/rappen/rappen/PartLayout" = true := by first | (simp [plainName, overriddenIn]; done) | decide +kernel
theorem pd_d4 : parseMethodDescriptor "(DDZLcom/example/rappen/rappen/BlankField;Lcom/example/rappen/rappen/BlankField;)V" = some ⟨[.double, .double, .boolean, (.object "com/example/rappen/rappen/BlankField"), (.object "com/example/rappen/rappen/BlankField")], none⟩ := by decide +kernel
theorem d5_0 : decode prog_41_method_5_code 0 = .ok (.ldc2_w 90, 3) := by decide +kernel
theorem d5_3 : decode prog_41_method_5_code 3 = .ok (.dload_n 1, 1) := by decide +kernel
theorem d5_4 : decode prog_41_method_5_code 4 = .ok (.ldc2_w 92, 3) := by decide +kernel
theorem d5_7 : decode prog_41_method_5_code 7 = .ok (.dsub, 1) := by decide +kernel
theorem d5_8 : decode prog_41_method_5_code 8 = .ok (.invokestatic 94, 3) := by decide +kernel
theorem d5_11 : decode prog_41_method_5_code 11 = .ok (.dreturn, 1) := by decide +kernel
theorem pn_d5 : plainName "com/example/rappen/rappen/PartLayout" = true := by first | (simp [plainName, overriddenIn]; done) | decide +kernel
theorem pd_d5 : parseMethodDescriptor "(D)D" = some ⟨[.double], some .double⟩ := by decide +kernel
theorem pd_d6 : parseMethodDescriptor "(DD)D" = some ⟨[.double, .double], some .double⟩ := by decide +kernel
theorem pn_at : plainName "com/example/rappen/rappen/PartLayoutHeadingSizePinLaw" = true := by first | (simp [plainName, overriddenIn]; done) | decide +kernel
theorem ef_rm_rec (m : MethodId) (x0 : Addr) : entryFrame m #[(.ref x0)] 1 = mkF m 0 #[.val (.ref x0)] [] := by first | (simp [entryFrame, mkF, argsToLocals, Value.category]; done) | rfl
set_option maxRecDepth 65536 in
set_option maxHeartbeats 40000000 in
theorem rm_rec (l : Launch) (Z : State) (a0 : Array Value) (hw : ∀ d ∈ tables_1, d.before a0 Z = true) (ws : List Jvm.Cond) (a1 : Addr) (h0 : Heap) (n0 : Nat) (Z0 : n0 ≤ h0.size)  :
    own_Ctr l Z (⟨"java/lang/Record", "<init>", "()V"⟩ : MethodName) jdk_30_method_1_code 1 none ws ({ frames := 1, cells := 0, slots := 0, locals := 12 } : Room) #[(.ref a1)] h0 (fun v h L => v = none ∧ Fr n0 L ∧ h = h0) := by
  refine own_enter (plainFor_of_name pn_d2) ?_
  intro p e s m below meth c s₁ Bd hZ hml X0 e0
  have hx := Bd.exec
  have hby := Bd.bytes
  have hown : s.vm.findClass "java/lang/Record" = some m.cls := findClass_of_methodNamed Bd.named
  have hnm := (name_of_methodNamed Bd.named Bd.method).1
  have N0 := Fr.nil n0
  refine own_go (t' := s₁.setTop (mkF m 0 #[.val (.ref a1)] [])) (fun _ k => castTop (ef_rm_rec m a1) k) ?_
  refine own_go (t' := s₁.setTop (mkF m 1 #[.val (.ref a1)] [(.ref a1)])) (fun _ k => XS.aloadN X0.here hx rfl (hb hby d2_0) rfl rfl k) ?_
  obtain ⟨T1, X1, e1, st1⟩ := initO X0 hx hZ hown (hw _ (List.mem_of_getElem? (i := 12) rfl)) (hw _ (List.mem_of_getElem? (i := 13) rfl)) (hw _ (List.mem_of_getElem? (i := 14) rfl)) e0 (g := (mkF m 1 #[.val (.ref a1)] [(.ref a1)])) rfl (by rw [hml]; rfl) rfl (hb hby d2_1) (by decide) (W := 0) (by show 2 * 0 + _ ≤ _; exact Nat.le_of_eq rfl) (by decide)
  refine own_go (t' := T1.setTop (mkF m 4 #[.val (.ref a1)] [])) st1 ?_
  exact own_retV X1 hx Bd.returns (BodyLoose.notSynchronized Bd) (hb hby d2_4) (by decide) (by decide) ⟨rfl, N0, e1⟩
theorem ef_rm_bf (m : MethodId) (x0 : Addr) (x1 : UInt64) (x2 : UInt64) : entryFrame m #[(.ref x0), (.double x1), (.double x2)] 5 = mkF m 0 #[.val (.ref x0), .val (.double x1), .second, .val (.double x2), .second] [] := by first | (simp [entryFrame, mkF, argsToLocals, Value.category]; done) | rfl
set_option maxRecDepth 65536 in
set_option maxHeartbeats 40000000 in
theorem rm_bf (l : Launch) (Z : State) (a0 : Array Value) (hw : ∀ d ∈ tables_1, d.before a0 Z = true) (ws : List Jvm.Cond) (a1 : Addr) (p2 p3 : UInt64) (u0 u1 : Value) (h0 : Heap) (n0 : Nat) (Z0 : n0 ≤ h0.size) (E0 : Exa Z h0 a1 "com/example/rappen/rappen/BlankField") (F0_0 : Fld Z h0 a1 "com/example/rappen/rappen/BlankField" "width" "D" u0) (F1_0 : Fld Z h0 a1 "com/example/rappen/rappen/BlankField" "height" "D" u1) (g1 : n0 ≤ a1) :
    own_Ctr l Z (⟨"com/example/rappen/rappen/BlankField", "<init>", "(DD)V"⟩ : MethodName) prog_4_method_1_code 5 none ws ({ frames := 2, cells := 0, slots := 0, locals := 24 } : Room) #[(.ref a1), (.double p2), (.double p3)] h0 (fun v h L => v = none ∧ Fr n0 L ∧ Keep h0 h [a1] ∧ Exa Z h a1 "com/example/rappen/rappen/BlankField") := by
  refine own_enter (plainFor_of_name pn_d1) ?_
  intro p e s m below meth c s₁ Bd hZ hml X0 e0
  have hx := Bd.exec
  have hby := Bd.bytes
  have hown : s.vm.findClass "com/example/rappen/rappen/BlankField" = some m.cls := findClass_of_methodNamed Bd.named
  have hnm := (name_of_methodNamed Bd.named Bd.method).1
  have N0 := Fr.nil n0
  refine own_go (t' := s₁.setTop (mkF m 0 #[.val (.ref a1), .val (.double p2), .second, .val (.double p3), .second] [])) (fun _ k => castTop (ef_rm_bf m a1 p2 p3) k) ?_
  refine own_go (t' := s₁.setTop (mkF m 1 #[.val (.ref a1), .val (.double p2), .second, .val (.double p3), .second] [(.ref a1)])) (fun _ k => XS.aloadN X0.here hx rfl (hb hby d1_0) rfl rfl k) ?_
  obtain ⟨T1, L1, v1, X1, hQ1, st1⟩ := own_special X0 hx hZ (y := (⟨"java/lang/Record", "<init>", "()V"⟩ : MethodName)) rfl hown (hw _ (List.mem_of_getElem? (i := 7) rfl)) (hw _ (List.mem_of_getElem? (i := 8) rfl)) (hw _ (List.mem_of_getElem? (i := 11) rfl)) (hw _ (List.mem_of_getElem? (i := 10) rfl)) (by decide) (rm_rec l Z a0 hw [] a1 h0 n0 Z0) e0 (g := (mkF m 1 #[.val (.ref a1), .val (.double p2), .second, .val (.double p3), .second] [(.ref a1)])) rfl (by rw [hml]; rfl) (argsL := []) (rest := []) (lenOf pd_d2 rfl) rfl (W := 0) (by show 2 * 0 + _ ≤ _; exact Nat.le_of_eq rfl) (hb hby d1_1) (by decide) (by decide) (by decide) (by decide)
  obtain ⟨rfl, Nq1, e1⟩ := hQ1
  have N1 := Fr.app N0 Nq1
  refine own_go (t' := T1.setTop (mkF m 4 #[.val (.ref a1), .val (.double p2), .second, .val (.double p3), .second] [])) st1 ?_
  refine own_go (t' := T1.setTop (mkF m 5 #[.val (.ref a1), .val (.double p2), .second, .val (.double p3), .second] [(.ref a1)])) (fun _ k => XS.aloadN X1.here hx rfl (hb hby d1_4) rfl rfl k) ?_
  refine own_go (t' := T1.setTop (mkF m 6 #[.val (.ref a1), .val (.double p2), .second, .val (.double p3), .second] [(.double p2), (.ref a1)])) (fun _ k => XS.dloadN X1.here hx rfl (hb hby d1_5) rfl k) ?_
  obtain ⟨T2, h2, X2, e2, W2, st2⟩ := putF X1 hx hZ hown (host := "") (Or.inl (hw _ (List.mem_of_getElem? (i := 15) rfl))) Via.refl e1 F0_0 E0 (Or.inr ⟨(hw _ (List.mem_of_getElem? (i := 16) rfl)), rfl, hnm⟩) (hw _ (List.mem_of_getElem? (i := 2) rfl)) (ty := .double) (by decide) rfl rfl (g := (mkF m 6 #[.val (.ref a1), .val (.double p2), .second, .val (.double p3), .second] [(.double p2), (.ref a1)])) rfl rfl (hb hby d1_6)
  refine own_go (t' := T2.setTop (mkF m 9 #[.val (.ref a1), .val (.double p2), .second, .val (.double p3), .second] [])) st2 ?_
  have N2 := Fr.snoc X2 N1 g1
  have K2 : Keep h0 h2 [a1] := (Keep.refl _ _).wr W2 (Or.inl (List.mem_of_getElem? (i := 0) rfl))
  have Ex2 : Exa Z h2 a1 "com/example/rappen/rappen/BlankField" := E0.wr W2
  obtain ⟨u1_2, F1_2⟩ := own_any W2 F1_0
  refine own_go (t' := T2.setTop (mkF m 10 #[.val (.ref a1), .val (.double p2), .second, .val (.double p3), .second] [(.ref a1)])) (fun _ k => XS.aloadN X2.here hx rfl (hb hby d1_9) rfl rfl k) ?_
  refine own_go (t' := T2.setTop (mkF m 11 #[.val (.ref a1), .val (.double p2), .second, .val (.double p3), .second] [(.double p3), (.ref a1)])) (fun _ k => XS.dloadN X2.here hx rfl (hb hby d1_10) rfl k) ?_
  obtain ⟨T3, h3, X3, e3, W3, st3⟩ := putF X2 hx hZ hown (host := "") (Or.inl (hw _ (List.mem_of_getElem? (i := 17) rfl))) Via.refl e2 F1_2 Ex2 (Or.inr ⟨(hw _ (List.mem_of_getElem? (i := 18) rfl)), rfl, hnm⟩) (hw _ (List.mem_of_getElem? (i := 2) rfl)) (ty := .double) (by decide) rfl rfl (g := (mkF m 11 #[.val (.ref a1), .val (.double p2), .second, .val (.double p3), .second] [(.double p3), (.ref a1)])) rfl rfl (hb hby d1_11)
  refine own_go (t' := T3.setTop (mkF m 14 #[.val (.ref a1), .val (.double p2), .second, .val (.double p3), .second] [])) st3 ?_
  have N3 := Fr.snoc X3 N2 g1
  have K3 : Keep h0 h3 [a1] := K2.wr W3 (Or.inl (List.mem_of_getElem? (i := 0) rfl))
  have Ex3 : Exa Z h3 a1 "com/example/rappen/rappen/BlankField" := Ex2.wr W3
  exact own_retV X3 hx Bd.returns (BodyLoose.notSynchronized Bd) (hb hby d1_14) (by decide) (by decide) ⟨rfl, N3, by rw [e3]; exact K3, by rw [e3]; exact Ex3⟩
theorem ef_rm_pl (m : MethodId) (x0 : Addr) (x1 : UInt64) (x2 : UInt64) (x3 : Int32) (x4 : Addr) (x5 : Addr) : entryFrame m #[(.ref x0), (.double x1), (.double x2), (.int x3), (.ref x4), (.ref x5)] 8 = mkF m 0 #[.val (.ref x0), .val (.double x1), .second, .val (.double x2), .second, .val (.int x3), .val (.ref x4), .val (.ref x5)] [] := by first | (simp [entryFrame, mkF, argsToLocals, Value.category]; done) | rfl
set_option maxRecDepth 65536 in
set_option maxHeartbeats 40000000 in
theorem rm_pl (l : Launch) (Z : State) (a0 : Array Value) (hw : ∀ d ∈ tables_1, d.before a0 Z = true) (ws : List Jvm.Cond) (a1 : Addr) (p2 p3 : UInt64) (z4 : Int32) (a5 a6 : Addr) (u0 u1 u2 u3 u4 : Value) (h0 : Heap) (n0 : Nat) (Z0 : n0 ≤ h0.size) (E0 : Exa Z h0 a1 "com/example/rappen/rappen/PartLayout") (F0_0 : Fld Z h0 a1 "com/example/rappen/rappen/PartLayout" "largestValueSize" "D" u0) (F1_0 : Fld Z h0 a1 "com/example/rappen/rappen/PartLayout" "smallestValueSize" "D" u1) (F2_0 : Fld Z h0 a1 "com/example/rappen/rappen/PartLayout" "leavesOutStreets" "Z" u2) (F3_0 : Fld Z h0 a1 "com/example/rappen/rappen/PartLayout" "amountField" "Lcom/example/rappen/rappen/BlankField;" u3) (F4_0 : Fld Z h0 a1 "com/example/rappen/rappen/PartLayout" "debtorField" "Lcom/example/rappen/rappen/BlankField;" u4) (g1 : n0 ≤ a1) (hz : z4 = 0 ∨ z4 = 1) :
    own_Ctr l Z (⟨"com/example/rappen/rappen/PartLayout", "<init>", "(DDZLcom/example/rappen/rappen/BlankField;Lcom/example/rappen/rappen/BlankField;)V"⟩ : MethodName) prog_41_method_1_code 8 none ws ({ frames := 2, cells := 0, slots := 0, locals := 24 } : Room) #[(.ref a1), (.double p2), (.double p3), (.int z4), (.ref a5), (.ref a6)] h0 (fun v h L => v = none ∧ Fr n0 L ∧ Keep h0 h [a1] ∧ Exa Z h a1 "com/example/rappen/rappen/PartLayout") := by
  refine own_enter (plainFor_of_name pn_d4) ?_
  intro p e s m below meth c s₁ Bd hZ hml X0 e0
  have hx := Bd.exec
  have hby := Bd.bytes
  have hown : s.vm.findClass "com/example/rappen/rappen/PartLayout" = some m.cls := findClass_of_methodNamed Bd.named
  have hnm := (name_of_methodNamed Bd.named Bd.method).1
  have N0 := Fr.nil n0
  refine own_go (t' := s₁.setTop (mkF m 0 #[.val (.ref a1), .val (.double p2), .second, .val (.double p3), .second, .val (.int z4), .val (.ref a5), .val (.ref a6)] [])) (fun _ k => castTop (ef_rm_pl m a1 p2 p3 z4 a5 a6) k) ?_
  refine own_go (t' := s₁.setTop (mkF m 1 #[.val (.ref a1), .val (.double p2), .second, .val (.double p3), .second, .val (.int z4), .val (.ref a5), .val (.ref a6)] [(.ref a1)])) (fun _ k => XS.aloadN X0.here hx rfl (hb hby d4_0) rfl rfl k) ?_
  obtain ⟨T1, L1, v1, X1, hQ1, st1⟩ := own_special X0 hx hZ (y := (⟨"java/lang/Record", "<init>", "()V"⟩ : MethodName)) rfl hown (hw _ (List.mem_of_getElem? (i := 25) rfl)) (hw _ (List.mem_of_getElem? (i := 8) rfl)) (hw _ (List.mem_of_getElem? (i := 11) rfl)) (hw _ (List.mem_of_getElem? (i := 10) rfl)) (by decide) (rm_rec l Z a0 hw [] a1 h0 n0 Z0) e0 (g := (mkF m 1 #[.val (.ref a1), .val (.double p2), .second, .val (.double p3), .second, .val (.int z4), .val (.ref a5), .val (.ref a6)] [(.ref a1)])) rfl (by rw [hml]; rfl) (argsL := []) (rest := []) (lenOf pd_d2 rfl) rfl (W := 0) (by show 2 * 0 + _ ≤ _; exact Nat.le_of_eq rfl) (hb hby d4_1) (by decide) (by decide) (by decide) (by decide)
  obtain ⟨rfl, Nq1, e1⟩ := hQ1
  have N1 := Fr.app N0 Nq1
  refine own_go (t' := T1.setTop (mkF m 4 #[.val (.ref a1), .val (.double p2), .second, .val (.double p3), .second, .val (.int z4), .val (.ref a5), .val (.ref a6)] [])) st1 ?_
  refine own_go (t' := T1.setTop (mkF m 5 #[.val (.ref a1), .val (.double p2), .second, .val (.double p3), .second, .val (.int z4), .val (.ref a5), .val (.ref a6)] [(.ref a1)])) (fun _ k => XS.aloadN X1.here hx rfl (hb hby d4_4) rfl rfl k) ?_
  refine own_go (t' := T1.setTop (mkF m 6 #[.val (.ref a1), .val (.double p2), .second, .val (.double p3), .second, .val (.int z4), .val (.ref a5), .val (.ref a6)] [(.double p2), (.ref a1)])) (fun _ k => XS.dloadN X1.here hx rfl (hb hby d4_5) rfl k) ?_
  obtain ⟨T2, h2, X2, e2, W2, st2⟩ := putF X1 hx hZ hown (host := "") (Or.inl (hw _ (List.mem_of_getElem? (i := 26) rfl))) Via.refl e1 F0_0 E0 (Or.inr ⟨(hw _ (List.mem_of_getElem? (i := 27) rfl)), rfl, hnm⟩) (hw _ (List.mem_of_getElem? (i := 20) rfl)) (ty := .double) (by decide) rfl rfl (g := (mkF m 6 #[.val (.ref a1), .val (.double p2), .second, .val (.double p3), .second, .val (.int z4), .val (.ref a5), .val (.ref a6)] [(.double p2), (.ref a1)])) rfl rfl (hb hby d4_6)
  refine own_go (t' := T2.setTop (mkF m 9 #[.val (.ref a1), .val (.double p2), .second, .val (.double p3), .second, .val (.int z4), .val (.ref a5), .val (.ref a6)] [])) st2 ?_
  have N2 := Fr.snoc X2 N1 g1
  have K2 : Keep h0 h2 [a1] := (Keep.refl _ _).wr W2 (Or.inl (List.mem_of_getElem? (i := 0) rfl))
  have Ex2 : Exa Z h2 a1 "com/example/rappen/rappen/PartLayout" := E0.wr W2
  obtain ⟨u1_2, F1_2⟩ := own_any W2 F1_0
  obtain ⟨u2_2, F2_2⟩ := own_any W2 F2_0
  obtain ⟨u3_2, F3_2⟩ := own_any W2 F3_0
  obtain ⟨u4_2, F4_2⟩ := own_any W2 F4_0
  refine own_go (t' := T2.setTop (mkF m 10 #[.val (.ref a1), .val (.double p2), .second, .val (.double p3), .second, .val (.int z4), .val (.ref a5), .val (.ref a6)] [(.ref a1)])) (fun _ k => XS.aloadN X2.here hx rfl (hb hby d4_9) rfl rfl k) ?_
  refine own_go (t' := T2.setTop (mkF m 11 #[.val (.ref a1), .val (.double p2), .second, .val (.double p3), .second, .val (.int z4), .val (.ref a5), .val (.ref a6)] [(.double p3), (.ref a1)])) (fun _ k => XS.dloadN X2.here hx rfl (hb hby d4_10) rfl k) ?_
  obtain ⟨T3, h3, X3, e3, W3, st3⟩ := putF X2 hx hZ hown (host := "") (Or.inl (hw _ (List.mem_of_getElem? (i := 28) rfl))) Via.refl e2 F1_2 Ex2 (Or.inr ⟨(hw _ (List.mem_of_getElem? (i := 29) rfl)), rfl, hnm⟩) (hw _ (List.mem_of_getElem? (i := 20) rfl)) (ty := .double) (by decide) rfl rfl (g := (mkF m 11 #[.val (.ref a1), .val (.double p2), .second, .val (.double p3), .second, .val (.int z4), .val (.ref a5), .val (.ref a6)] [(.double p3), (.ref a1)])) rfl rfl (hb hby d4_11)
  refine own_go (t' := T3.setTop (mkF m 14 #[.val (.ref a1), .val (.double p2), .second, .val (.double p3), .second, .val (.int z4), .val (.ref a5), .val (.ref a6)] [])) st3 ?_
  have N3 := Fr.snoc X3 N2 g1
  have K3 : Keep h0 h3 [a1] := K2.wr W3 (Or.inl (List.mem_of_getElem? (i := 0) rfl))
  have Ex3 : Exa Z h3 a1 "com/example/rappen/rappen/PartLayout" := Ex2.wr W3
  obtain ⟨u2_3, F2_3⟩ := own_any W3 F2_2
  obtain ⟨u3_3, F3_3⟩ := own_any W3 F3_2
  obtain ⟨u4_3, F4_3⟩ := own_any W3 F4_2
  refine own_go (t' := T3.setTop (mkF m 15 #[.val (.ref a1), .val (.double p2), .second, .val (.double p3), .second, .val (.int z4), .val (.ref a5), .val (.ref a6)] [(.ref a1)])) (fun _ k => XS.aloadN X3.here hx rfl (hb hby d4_14) rfl rfl k) ?_
  refine own_go (t' := T3.setTop (mkF m 17 #[.val (.ref a1), .val (.double p2), .second, .val (.double p3), .second, .val (.int z4), .val (.ref a5), .val (.ref a6)] [(.int z4), (.ref a1)])) (fun _ k => XS.iload X3.here hx rfl (hb hby d4_15) rfl k) ?_
  obtain ⟨T4, h4, X4, e4, W4, st4⟩ := putF X3 hx hZ hown (host := "") (Or.inl (hw _ (List.mem_of_getElem? (i := 30) rfl))) Via.refl e3 F2_3 Ex3 (Or.inr ⟨(hw _ (List.mem_of_getElem? (i := 31) rfl)), rfl, hnm⟩) (hw _ (List.mem_of_getElem? (i := 20) rfl)) (ty := .boolean) (by decide) (by rcases hz with rfl | rfl <;> rfl) (by rcases hz with rfl | rfl <;> rfl) (g := (mkF m 17 #[.val (.ref a1), .val (.double p2), .second, .val (.double p3), .second, .val (.int z4), .val (.ref a5), .val (.ref a6)] [(.int z4), (.ref a1)])) rfl rfl (hb hby d4_17)
  refine own_go (t' := T4.setTop (mkF m 20 #[.val (.ref a1), .val (.double p2), .second, .val (.double p3), .second, .val (.int z4), .val (.ref a5), .val (.ref a6)] [])) st4 ?_
  have N4 := Fr.snoc X4 N3 g1
  have K4 : Keep h0 h4 [a1] := K3.wr W4 (Or.inl (List.mem_of_getElem? (i := 0) rfl))
  have Ex4 : Exa Z h4 a1 "com/example/rappen/rappen/PartLayout" := Ex3.wr W4
  obtain ⟨u3_4, F3_4⟩ := own_any W4 F3_3
  obtain ⟨u4_4, F4_4⟩ := own_any W4 F4_3
  refine own_go (t' := T4.setTop (mkF m 21 #[.val (.ref a1), .val (.double p2), .second, .val (.double p3), .second, .val (.int z4), .val (.ref a5), .val (.ref a6)] [(.ref a1)])) (fun _ k => XS.aloadN X4.here hx rfl (hb hby d4_20) rfl rfl k) ?_
  refine own_go (t' := T4.setTop (mkF m 23 #[.val (.ref a1), .val (.double p2), .second, .val (.double p3), .second, .val (.int z4), .val (.ref a5), .val (.ref a6)] [(.ref a5), (.ref a1)])) (fun _ k => XS.aload X4.here hx rfl (hb hby d4_21) rfl rfl k) ?_
  obtain ⟨T5, h5, X5, e5, W5, st5⟩ := putF X4 hx hZ hown (host := "") (Or.inl (hw _ (List.mem_of_getElem? (i := 32) rfl))) Via.refl e4 F3_4 Ex4 (Or.inr ⟨(hw _ (List.mem_of_getElem? (i := 33) rfl)), rfl, hnm⟩) (hw _ (List.mem_of_getElem? (i := 20) rfl)) (ty := (.object "com/example/rappen/rappen/BlankField")) (by decide) rfl rfl (g := (mkF m 23 #[.val (.ref a1), .val (.double p2), .second, .val (.double p3), .second, .val (.int z4), .val (.ref a5), .val (.ref a6)] [(.ref a5), (.ref a1)])) rfl rfl (hb hby d4_23)
  refine own_go (t' := T5.setTop (mkF m 26 #[.val (.ref a1), .val (.double p2), .second, .val (.double p3), .second, .val (.int z4), .val (.ref a5), .val (.ref a6)] [])) st5 ?_
  have N5 := Fr.snoc X5 N4 g1
  have K5 : Keep h0 h5 [a1] := K4.wr W5 (Or.inl (List.mem_of_getElem? (i := 0) rfl))
  have Ex5 : Exa Z h5 a1 "com/example/rappen/rappen/PartLayout" := Ex4.wr W5
  obtain ⟨u4_5, F4_5⟩ := own_any W5 F4_4
  refine own_go (t' := T5.setTop (mkF m 27 #[.val (.ref a1), .val (.double p2), .second, .val (.double p3), .second, .val (.int z4), .val (.ref a5), .val (.ref a6)] [(.ref a1)])) (fun _ k => XS.aloadN X5.here hx rfl (hb hby d4_26) rfl rfl k) ?_
  refine own_go (t' := T5.setTop (mkF m 29 #[.val (.ref a1), .val (.double p2), .second, .val (.double p3), .second, .val (.int z4), .val (.ref a5), .val (.ref a6)] [(.ref a6), (.ref a1)])) (fun _ k => XS.aload X5.here hx rfl (hb hby d4_27) rfl rfl k) ?_
  obtain ⟨T6, h6, X6, e6, W6, st6⟩ := putF X5 hx hZ hown (host := "") (Or.inl (hw _ (List.mem_of_getElem? (i := 34) rfl))) Via.refl e5 F4_5 Ex5 (Or.inr ⟨(hw _ (List.mem_of_getElem? (i := 35) rfl)), rfl, hnm⟩) (hw _ (List.mem_of_getElem? (i := 20) rfl)) (ty := (.object "com/example/rappen/rappen/BlankField")) (by decide) rfl rfl (g := (mkF m 29 #[.val (.ref a1), .val (.double p2), .second, .val (.double p3), .second, .val (.int z4), .val (.ref a5), .val (.ref a6)] [(.ref a6), (.ref a1)])) rfl rfl (hb hby d4_29)
  refine own_go (t' := T6.setTop (mkF m 32 #[.val (.ref a1), .val (.double p2), .second, .val (.double p3), .second, .val (.int z4), .val (.ref a5), .val (.ref a6)] [])) st6 ?_
  have N6 := Fr.snoc X6 N5 g1
  have K6 : Keep h0 h6 [a1] := K5.wr W6 (Or.inl (List.mem_of_getElem? (i := 0) rfl))
  have Ex6 : Exa Z h6 a1 "com/example/rappen/rappen/PartLayout" := Ex5.wr W6
  exact own_retV X6 hx Bd.returns (BodyLoose.notSynchronized Bd) (hb hby d4_32) (by decide) (by decide) ⟨rfl, N6, by rw [e6]; exact K6, by rw [e6]; exact Ex6⟩
theorem ef_rm_head (m : MethodId) (x0 : Addr) (x1 : UInt64) : entryFrame m #[(.ref x0), (.double x1)] 3 = mkF m 0 #[.val (.ref x0), .val (.double x1), .second] [] := by first | (simp [entryFrame, mkF, argsToLocals, Value.category]; done) | rfl
set_option maxRecDepth 65536 in
set_option maxHeartbeats 40000000 in
theorem rm_head (l : Launch) (Z : State) (a0 : Array Value) (hw : ∀ d ∈ tables_1, d.before a0 Z = true) (ws : List Jvm.Cond) (a1 : Addr) (p2 : UInt64) (h0 : Heap) (n0 : Nat) (Z0 : n0 ≤ h0.size) (hn : Jvm.Free.Fl.NoNaN64 (FP.dsub p2 (4611686018427387904 : UInt64))) :
    own_Ctr l Z (⟨"com/example/rappen/rappen/PartLayout", "headingSize", "(D)D"⟩ : MethodName) prog_41_method_5_code 3 (some .double) ws ({ frames := 1, cells := 0, slots := 0, locals := 15 } : Room) #[(.ref a1), (.double p2)] h0 (fun v h L => v = some (.double (Native.java_lang_Math.nans.pick64 true (4618441417868443648 : UInt64) (FP.dsub p2 (4611686018427387904 : UInt64)))) ∧ Fr n0 L ∧ h = h0) := by
  refine own_enter (plainFor_of_name pn_d5) ?_
  intro p e s m below meth c s₁ Bd hZ hml X0 e0
  have hx := Bd.exec
  have hby := Bd.bytes
  have hown : s.vm.findClass "com/example/rappen/rappen/PartLayout" = some m.cls := findClass_of_methodNamed Bd.named
  have hnm := (name_of_methodNamed Bd.named Bd.method).1
  have N0 := Fr.nil n0
  refine own_go (t' := s₁.setTop (mkF m 0 #[.val (.ref a1), .val (.double p2), .second] [])) (fun _ k => castTop (ef_rm_head m a1 p2) k) ?_
  refine own_go (t' := s₁.setTop (mkF m 3 #[.val (.ref a1), .val (.double p2), .second] [(.double (4618441417868443648 : UInt64))])) (X0.ldc2DoubleC hx (own := "com/example/rappen/rappen/PartLayout") (index := 90) (b := (4618441417868443648 : UInt64)) hown (mvT hZ (hw _ (List.mem_of_getElem? (i := 41) rfl))) (g := (mkF m 0 #[.val (.ref a1), .val (.double p2), .second] [])) rfl (hb hby d5_0)) ?_
  refine own_go (t' := s₁.setTop (mkF m 4 #[.val (.ref a1), .val (.double p2), .second] [(.double p2), (.double (4618441417868443648 : UInt64))])) (fun _ k => XS.dloadN X0.here hx rfl (hb hby d5_3) rfl k) ?_
  refine own_go (t' := s₁.setTop (mkF m 7 #[.val (.ref a1), .val (.double p2), .second] [(.double (4611686018427387904 : UInt64)), (.double p2), (.double (4618441417868443648 : UInt64))])) (X0.ldc2DoubleC hx (own := "com/example/rappen/rappen/PartLayout") (index := 92) (b := (4611686018427387904 : UInt64)) hown (mvT hZ (hw _ (List.mem_of_getElem? (i := 42) rfl))) (g := (mkF m 4 #[.val (.ref a1), .val (.double p2), .second] [(.double p2), (.double (4618441417868443648 : UInt64))])) rfl (hb hby d5_4)) ?_
  refine own_go (t' := s₁.setTop (mkF m 8 #[.val (.ref a1), .val (.double p2), .second] [(.double (FP.dsub p2 (4611686018427387904 : UInt64))), (.double (4618441417868443648 : UInt64))])) (fun _ k => XS.dsubS X0.here hx rfl (hb hby d5_7) rfl hn rfl k) ?_
  obtain ⟨T1, X1, e1, st1⟩ := natS X0 hx hZ (y := Jvm.Free.Fl.Abs.maxDN) hown (hw _ (List.mem_of_getElem? (i := 43) rfl)) (hw _ (List.mem_of_getElem? (i := 44) rfl)) (hw _ (List.mem_of_getElem? (i := 45) rfl)) (by0 := Jvm.Free.Fl.Abs.maxDCode) (ml := 4) (rt := some .double) (hw _ (List.mem_of_getElem? (i := 46) rfl)) (by decide) e0 (W := 0) (F := fun a' => a' = #[.double (4618441417868443648 : UInt64), .double (FP.dsub p2 (4611686018427387904 : UInt64))] ∧ Jvm.Free.Fl.NoNaN64 (4618441417868443648 : UInt64) ∧ Jvm.Free.Fl.NoNaN64 (FP.dsub p2 (4611686018427387904 : UInt64))) (fun hcode => Jvm.Free.Fl.Abs.maxD_pays _ _ hcode (by decide) (by decide)) (g := (mkF m 8 #[.val (.ref a1), .val (.double p2), .second] [(.double (FP.dsub p2 (4611686018427387904 : UInt64))), (.double (4618441417868443648 : UInt64))])) rfl (by rw [hml]; rfl) (argsL := [.double (4618441417868443648 : UInt64), .double (FP.dsub p2 (4611686018427387904 : UInt64))]) (rest := []) (lenOf pd_d6 rfl) rfl (by show 2 * 0 + _ ≤ _; exact Nat.le_of_eq rfl) (hb hby d5_8) (by decide) (by decide) ⟨rfl, OwnFp.no_nan (OwnFp.fin_nan OwnFp.fin_6), hn⟩ rfl
  refine own_go (t' := T1.setTop (mkF m 11 #[.val (.ref a1), .val (.double p2), .second] [(.double (Native.java_lang_Math.nans.pick64 true (4618441417868443648 : UInt64) (FP.dsub p2 (4611686018427387904 : UInt64))))])) st1 ?_
  exact own_retD X1 hx Bd.returns (BodyLoose.notSynchronized Bd) (hb hby d5_11) (by decide) (by decide) ⟨rfl, N0, e1⟩
theorem ef_rm_law (m : MethodId) (x0 : Int32) (x1 : Int32) (x2 : Int32) (x3 : Int32) (x4 : Int32) : entryFrame m #[(.int x0), (.int x1), (.int x2), (.int x3), (.int x4)] maxLocals = mkF m 0 #[.val (.int x0), .val (.int x1), .val (.int x2), .val (.int x3), .val (.int x4), .unset, .unset, .unset, .unset, .unset, .unset, .unset, .unset, .unset, .unset, .unset] [] := by first | (simp [entryFrame, mkF, argsToLocals, Value.category, maxLocals]; done) | rfl
set_option maxRecDepth 65536 in
set_option maxHeartbeats 40000000 in
theorem rm_law (l : Launch) (Z : State) (a0 : Array Value) (hw : ∀ d ∈ tables_1, d.before a0 Z = true) (ws : List Jvm.Cond) (p0 p1 p2 p3 p4 : Int32) (h0 : Heap) (n0 : Nat) (Z0 : n0 ≤ h0.size)  :
    own_Ctr l Z x code maxLocals ret ws room_1 #[(.int p0), (.int p1), (.int p2), (.int p3), (.int p4)] h0 (fun v h L => v = some (.int 1) ∧ Fr n0 L) := by
  refine own_enter (plainFor_of_name pn_at) ?_
  intro p e s m below meth c s₁ Bd hZ hml X0 e0
  have hx := Bd.exec
  have hby := Bd.bytes
  have hown : s.vm.findClass "com/example/rappen/rappen/PartLayoutHeadingSizePinLaw" = some m.cls := findClass_of_methodNamed Bd.named
  have hnm := (name_of_methodNamed Bd.named Bd.method).1
  have N0 := Fr.nil n0
  refine own_go (t' := s₁.setTop (mkF m 0 #[.val (.int p0), .val (.int p1), .val (.int p2), .val (.int p3), .val (.int p4), .unset, .unset, .unset, .unset, .unset, .unset, .unset, .unset, .unset, .unset, .unset] [])) (fun _ k => castTop (ef_rm_law m p0 p1 p2 p3 p4) k) ?_
  refine own_go (t' := s₁.setTop (mkF m 1 #[.val (.int p0), .val (.int p1), .val (.int p2), .val (.int p3), .val (.int p4), .unset, .unset, .unset, .unset, .unset, .unset, .unset, .unset, .unset, .unset, .unset] [(.int p1)])) (fun _ k => XS.iloadN X0.here hx rfl (hb hby at_0) rfl k) ?_
  refine own_go (t' := s₁.setTop (mkF m 2 #[.val (.int p0), .val (.int p1), .val (.int p2), .val (.int p3), .val (.int p4), .unset, .unset, .unset, .unset, .unset, .unset, .unset, .unset, .unset, .unset, .unset] [(.int (1 : Int32)), (.int p1)])) (fun _ k => XS.iconst X0.here hx rfl (hb hby at_1) k) ?_
  refine own_go (t' := s₁.setTop (mkF m 3 #[.val (.int p0), .val (.int p1), .val (.int p2), .val (.int p3), .val (.int p4), .unset, .unset, .unset, .unset, .unset, .unset, .unset, .unset, .unset, .unset, .unset] [(.int (p1 &&& (1 : Int32)))])) (fun _ k => XS.iand X0.here hx rfl (hb hby at_2) rfl k) ?_
  have J1 : ∀ z5 : Int32, (z5 = 0 ∨ z5 = 1) → own_Ends p.tables e below (own_F s (fun v h L => v = some (.int 1) ∧ Fr n0 L) room_1.cells room_1.slots) (s₁.setTop (mkF m 11 #[.val (.int p0), .val (.int p1), .val (.int p2), .val (.int p3), .val (.int p4), .unset, .unset, .unset, .unset, .unset, .unset, .unset, .unset, .unset, .unset, .unset] [(.int z5)])) := by
    intro z5 hz5
    refine own_go (t' := s₁.setTop (mkF m 13 #[.val (.int p0), .val (.int p1), .val (.int p2), .val (.int p3), .val (.int p4), .val (.int z5), .unset, .unset, .unset, .unset, .unset, .unset, .unset, .unset, .unset, .unset] [])) (fun _ k => XS.istore X0.here hx rfl (hb hby at_11) rfl (l' := #[.val (.int p0), .val (.int p1), .val (.int p2), .val (.int p3), .val (.int p4), .val (.int z5), .unset, .unset, .unset, .unset, .unset, .unset, .unset, .unset, .unset, .unset]) rfl k) ?_
    refine own_go (t' := s₁.setTop (mkF m 14 #[.val (.int p0), .val (.int p1), .val (.int p2), .val (.int p3), .val (.int p4), .val (.int z5), .unset, .unset, .unset, .unset, .unset, .unset, .unset, .unset, .unset, .unset] [(.int p1)])) (fun _ k => XS.iloadN X0.here hx rfl (hb hby at_13) rfl k) ?_
    refine own_go (t' := s₁.setTop (mkF m 15 #[.val (.int p0), .val (.int p1), .val (.int p2), .val (.int p3), .val (.int p4), .val (.int z5), .unset, .unset, .unset, .unset, .unset, .unset, .unset, .unset, .unset, .unset] [(.int (2 : Int32)), (.int p1)])) (fun _ k => XS.iconst X0.here hx rfl (hb hby at_14) k) ?_
    refine own_go (t' := s₁.setTop (mkF m 16 #[.val (.int p0), .val (.int p1), .val (.int p2), .val (.int p3), .val (.int p4), .val (.int z5), .unset, .unset, .unset, .unset, .unset, .unset, .unset, .unset, .unset, .unset] [(.int (p1 &&& (2 : Int32)))])) (fun _ k => XS.iand X0.here hx rfl (hb hby at_15) rfl k) ?_
    have J2 : ∀ z6 : Int32, (z6 = 0 ∨ z6 = 1) → own_Ends p.tables e below (own_F s (fun v h L => v = some (.int 1) ∧ Fr n0 L) room_1.cells room_1.slots) (s₁.setTop (mkF m 24 #[.val (.int p0), .val (.int p1), .val (.int p2), .val (.int p3), .val (.int p4), .val (.int z5), .unset, .unset, .unset, .unset, .unset, .unset, .unset, .unset, .unset, .unset] [(.int z6)])) := by
      intro z6 hz6
      refine own_go (t' := s₁.setTop (mkF m 26 #[.val (.int p0), .val (.int p1), .val (.int p2), .val (.int p3), .val (.int p4), .val (.int z5), .val (.int z6), .unset, .unset, .unset, .unset, .unset, .unset, .unset, .unset, .unset] [])) (fun _ k => XS.istore X0.here hx rfl (hb hby at_24) rfl (l' := #[.val (.int p0), .val (.int p1), .val (.int p2), .val (.int p3), .val (.int p4), .val (.int z5), .val (.int z6), .unset, .unset, .unset, .unset, .unset, .unset, .unset, .unset, .unset]) rfl k) ?_
      refine own_go (t' := s₁.setTop (mkF m 27 #[.val (.int p0), .val (.int p1), .val (.int p2), .val (.int p3), .val (.int p4), .val (.int z5), .val (.int z6), .unset, .unset, .unset, .unset, .unset, .unset, .unset, .unset, .unset] [(.int p0)])) (fun _ k => XS.iloadN X0.here hx rfl (hb hby at_26) rfl k) ?_
      refine own_go (t' := s₁.setTop (mkF m 28 #[.val (.int p0), .val (.int p1), .val (.int p2), .val (.int p3), .val (.int p4), .val (.int z5), .val (.int z6), .unset, .unset, .unset, .unset, .unset, .unset, .unset, .unset, .unset] [(.double (FP.i2d p0))])) (fun _ k => XS.i2dS X0.here hx rfl (hb hby at_27) rfl rfl k) ?_
      refine own_go (t' := s₁.setTop (mkF m 30 #[.val (.int p0), .val (.int p1), .val (.int p2), .val (.int p3), .val (.int p4), .val (.int z5), .val (.int z6), .unset, .unset, .unset, .unset, .unset, .unset, .unset, .unset, .unset] [(.int z5), (.double (FP.i2d p0))])) (fun _ k => XS.iload X0.here hx rfl (hb hby at_28) rfl k) ?_
      have J3 : ∀ hv : UInt64, (hv = 0 ∨ hv = 4602678819172646912) → own_Ends p.tables e below (own_F s (fun v h L => v = some (.int 1) ∧ Fr n0 L) room_1.cells room_1.slots) (s₁.setTop (mkF m 40 #[.val (.int p0), .val (.int p1), .val (.int p2), .val (.int p3), .val (.int p4), .val (.int z5), .val (.int z6), .unset, .unset, .unset, .unset, .unset, .unset, .unset, .unset, .unset] [(.double hv), (.double (FP.i2d p0))])) := by
        intro hv hh
        obtain ⟨fh, fv, fr, er⟩ := OwnFp.head_core p0 hh
        have hf := OwnFp.head_fin p0 hh
        refine own_go (t' := s₁.setTop (mkF m 41 #[.val (.int p0), .val (.int p1), .val (.int p2), .val (.int p3), .val (.int p4), .val (.int z5), .val (.int z6), .unset, .unset, .unset, .unset, .unset, .unset, .unset, .unset, .unset] [(.double (FP.dadd (FP.i2d p0) hv))])) (fun _ k => XS.daddS X0.here hx rfl (hb hby at_40) rfl (OwnFp.no_nan (OwnFp.fin_nan fv)) rfl k) ?_
        have fv : Jvm.FP.Core.DFin (FP.dadd (FP.i2d p0) hv) := fv
        have fr : Jvm.FP.Core.DFin (FP.dsub (FP.dadd (FP.i2d p0) hv) 4611686018427387904) := fr
        have hf : (cmpValue (FP.dcmp (FP.dadd (FP.i2d p0) hv) 4620693217682128896) CmpOp.g < 0 → cmpValue (FP.dcmp (Native.java_lang_Math.nans.pick64 true 4618441417868443648 (FP.dsub (FP.dadd (FP.i2d p0) hv) 4611686018427387904)) 4618441417868443648) CmpOp.l = 0) ∧ (¬ cmpValue (FP.dcmp (FP.dadd (FP.i2d p0) hv) 4620693217682128896) CmpOp.g < 0 → cmpValue (FP.dcmp (Native.java_lang_Math.nans.pick64 true 4618441417868443648 (FP.dsub (FP.dadd (FP.i2d p0) hv) 4611686018427387904)) (FP.dsub (FP.dadd (FP.i2d p0) hv) 4611686018427387904)) CmpOp.l = 0) := hf
        clear er
        generalize FP.dadd (FP.i2d p0) hv = v at fv fr hf ⊢
        refine own_go (t' := s₁.setTop (mkF m 43 #[.val (.int p0), .val (.int p1), .val (.int p2), .val (.int p3), .val (.int p4), .val (.int z5), .val (.int z6), .val (.double v), .second, .unset, .unset, .unset, .unset, .unset, .unset, .unset] [])) (fun _ k => XS.dstore X0.here hx rfl (hb hby at_41) rfl (l' := #[.val (.int p0), .val (.int p1), .val (.int p2), .val (.int p3), .val (.int p4), .val (.int z5), .val (.int z6), .val (.double v), .second, .unset, .unset, .unset, .unset, .unset, .unset, .unset]) rfl k) ?_
        obtain ⟨T1, h1, X1, e1, E1, A1, D1, -, st1⟩ := newO X0 hx hZ hown (hw _ (List.mem_of_getElem? (i := 1) rfl)) (hw _ (List.mem_of_getElem? (i := 2) rfl)) (hw _ (List.mem_of_getElem? (i := 3) rfl)) e0 (g := (mkF m 43 #[.val (.int p0), .val (.int p1), .val (.int p2), .val (.int p3), .val (.int p4), .val (.int z5), .val (.int z6), .val (.double v), .second, .unset, .unset, .unset, .unset, .unset, .unset, .unset] [])) rfl (hb hby at_43) (by decide) (by decide)
        obtain ⟨aA, g1⟩ : ∃ z, z = h0.size := ⟨_, rfl⟩
        rw [← g1] at A1 D1 st1
        refine own_go (t' := T1.setTop (mkF m 46 #[.val (.int p0), .val (.int p1), .val (.int p2), .val (.int p3), .val (.int p4), .val (.int z5), .val (.int z6), .val (.double v), .second, .unset, .unset, .unset, .unset, .unset, .unset, .unset] [(.ref aA)])) st1 ?_
        have Zn1 : n0 ≤ h1.size := Nat.le_trans Z0 E1.1
        refine own_go (t' := T1.setTop (mkF m 47 #[.val (.int p0), .val (.int p1), .val (.int p2), .val (.int p3), .val (.int p4), .val (.int z5), .val (.int z6), .val (.double v), .second, .unset, .unset, .unset, .unset, .unset, .unset, .unset] [(.ref aA), (.ref aA)])) (fun _ k => XS.dup X1.here hx rfl (hb hby at_46) rfl rfl k) ?_
        refine own_go (t' := T1.setTop (mkF m 49 #[.val (.int p0), .val (.int p1), .val (.int p2), .val (.int p3), .val (.int p4), .val (.int z5), .val (.int z6), .val (.double v), .second, .unset, .unset, .unset, .unset, .unset, .unset, .unset] [(.int p4), (.ref aA), (.ref aA)])) (fun _ k => XS.iload X1.here hx rfl (hb hby at_47) rfl k) ?_
        refine own_go (t' := T1.setTop (mkF m 51 #[.val (.int p0), .val (.int p1), .val (.int p2), .val (.int p3), .val (.int p4), .val (.int z5), .val (.int z6), .val (.double v), .second, .unset, .unset, .unset, .unset, .unset, .unset, .unset] [(.int (100 : Int32)), (.int p4), (.ref aA), (.ref aA)])) (fun _ k => XS.bipush X1.here hx rfl (hb hby at_49) k) ?_
        refine own_go (t' := T1.setTop (mkF m 52 #[.val (.int p0), .val (.int p1), .val (.int p2), .val (.int p3), .val (.int p4), .val (.int z5), .val (.int z6), .val (.double v), .second, .unset, .unset, .unset, .unset, .unset, .unset, .unset] [(.int (p4 % (100 : Int32))), (.ref aA), (.ref aA)])) (fun _ k => iremM X1 hx rfl (hb hby at_51) rfl (by decide) k) ?_
        refine own_go (t' := T1.setTop (mkF m 53 #[.val (.int p0), .val (.int p1), .val (.int p2), .val (.int p3), .val (.int p4), .val (.int z5), .val (.int z6), .val (.double v), .second, .unset, .unset, .unset, .unset, .unset, .unset, .unset] [(.double (FP.i2d (p4 % (100 : Int32)))), (.ref aA), (.ref aA)])) (fun _ k => XS.i2dS X1.here hx rfl (hb hby at_52) rfl rfl k) ?_
        refine own_go (t' := T1.setTop (mkF m 55 #[.val (.int p0), .val (.int p1), .val (.int p2), .val (.int p3), .val (.int p4), .val (.int z5), .val (.int z6), .val (.double v), .second, .unset, .unset, .unset, .unset, .unset, .unset, .unset] [(.int p4), (.double (FP.i2d (p4 % (100 : Int32)))), (.ref aA), (.ref aA)])) (fun _ k => XS.iload X1.here hx rfl (hb hby at_53) rfl k) ?_
        refine own_go (t' := T1.setTop (mkF m 57 #[.val (.int p0), .val (.int p1), .val (.int p2), .val (.int p3), .val (.int p4), .val (.int z5), .val (.int z6), .val (.double v), .second, .unset, .unset, .unset, .unset, .unset, .unset, .unset] [(.int (50 : Int32)), (.int p4), (.double (FP.i2d (p4 % (100 : Int32)))), (.ref aA), (.ref aA)])) (fun _ k => XS.bipush X1.here hx rfl (hb hby at_55) k) ?_
        refine own_go (t' := T1.setTop (mkF m 58 #[.val (.int p0), .val (.int p1), .val (.int p2), .val (.int p3), .val (.int p4), .val (.int z5), .val (.int z6), .val (.double v), .second, .unset, .unset, .unset, .unset, .unset, .unset, .unset] [(.int (p4 % (50 : Int32))), (.double (FP.i2d (p4 % (100 : Int32)))), (.ref aA), (.ref aA)])) (fun _ k => iremM X1 hx rfl (hb hby at_57) rfl (by decide) k) ?_
        refine own_go (t' := T1.setTop (mkF m 59 #[.val (.int p0), .val (.int p1), .val (.int p2), .val (.int p3), .val (.int p4), .val (.int z5), .val (.int z6), .val (.double v), .second, .unset, .unset, .unset, .unset, .unset, .unset, .unset] [(.double (FP.i2d (p4 % (50 : Int32)))), (.double (FP.i2d (p4 % (100 : Int32)))), (.ref aA), (.ref aA)])) (fun _ k => XS.i2dS X1.here hx rfl (hb hby at_58) rfl rfl k) ?_
        obtain ⟨T2, L2, v2, X2, hQ2, st2⟩ := own_special X1 hx hZ (y := (⟨"com/example/rappen/rappen/BlankField", "<init>", "(DD)V"⟩ : MethodName)) rfl hown (hw _ (List.mem_of_getElem? (i := 4) rfl)) (hw _ (List.mem_of_getElem? (i := 5) rfl)) (hw _ (List.mem_of_getElem? (i := 6) rfl)) (hw _ (List.mem_of_getElem? (i := 3) rfl)) (by decide) (rm_bf l Z a0 hw [] aA (FP.i2d (p4 % (100 : Int32))) (FP.i2d (p4 % (50 : Int32))) _ _ h1 n0 Zn1 A1 (D1 (Or.inr (hw _ (List.mem_of_getElem? (i := 16) rfl))) (ty := .double) (by decide)) (D1 (Or.inr (hw _ (List.mem_of_getElem? (i := 18) rfl))) (ty := .double) (by decide)) (Nat.le_trans Z0 (Nat.le_of_eq g1.symm))) e1 (g := (mkF m 59 #[.val (.int p0), .val (.int p1), .val (.int p2), .val (.int p3), .val (.int p4), .val (.int z5), .val (.int z6), .val (.double v), .second, .unset, .unset, .unset, .unset, .unset, .unset, .unset] [(.double (FP.i2d (p4 % (50 : Int32)))), (.double (FP.i2d (p4 % (100 : Int32)))), (.ref aA), (.ref aA)])) rfl (by rw [hml]; rfl) (argsL := [(.double (FP.i2d (p4 % (100 : Int32)))), (.double (FP.i2d (p4 % (50 : Int32))))]) (rest := [(.ref aA)]) (lenOf pd_d1 rfl) rfl (W := 1) (by show 2 * 0 + _ ≤ _; exact Nat.le_of_eq rfl) (hb hby at_59) (by decide) (by decide) (by decide) (by decide)
        obtain ⟨rfl, Nq2, KaA, XaA⟩ := hQ2
        have N2 := Fr.app N0 Nq2
        refine own_go (t' := T2.setTop (mkF m 62 #[.val (.int p0), .val (.int p1), .val (.int p2), .val (.int p3), .val (.int p4), .val (.int z5), .val (.int z6), .val (.double v), .second, .unset, .unset, .unset, .unset, .unset, .unset, .unset] [(.ref aA)])) st2 ?_
        have Zk2 : n0 ≤ T2.heap.size := Nat.le_trans Zn1 KaA.1
        refine own_go (t' := T2.setTop (mkF m 64 #[.val (.int p0), .val (.int p1), .val (.int p2), .val (.int p3), .val (.int p4), .val (.int z5), .val (.int z6), .val (.double v), .second, .val (.ref aA), .unset, .unset, .unset, .unset, .unset, .unset] [])) (fun _ k => XS.astore X2.here hx rfl (hb hby at_62) rfl rfl (l' := #[.val (.int p0), .val (.int p1), .val (.int p2), .val (.int p3), .val (.int p4), .val (.int z5), .val (.int z6), .val (.double v), .second, .val (.ref aA), .unset, .unset, .unset, .unset, .unset, .unset]) rfl k) ?_
        obtain ⟨T3, h3, X3, e3, E3, A3, D3, -, st3⟩ := newO X2 hx hZ hown (hw _ (List.mem_of_getElem? (i := 1) rfl)) (hw _ (List.mem_of_getElem? (i := 2) rfl)) (hw _ (List.mem_of_getElem? (i := 3) rfl)) (rfl : T2.heap = T2.heap) (g := (mkF m 64 #[.val (.int p0), .val (.int p1), .val (.int p2), .val (.int p3), .val (.int p4), .val (.int z5), .val (.int z6), .val (.double v), .second, .val (.ref aA), .unset, .unset, .unset, .unset, .unset, .unset] [])) rfl (hb hby at_64) (by decide) (by decide)
        obtain ⟨aB, g3⟩ : ∃ z, z = T2.heap.size := ⟨_, rfl⟩
        rw [← g3] at A3 D3 st3
        refine own_go (t' := T3.setTop (mkF m 67 #[.val (.int p0), .val (.int p1), .val (.int p2), .val (.int p3), .val (.int p4), .val (.int z5), .val (.int z6), .val (.double v), .second, .val (.ref aA), .unset, .unset, .unset, .unset, .unset, .unset] [(.ref aB)])) st3 ?_
        have Zn3 : n0 ≤ h3.size := Nat.le_trans Zk2 E3.1
        refine own_go (t' := T3.setTop (mkF m 68 #[.val (.int p0), .val (.int p1), .val (.int p2), .val (.int p3), .val (.int p4), .val (.int z5), .val (.int z6), .val (.double v), .second, .val (.ref aA), .unset, .unset, .unset, .unset, .unset, .unset] [(.ref aB), (.ref aB)])) (fun _ k => XS.dup X3.here hx rfl (hb hby at_67) rfl rfl k) ?_
        refine own_go (t' := T3.setTop (mkF m 69 #[.val (.int p0), .val (.int p1), .val (.int p2), .val (.int p3), .val (.int p4), .val (.int z5), .val (.int z6), .val (.double v), .second, .val (.ref aA), .unset, .unset, .unset, .unset, .unset, .unset] [(.int p3), (.ref aB), (.ref aB)])) (fun _ k => XS.iloadN X3.here hx rfl (hb hby at_68) rfl k) ?_
        refine own_go (t' := T3.setTop (mkF m 71 #[.val (.int p0), .val (.int p1), .val (.int p2), .val (.int p3), .val (.int p4), .val (.int z5), .val (.int z6), .val (.double v), .second, .val (.ref aA), .unset, .unset, .unset, .unset, .unset, .unset] [(.int (70 : Int32)), (.int p3), (.ref aB), (.ref aB)])) (fun _ k => XS.bipush X3.here hx rfl (hb hby at_69) k) ?_
        refine own_go (t' := T3.setTop (mkF m 72 #[.val (.int p0), .val (.int p1), .val (.int p2), .val (.int p3), .val (.int p4), .val (.int z5), .val (.int z6), .val (.double v), .second, .val (.ref aA), .unset, .unset, .unset, .unset, .unset, .unset] [(.int (p3 % (70 : Int32))), (.ref aB), (.ref aB)])) (fun _ k => iremM X3 hx rfl (hb hby at_71) rfl (by decide) k) ?_
        refine own_go (t' := T3.setTop (mkF m 73 #[.val (.int p0), .val (.int p1), .val (.int p2), .val (.int p3), .val (.int p4), .val (.int z5), .val (.int z6), .val (.double v), .second, .val (.ref aA), .unset, .unset, .unset, .unset, .unset, .unset] [(.double (FP.i2d (p3 % (70 : Int32)))), (.ref aB), (.ref aB)])) (fun _ k => XS.i2dS X3.here hx rfl (hb hby at_72) rfl rfl k) ?_
        refine own_go (t' := T3.setTop (mkF m 74 #[.val (.int p0), .val (.int p1), .val (.int p2), .val (.int p3), .val (.int p4), .val (.int z5), .val (.int z6), .val (.double v), .second, .val (.ref aA), .unset, .unset, .unset, .unset, .unset, .unset] [(.int p2), (.double (FP.i2d (p3 % (70 : Int32)))), (.ref aB), (.ref aB)])) (fun _ k => XS.iloadN X3.here hx rfl (hb hby at_73) rfl k) ?_
        refine own_go (t' := T3.setTop (mkF m 76 #[.val (.int p0), .val (.int p1), .val (.int p2), .val (.int p3), .val (.int p4), .val (.int z5), .val (.int z6), .val (.double v), .second, .val (.ref aA), .unset, .unset, .unset, .unset, .unset, .unset] [(.int (30 : Int32)), (.int p2), (.double (FP.i2d (p3 % (70 : Int32)))), (.ref aB), (.ref aB)])) (fun _ k => XS.bipush X3.here hx rfl (hb hby at_74) k) ?_
        refine own_go (t' := T3.setTop (mkF m 77 #[.val (.int p0), .val (.int p1), .val (.int p2), .val (.int p3), .val (.int p4), .val (.int z5), .val (.int z6), .val (.double v), .second, .val (.ref aA), .unset, .unset, .unset, .unset, .unset, .unset] [(.int (p2 % (30 : Int32))), (.double (FP.i2d (p3 % (70 : Int32)))), (.ref aB), (.ref aB)])) (fun _ k => iremM X3 hx rfl (hb hby at_76) rfl (by decide) k) ?_
        refine own_go (t' := T3.setTop (mkF m 78 #[.val (.int p0), .val (.int p1), .val (.int p2), .val (.int p3), .val (.int p4), .val (.int z5), .val (.int z6), .val (.double v), .second, .val (.ref aA), .unset, .unset, .unset, .unset, .unset, .unset] [(.double (FP.i2d (p2 % (30 : Int32)))), (.double (FP.i2d (p3 % (70 : Int32)))), (.ref aB), (.ref aB)])) (fun _ k => XS.i2dS X3.here hx rfl (hb hby at_77) rfl rfl k) ?_
        obtain ⟨T4, L4, v4, X4, hQ4, st4⟩ := own_special X3 hx hZ (y := (⟨"com/example/rappen/rappen/BlankField", "<init>", "(DD)V"⟩ : MethodName)) rfl hown (hw _ (List.mem_of_getElem? (i := 4) rfl)) (hw _ (List.mem_of_getElem? (i := 5) rfl)) (hw _ (List.mem_of_getElem? (i := 6) rfl)) (hw _ (List.mem_of_getElem? (i := 3) rfl)) (by decide) (rm_bf l Z a0 hw [] aB (FP.i2d (p3 % (70 : Int32))) (FP.i2d (p2 % (30 : Int32))) _ _ h3 n0 Zn3 A3 (D3 (Or.inr (hw _ (List.mem_of_getElem? (i := 16) rfl))) (ty := .double) (by decide)) (D3 (Or.inr (hw _ (List.mem_of_getElem? (i := 18) rfl))) (ty := .double) (by decide)) (Nat.le_trans Zk2 (Nat.le_of_eq g3.symm))) e3 (g := (mkF m 78 #[.val (.int p0), .val (.int p1), .val (.int p2), .val (.int p3), .val (.int p4), .val (.int z5), .val (.int z6), .val (.double v), .second, .val (.ref aA), .unset, .unset, .unset, .unset, .unset, .unset] [(.double (FP.i2d (p2 % (30 : Int32)))), (.double (FP.i2d (p3 % (70 : Int32)))), (.ref aB), (.ref aB)])) rfl (by rw [hml]; rfl) (argsL := [(.double (FP.i2d (p3 % (70 : Int32)))), (.double (FP.i2d (p2 % (30 : Int32))))]) (rest := [(.ref aB)]) (lenOf pd_d1 rfl) rfl (W := 1) (by show 2 * 0 + _ ≤ _; exact Nat.le_of_eq rfl) (hb hby at_78) (by decide) (by decide) (by decide) (by decide)
        obtain ⟨rfl, Nq4, KaB, XaB⟩ := hQ4
        have N4 := Fr.app N2 Nq4
        refine own_go (t' := T4.setTop (mkF m 81 #[.val (.int p0), .val (.int p1), .val (.int p2), .val (.int p3), .val (.int p4), .val (.int z5), .val (.int z6), .val (.double v), .second, .val (.ref aA), .unset, .unset, .unset, .unset, .unset, .unset] [(.ref aB)])) st4 ?_
        have Zk4 : n0 ≤ T4.heap.size := Nat.le_trans Zn3 KaB.1
        refine own_go (t' := T4.setTop (mkF m 83 #[.val (.int p0), .val (.int p1), .val (.int p2), .val (.int p3), .val (.int p4), .val (.int z5), .val (.int z6), .val (.double v), .second, .val (.ref aA), .val (.ref aB), .unset, .unset, .unset, .unset, .unset] [])) (fun _ k => XS.astore X4.here hx rfl (hb hby at_81) rfl rfl (l' := #[.val (.int p0), .val (.int p1), .val (.int p2), .val (.int p3), .val (.int p4), .val (.int z5), .val (.int z6), .val (.double v), .second, .val (.ref aA), .val (.ref aB), .unset, .unset, .unset, .unset, .unset]) rfl k) ?_
        obtain ⟨T5, h5, X5, e5, E5, A5, D5, -, st5⟩ := newO X4 hx hZ hown (hw _ (List.mem_of_getElem? (i := 19) rfl)) (hw _ (List.mem_of_getElem? (i := 20) rfl)) (hw _ (List.mem_of_getElem? (i := 21) rfl)) (rfl : T4.heap = T4.heap) (g := (mkF m 83 #[.val (.int p0), .val (.int p1), .val (.int p2), .val (.int p3), .val (.int p4), .val (.int z5), .val (.int z6), .val (.double v), .second, .val (.ref aA), .val (.ref aB), .unset, .unset, .unset, .unset, .unset] [])) rfl (hb hby at_83) (by decide) (by decide)
        obtain ⟨aL, g5⟩ : ∃ z, z = T4.heap.size := ⟨_, rfl⟩
        rw [← g5] at A5 D5 st5
        refine own_go (t' := T5.setTop (mkF m 86 #[.val (.int p0), .val (.int p1), .val (.int p2), .val (.int p3), .val (.int p4), .val (.int z5), .val (.int z6), .val (.double v), .second, .val (.ref aA), .val (.ref aB), .unset, .unset, .unset, .unset, .unset] [(.ref aL)])) st5 ?_
        have Zn5 : n0 ≤ h5.size := Nat.le_trans Zk4 E5.1
        refine own_go (t' := T5.setTop (mkF m 87 #[.val (.int p0), .val (.int p1), .val (.int p2), .val (.int p3), .val (.int p4), .val (.int z5), .val (.int z6), .val (.double v), .second, .val (.ref aA), .val (.ref aB), .unset, .unset, .unset, .unset, .unset] [(.ref aL), (.ref aL)])) (fun _ k => XS.dup X5.here hx rfl (hb hby at_86) rfl rfl k) ?_
        refine own_go (t' := T5.setTop (mkF m 88 #[.val (.int p0), .val (.int p1), .val (.int p2), .val (.int p3), .val (.int p4), .val (.int z5), .val (.int z6), .val (.double v), .second, .val (.ref aA), .val (.ref aB), .unset, .unset, .unset, .unset, .unset] [(.int p2), (.ref aL), (.ref aL)])) (fun _ k => XS.iloadN X5.here hx rfl (hb hby at_87) rfl k) ?_
        refine own_go (t' := T5.setTop (mkF m 90 #[.val (.int p0), .val (.int p1), .val (.int p2), .val (.int p3), .val (.int p4), .val (.int z5), .val (.int z6), .val (.double v), .second, .val (.ref aA), .val (.ref aB), .unset, .unset, .unset, .unset, .unset] [(.int (100 : Int32)), (.int p2), (.ref aL), (.ref aL)])) (fun _ k => XS.bipush X5.here hx rfl (hb hby at_88) k) ?_
        refine own_go (t' := T5.setTop (mkF m 91 #[.val (.int p0), .val (.int p1), .val (.int p2), .val (.int p3), .val (.int p4), .val (.int z5), .val (.int z6), .val (.double v), .second, .val (.ref aA), .val (.ref aB), .unset, .unset, .unset, .unset, .unset] [(.int (p2 % (100 : Int32))), (.ref aL), (.ref aL)])) (fun _ k => iremM X5 hx rfl (hb hby at_90) rfl (by decide) k) ?_
        refine own_go (t' := T5.setTop (mkF m 92 #[.val (.int p0), .val (.int p1), .val (.int p2), .val (.int p3), .val (.int p4), .val (.int z5), .val (.int z6), .val (.double v), .second, .val (.ref aA), .val (.ref aB), .unset, .unset, .unset, .unset, .unset] [(.double (FP.i2d (p2 % (100 : Int32)))), (.ref aL), (.ref aL)])) (fun _ k => XS.i2dS X5.here hx rfl (hb hby at_91) rfl rfl k) ?_
        refine own_go (t' := T5.setTop (mkF m 93 #[.val (.int p0), .val (.int p1), .val (.int p2), .val (.int p3), .val (.int p4), .val (.int z5), .val (.int z6), .val (.double v), .second, .val (.ref aA), .val (.ref aB), .unset, .unset, .unset, .unset, .unset] [(.int p3), (.double (FP.i2d (p2 % (100 : Int32)))), (.ref aL), (.ref aL)])) (fun _ k => XS.iloadN X5.here hx rfl (hb hby at_92) rfl k) ?_
        refine own_go (t' := T5.setTop (mkF m 95 #[.val (.int p0), .val (.int p1), .val (.int p2), .val (.int p3), .val (.int p4), .val (.int z5), .val (.int z6), .val (.double v), .second, .val (.ref aA), .val (.ref aB), .unset, .unset, .unset, .unset, .unset] [(.int (100 : Int32)), (.int p3), (.double (FP.i2d (p2 % (100 : Int32)))), (.ref aL), (.ref aL)])) (fun _ k => XS.bipush X5.here hx rfl (hb hby at_93) k) ?_
        refine own_go (t' := T5.setTop (mkF m 96 #[.val (.int p0), .val (.int p1), .val (.int p2), .val (.int p3), .val (.int p4), .val (.int z5), .val (.int z6), .val (.double v), .second, .val (.ref aA), .val (.ref aB), .unset, .unset, .unset, .unset, .unset] [(.int (p3 % (100 : Int32))), (.double (FP.i2d (p2 % (100 : Int32)))), (.ref aL), (.ref aL)])) (fun _ k => iremM X5 hx rfl (hb hby at_95) rfl (by decide) k) ?_
        refine own_go (t' := T5.setTop (mkF m 97 #[.val (.int p0), .val (.int p1), .val (.int p2), .val (.int p3), .val (.int p4), .val (.int z5), .val (.int z6), .val (.double v), .second, .val (.ref aA), .val (.ref aB), .unset, .unset, .unset, .unset, .unset] [(.double (FP.i2d (p3 % (100 : Int32)))), (.double (FP.i2d (p2 % (100 : Int32)))), (.ref aL), (.ref aL)])) (fun _ k => XS.i2dS X5.here hx rfl (hb hby at_96) rfl rfl k) ?_
        refine own_go (t' := T5.setTop (mkF m 99 #[.val (.int p0), .val (.int p1), .val (.int p2), .val (.int p3), .val (.int p4), .val (.int z5), .val (.int z6), .val (.double v), .second, .val (.ref aA), .val (.ref aB), .unset, .unset, .unset, .unset, .unset] [(.int z6), (.double (FP.i2d (p3 % (100 : Int32)))), (.double (FP.i2d (p2 % (100 : Int32)))), (.ref aL), (.ref aL)])) (fun _ k => XS.iload X5.here hx rfl (hb hby at_97) rfl k) ?_
        refine own_go (t' := T5.setTop (mkF m 101 #[.val (.int p0), .val (.int p1), .val (.int p2), .val (.int p3), .val (.int p4), .val (.int z5), .val (.int z6), .val (.double v), .second, .val (.ref aA), .val (.ref aB), .unset, .unset, .unset, .unset, .unset] [(.ref aA), (.int z6), (.double (FP.i2d (p3 % (100 : Int32)))), (.double (FP.i2d (p2 % (100 : Int32)))), (.ref aL), (.ref aL)])) (fun _ k => XS.aload X5.here hx rfl (hb hby at_99) rfl rfl k) ?_
        refine own_go (t' := T5.setTop (mkF m 103 #[.val (.int p0), .val (.int p1), .val (.int p2), .val (.int p3), .val (.int p4), .val (.int z5), .val (.int z6), .val (.double v), .second, .val (.ref aA), .val (.ref aB), .unset, .unset, .unset, .unset, .unset] [(.ref aB), (.ref aA), (.int z6), (.double (FP.i2d (p3 % (100 : Int32)))), (.double (FP.i2d (p2 % (100 : Int32)))), (.ref aL), (.ref aL)])) (fun _ k => XS.aload X5.here hx rfl (hb hby at_101) rfl rfl k) ?_
        obtain ⟨T6, L6, v6, X6, hQ6, st6⟩ := own_special X5 hx hZ (y := (⟨"com/example/rappen/rappen/PartLayout", "<init>", "(DDZLcom/example/rappen/rappen/BlankField;Lcom/example/rappen/rappen/BlankField;)V"⟩ : MethodName)) rfl hown (hw _ (List.mem_of_getElem? (i := 22) rfl)) (hw _ (List.mem_of_getElem? (i := 23) rfl)) (hw _ (List.mem_of_getElem? (i := 24) rfl)) (hw _ (List.mem_of_getElem? (i := 21) rfl)) (by decide) (rm_pl l Z a0 hw [] aL (FP.i2d (p2 % (100 : Int32))) (FP.i2d (p3 % (100 : Int32))) z6 aA aB _ _ _ _ _ h5 n0 Zn5 A5 (D5 (Or.inr (hw _ (List.mem_of_getElem? (i := 27) rfl))) (ty := .double) (by decide)) (D5 (Or.inr (hw _ (List.mem_of_getElem? (i := 29) rfl))) (ty := .double) (by decide)) (D5 (Or.inr (hw _ (List.mem_of_getElem? (i := 31) rfl))) (ty := .boolean) (by decide)) (D5 (Or.inr (hw _ (List.mem_of_getElem? (i := 33) rfl))) (ty := (.object "com/example/rappen/rappen/BlankField")) (by decide)) (D5 (Or.inr (hw _ (List.mem_of_getElem? (i := 35) rfl))) (ty := (.object "com/example/rappen/rappen/BlankField")) (by decide)) (Nat.le_trans Zk4 (Nat.le_of_eq g5.symm)) hz6) e5 (g := (mkF m 103 #[.val (.int p0), .val (.int p1), .val (.int p2), .val (.int p3), .val (.int p4), .val (.int z5), .val (.int z6), .val (.double v), .second, .val (.ref aA), .val (.ref aB), .unset, .unset, .unset, .unset, .unset] [(.ref aB), (.ref aA), (.int z6), (.double (FP.i2d (p3 % (100 : Int32)))), (.double (FP.i2d (p2 % (100 : Int32)))), (.ref aL), (.ref aL)])) rfl (by rw [hml]; rfl) (argsL := [(.double (FP.i2d (p2 % (100 : Int32)))), (.double (FP.i2d (p3 % (100 : Int32)))), (.int z6), (.ref aA), (.ref aB)]) (rest := [(.ref aL)]) (lenOf pd_d4 rfl) rfl (W := 1) (by show 2 * 0 + _ ≤ _; exact Nat.le_of_eq rfl) (hb hby at_103) (by decide) (by decide) (by decide) (by decide)
        obtain ⟨rfl, Nq6, KaL, XaL⟩ := hQ6
        have N6 := Fr.app N4 Nq6
        refine own_go (t' := T6.setTop (mkF m 106 #[.val (.int p0), .val (.int p1), .val (.int p2), .val (.int p3), .val (.int p4), .val (.int z5), .val (.int z6), .val (.double v), .second, .val (.ref aA), .val (.ref aB), .unset, .unset, .unset, .unset, .unset] [(.ref aL)])) st6 ?_
        have Zk6 : n0 ≤ T6.heap.size := Nat.le_trans Zn5 KaL.1
        refine own_go (t' := T6.setTop (mkF m 108 #[.val (.int p0), .val (.int p1), .val (.int p2), .val (.int p3), .val (.int p4), .val (.int z5), .val (.int z6), .val (.double v), .second, .val (.ref aA), .val (.ref aB), .val (.ref aL), .unset, .unset, .unset, .unset] [])) (fun _ k => XS.astore X6.here hx rfl (hb hby at_106) rfl rfl (l' := #[.val (.int p0), .val (.int p1), .val (.int p2), .val (.int p3), .val (.int p4), .val (.int z5), .val (.int z6), .val (.double v), .second, .val (.ref aA), .val (.ref aB), .val (.ref aL), .unset, .unset, .unset, .unset]) rfl k) ?_
        refine own_go (t' := T6.setTop (mkF m 110 #[.val (.int p0), .val (.int p1), .val (.int p2), .val (.int p3), .val (.int p4), .val (.int z5), .val (.int z6), .val (.double v), .second, .val (.ref aA), .val (.ref aB), .val (.ref aL), .unset, .unset, .unset, .unset] [(.ref aL)])) (fun _ k => XS.aload X6.here hx rfl (hb hby at_108) rfl rfl k) ?_
        refine own_go (t' := T6.setTop (mkF m 112 #[.val (.int p0), .val (.int p1), .val (.int p2), .val (.int p3), .val (.int p4), .val (.int z5), .val (.int z6), .val (.double v), .second, .val (.ref aA), .val (.ref aB), .val (.ref aL), .unset, .unset, .unset, .unset] [(.double v), (.ref aL)])) (fun _ k => XS.dload X6.here hx rfl (hb hby at_110) rfl k) ?_
        obtain ⟨T7, L7, v7, X7, hQ7, st7⟩ := own_virtual X6 hx hZ (y := (⟨"com/example/rappen/rappen/PartLayout", "headingSize", "(D)D"⟩ : MethodName)) hown (hw _ (List.mem_of_getElem? (i := 36) rfl)) (hw _ (List.mem_of_getElem? (i := 37) rfl)) (hw _ (List.mem_of_getElem? (i := 39) rfl)) (hw _ (List.mem_of_getElem? (i := 38) rfl)) (hw _ (List.mem_of_getElem? (i := 40) rfl)) (hw _ (List.mem_of_getElem? (i := 21) rfl)) (by decide) XaL (rm_head l Z a0 hw [] aL v T6.heap n0 Zk6 (OwnFp.no_nan (OwnFp.fin_nan fr))) (rfl : T6.heap = T6.heap) (g := (mkF m 112 #[.val (.int p0), .val (.int p1), .val (.int p2), .val (.int p3), .val (.int p4), .val (.int z5), .val (.int z6), .val (.double v), .second, .val (.ref aA), .val (.ref aB), .val (.ref aL), .unset, .unset, .unset, .unset] [(.double v), (.ref aL)])) rfl (by rw [hml]; rfl) (argsL := [(.double v)]) (rest := []) (lenOf pd_d5 rfl) rfl (W := 0) (by show 2 * 0 + _ ≤ _; exact Nat.le_of_eq rfl) (hb hby at_112) (by decide) (by decide) (by decide) (by decide)
        obtain ⟨rfl, Nq7, e7⟩ := hQ7
        have N7 := Fr.app N6 Nq7
        refine own_go (t' := T7.setTop (mkF m 115 #[.val (.int p0), .val (.int p1), .val (.int p2), .val (.int p3), .val (.int p4), .val (.int z5), .val (.int z6), .val (.double v), .second, .val (.ref aA), .val (.ref aB), .val (.ref aL), .unset, .unset, .unset, .unset] [(.double (Native.java_lang_Math.nans.pick64 true (4618441417868443648 : UInt64) (FP.dsub v (4611686018427387904 : UInt64))))])) st7 ?_
        refine own_go (t' := T7.setTop (mkF m 117 #[.val (.int p0), .val (.int p1), .val (.int p2), .val (.int p3), .val (.int p4), .val (.int z5), .val (.int z6), .val (.double v), .second, .val (.ref aA), .val (.ref aB), .val (.ref aL), .val (.double (Native.java_lang_Math.nans.pick64 true (4618441417868443648 : UInt64) (FP.dsub v (4611686018427387904 : UInt64)))), .second, .unset, .unset] [])) (fun _ k => XS.dstore X7.here hx rfl (hb hby at_115) rfl (l' := #[.val (.int p0), .val (.int p1), .val (.int p2), .val (.int p3), .val (.int p4), .val (.int z5), .val (.int z6), .val (.double v), .second, .val (.ref aA), .val (.ref aB), .val (.ref aL), .val (.double (Native.java_lang_Math.nans.pick64 true (4618441417868443648 : UInt64) (FP.dsub v (4611686018427387904 : UInt64)))), .second, .unset, .unset]) rfl k) ?_
        refine own_go (t' := T7.setTop (mkF m 119 #[.val (.int p0), .val (.int p1), .val (.int p2), .val (.int p3), .val (.int p4), .val (.int z5), .val (.int z6), .val (.double v), .second, .val (.ref aA), .val (.ref aB), .val (.ref aL), .val (.double (Native.java_lang_Math.nans.pick64 true (4618441417868443648 : UInt64) (FP.dsub v (4611686018427387904 : UInt64)))), .second, .unset, .unset] [(.double v)])) (fun _ k => XS.dload X7.here hx rfl (hb hby at_117) rfl k) ?_
        refine own_go (t' := T7.setTop (mkF m 122 #[.val (.int p0), .val (.int p1), .val (.int p2), .val (.int p3), .val (.int p4), .val (.int z5), .val (.int z6), .val (.double v), .second, .val (.ref aA), .val (.ref aB), .val (.ref aL), .val (.double (Native.java_lang_Math.nans.pick64 true (4618441417868443648 : UInt64) (FP.dsub v (4611686018427387904 : UInt64)))), .second, .unset, .unset] [(.double (4620693217682128896 : UInt64)), (.double v)])) (X7.ldc2DoubleC hx (own := "com/example/rappen/rappen/PartLayoutHeadingSizePinLaw") (index := 23) (b := (4620693217682128896 : UInt64)) hown (mvT hZ (hw _ (List.mem_of_getElem? (i := 47) rfl))) (g := (mkF m 119 #[.val (.int p0), .val (.int p1), .val (.int p2), .val (.int p3), .val (.int p4), .val (.int z5), .val (.int z6), .val (.double v), .second, .val (.ref aA), .val (.ref aB), .val (.ref aL), .val (.double (Native.java_lang_Math.nans.pick64 true (4618441417868443648 : UInt64) (FP.dsub v (4611686018427387904 : UInt64)))), .second, .unset, .unset] [(.double v)])) rfl (hb hby at_119)) ?_
        refine own_go (t' := T7.setTop (mkF m 123 #[.val (.int p0), .val (.int p1), .val (.int p2), .val (.int p3), .val (.int p4), .val (.int z5), .val (.int z6), .val (.double v), .second, .val (.ref aA), .val (.ref aB), .val (.ref aL), .val (.double (Native.java_lang_Math.nans.pick64 true (4618441417868443648 : UInt64) (FP.dsub v (4611686018427387904 : UInt64)))), .second, .unset, .unset] [(.int (cmpValue (FP.dcmp v (4620693217682128896 : UInt64)) CmpOp.g))])) (fun _ k => XS.dcmpS X7.here hx rfl (hb hby at_122) rfl rfl k) ?_
        have J4 : ∀ ex : UInt64, cmpValue (FP.dcmp (Native.java_lang_Math.nans.pick64 true (4618441417868443648 : UInt64) (FP.dsub v (4611686018427387904 : UInt64))) ex) CmpOp.l = 0 → own_Ends p.tables e below (own_F s (fun v h L => v = some (.int 1) ∧ Fr n0 L) room_1.cells room_1.slots) (T7.setTop (mkF m 142 #[.val (.int p0), .val (.int p1), .val (.int p2), .val (.int p3), .val (.int p4), .val (.int z5), .val (.int z6), .val (.double v), .second, .val (.ref aA), .val (.ref aB), .val (.ref aL), .val (.double (Native.java_lang_Math.nans.pick64 true (4618441417868443648 : UInt64) (FP.dsub v (4611686018427387904 : UInt64)))), .second, .val (.double ex), .second] [])) := by
          intro ex hex
          refine own_go (t' := T7.setTop (mkF m 144 #[.val (.int p0), .val (.int p1), .val (.int p2), .val (.int p3), .val (.int p4), .val (.int z5), .val (.int z6), .val (.double v), .second, .val (.ref aA), .val (.ref aB), .val (.ref aL), .val (.double (Native.java_lang_Math.nans.pick64 true (4618441417868443648 : UInt64) (FP.dsub v (4611686018427387904 : UInt64)))), .second, .val (.double ex), .second] [(.double (Native.java_lang_Math.nans.pick64 true (4618441417868443648 : UInt64) (FP.dsub v (4611686018427387904 : UInt64))))])) (fun _ k => XS.dload X7.here hx rfl (hb hby at_142) rfl k) ?_
          refine own_go (t' := T7.setTop (mkF m 146 #[.val (.int p0), .val (.int p1), .val (.int p2), .val (.int p3), .val (.int p4), .val (.int z5), .val (.int z6), .val (.double v), .second, .val (.ref aA), .val (.ref aB), .val (.ref aL), .val (.double (Native.java_lang_Math.nans.pick64 true (4618441417868443648 : UInt64) (FP.dsub v (4611686018427387904 : UInt64)))), .second, .val (.double ex), .second] [(.double ex), (.double (Native.java_lang_Math.nans.pick64 true (4618441417868443648 : UInt64) (FP.dsub v (4611686018427387904 : UInt64))))])) (fun _ k => XS.dload X7.here hx rfl (hb hby at_144) rfl k) ?_
          refine own_go (t' := T7.setTop (mkF m 147 #[.val (.int p0), .val (.int p1), .val (.int p2), .val (.int p3), .val (.int p4), .val (.int z5), .val (.int z6), .val (.double v), .second, .val (.ref aA), .val (.ref aB), .val (.ref aL), .val (.double (Native.java_lang_Math.nans.pick64 true (4618441417868443648 : UInt64) (FP.dsub v (4611686018427387904 : UInt64)))), .second, .val (.double ex), .second] [(.int (cmpValue (FP.dcmp (Native.java_lang_Math.nans.pick64 true (4618441417868443648 : UInt64) (FP.dsub v (4611686018427387904 : UInt64))) ex) CmpOp.l))])) (fun _ k => XS.dcmpS X7.here hx rfl (hb hby at_146) rfl rfl k) ?_
          refine own_go (t' := T7.setTop (mkF m 150 #[.val (.int p0), .val (.int p1), .val (.int p2), .val (.int p3), .val (.int p4), .val (.int z5), .val (.int z6), .val (.double v), .second, .val (.ref aA), .val (.ref aB), .val (.ref aL), .val (.double (Native.java_lang_Math.nans.pick64 true (4618441417868443648 : UInt64) (FP.dsub v (4611686018427387904 : UInt64)))), .second, .val (.double ex), .second] [])) (fun _ k => XS.ifNo X7.here hx rfl (hb hby at_147) rfl ((if0 _ _).trans (teq hex).2) k) ?_
          refine own_go (t' := T7.setTop (mkF m 151 #[.val (.int p0), .val (.int p1), .val (.int p2), .val (.int p3), .val (.int p4), .val (.int z5), .val (.int z6), .val (.double v), .second, .val (.ref aA), .val (.ref aB), .val (.ref aL), .val (.double (Native.java_lang_Math.nans.pick64 true (4618441417868443648 : UInt64) (FP.dsub v (4611686018427387904 : UInt64)))), .second, .val (.double ex), .second] [(.int (1 : Int32))])) (fun _ k => XS.iconst X7.here hx rfl (hb hby at_150) k) ?_
          refine own_go (t' := T7.setTop (mkF m 155 #[.val (.int p0), .val (.int p1), .val (.int p2), .val (.int p3), .val (.int p4), .val (.int z5), .val (.int z6), .val (.double v), .second, .val (.ref aA), .val (.ref aB), .val (.ref aL), .val (.double (Native.java_lang_Math.nans.pick64 true (4618441417868443648 : UInt64) (FP.dsub v (4611686018427387904 : UInt64)))), .second, .val (.double ex), .second] [(.int (1 : Int32))])) (fun _ k => XS.goto X7.here hx rfl (pc0 := 151) (pc' := 155) rfl (hb hby at_151) (by decide) (by decide) k) ?_
          exact own_retZ X7 hx Bd.returns (BodyLoose.notSynchronized Bd) rfl (hb hby at_155) (by decide) (by decide) ⟨rfl, N7⟩
        by_cases hc : (cmpValue (FP.dcmp v (4620693217682128896 : UInt64)) CmpOp.g) < 0
        ·
          refine own_go (t' := T7.setTop (mkF m 126 #[.val (.int p0), .val (.int p1), .val (.int p2), .val (.int p3), .val (.int p4), .val (.int z5), .val (.int z6), .val (.double v), .second, .val (.ref aA), .val (.ref aB), .val (.ref aL), .val (.double (Native.java_lang_Math.nans.pick64 true (4618441417868443648 : UInt64) (FP.dsub v (4611686018427387904 : UInt64)))), .second, .unset, .unset] [])) (fun _ k => XS.ifNo X7.here hx rfl (hb hby at_123) rfl ((if0 _ _).trans (tlt hc).2.1) k) ?_
          refine own_go (t' := T7.setTop (mkF m 129 #[.val (.int p0), .val (.int p1), .val (.int p2), .val (.int p3), .val (.int p4), .val (.int z5), .val (.int z6), .val (.double v), .second, .val (.ref aA), .val (.ref aB), .val (.ref aL), .val (.double (Native.java_lang_Math.nans.pick64 true (4618441417868443648 : UInt64) (FP.dsub v (4611686018427387904 : UInt64)))), .second, .unset, .unset] [(.double (4618441417868443648 : UInt64))])) (X7.ldc2DoubleC hx (own := "com/example/rappen/rappen/PartLayoutHeadingSizePinLaw") (index := 25) (b := (4618441417868443648 : UInt64)) hown (mvT hZ (hw _ (List.mem_of_getElem? (i := 48) rfl))) (g := (mkF m 126 #[.val (.int p0), .val (.int p1), .val (.int p2), .val (.int p3), .val (.int p4), .val (.int z5), .val (.int z6), .val (.double v), .second, .val (.ref aA), .val (.ref aB), .val (.ref aL), .val (.double (Native.java_lang_Math.nans.pick64 true (4618441417868443648 : UInt64) (FP.dsub v (4611686018427387904 : UInt64)))), .second, .unset, .unset] [])) rfl (hb hby at_126)) ?_
          refine own_go (t' := T7.setTop (mkF m 131 #[.val (.int p0), .val (.int p1), .val (.int p2), .val (.int p3), .val (.int p4), .val (.int z5), .val (.int z6), .val (.double v), .second, .val (.ref aA), .val (.ref aB), .val (.ref aL), .val (.double (Native.java_lang_Math.nans.pick64 true (4618441417868443648 : UInt64) (FP.dsub v (4611686018427387904 : UInt64)))), .second, .val (.double (4618441417868443648 : UInt64)), .second] [])) (fun _ k => XS.dstore X7.here hx rfl (hb hby at_129) rfl (l' := #[.val (.int p0), .val (.int p1), .val (.int p2), .val (.int p3), .val (.int p4), .val (.int z5), .val (.int z6), .val (.double v), .second, .val (.ref aA), .val (.ref aB), .val (.ref aL), .val (.double (Native.java_lang_Math.nans.pick64 true (4618441417868443648 : UInt64) (FP.dsub v (4611686018427387904 : UInt64)))), .second, .val (.double (4618441417868443648 : UInt64)), .second]) rfl k) ?_
          refine own_go (t' := T7.setTop (mkF m 142 #[.val (.int p0), .val (.int p1), .val (.int p2), .val (.int p3), .val (.int p4), .val (.int z5), .val (.int z6), .val (.double v), .second, .val (.ref aA), .val (.ref aB), .val (.ref aL), .val (.double (Native.java_lang_Math.nans.pick64 true (4618441417868443648 : UInt64) (FP.dsub v (4611686018427387904 : UInt64)))), .second, .val (.double (4618441417868443648 : UInt64)), .second] [])) (fun _ k => XS.goto X7.here hx rfl (pc0 := 131) (pc' := 142) rfl (hb hby at_131) (by decide) (by decide) k) ?_
          exact J4 _ (hf.1 hc)
        ·
          refine own_go (t' := T7.setTop (mkF m 134 #[.val (.int p0), .val (.int p1), .val (.int p2), .val (.int p3), .val (.int p4), .val (.int z5), .val (.int z6), .val (.double v), .second, .val (.ref aA), .val (.ref aB), .val (.ref aL), .val (.double (Native.java_lang_Math.nans.pick64 true (4618441417868443648 : UInt64) (FP.dsub v (4611686018427387904 : UInt64)))), .second, .unset, .unset] [])) (fun _ k => XS.ifYes X7.here hx rfl (pc0 := 123) (pc' := 134) rfl (hb hby at_123) rfl ((if0 _ _).trans (flt hc).2.1) (by decide) (by decide) k) ?_
          refine own_go (t' := T7.setTop (mkF m 136 #[.val (.int p0), .val (.int p1), .val (.int p2), .val (.int p3), .val (.int p4), .val (.int z5), .val (.int z6), .val (.double v), .second, .val (.ref aA), .val (.ref aB), .val (.ref aL), .val (.double (Native.java_lang_Math.nans.pick64 true (4618441417868443648 : UInt64) (FP.dsub v (4611686018427387904 : UInt64)))), .second, .unset, .unset] [(.double v)])) (fun _ k => XS.dload X7.here hx rfl (hb hby at_134) rfl k) ?_
          refine own_go (t' := T7.setTop (mkF m 139 #[.val (.int p0), .val (.int p1), .val (.int p2), .val (.int p3), .val (.int p4), .val (.int z5), .val (.int z6), .val (.double v), .second, .val (.ref aA), .val (.ref aB), .val (.ref aL), .val (.double (Native.java_lang_Math.nans.pick64 true (4618441417868443648 : UInt64) (FP.dsub v (4611686018427387904 : UInt64)))), .second, .unset, .unset] [(.double (4611686018427387904 : UInt64)), (.double v)])) (X7.ldc2DoubleC hx (own := "com/example/rappen/rappen/PartLayoutHeadingSizePinLaw") (index := 27) (b := (4611686018427387904 : UInt64)) hown (mvT hZ (hw _ (List.mem_of_getElem? (i := 49) rfl))) (g := (mkF m 136 #[.val (.int p0), .val (.int p1), .val (.int p2), .val (.int p3), .val (.int p4), .val (.int z5), .val (.int z6), .val (.double v), .second, .val (.ref aA), .val (.ref aB), .val (.ref aL), .val (.double (Native.java_lang_Math.nans.pick64 true (4618441417868443648 : UInt64) (FP.dsub v (4611686018427387904 : UInt64)))), .second, .unset, .unset] [(.double v)])) rfl (hb hby at_136)) ?_
          refine own_go (t' := T7.setTop (mkF m 140 #[.val (.int p0), .val (.int p1), .val (.int p2), .val (.int p3), .val (.int p4), .val (.int z5), .val (.int z6), .val (.double v), .second, .val (.ref aA), .val (.ref aB), .val (.ref aL), .val (.double (Native.java_lang_Math.nans.pick64 true (4618441417868443648 : UInt64) (FP.dsub v (4611686018427387904 : UInt64)))), .second, .unset, .unset] [(.double (FP.dsub v (4611686018427387904 : UInt64)))])) (fun _ k => XS.dsubS X7.here hx rfl (hb hby at_139) rfl (OwnFp.no_nan (OwnFp.fin_nan fr)) rfl k) ?_
          refine own_go (t' := T7.setTop (mkF m 142 #[.val (.int p0), .val (.int p1), .val (.int p2), .val (.int p3), .val (.int p4), .val (.int z5), .val (.int z6), .val (.double v), .second, .val (.ref aA), .val (.ref aB), .val (.ref aL), .val (.double (Native.java_lang_Math.nans.pick64 true (4618441417868443648 : UInt64) (FP.dsub v (4611686018427387904 : UInt64)))), .second, .val (.double (FP.dsub v (4611686018427387904 : UInt64))), .second] [])) (fun _ k => XS.dstore X7.here hx rfl (hb hby at_140) rfl (l' := #[.val (.int p0), .val (.int p1), .val (.int p2), .val (.int p3), .val (.int p4), .val (.int z5), .val (.int z6), .val (.double v), .second, .val (.ref aA), .val (.ref aB), .val (.ref aL), .val (.double (Native.java_lang_Math.nans.pick64 true (4618441417868443648 : UInt64) (FP.dsub v (4611686018427387904 : UInt64)))), .second, .val (.double (FP.dsub v (4611686018427387904 : UInt64))), .second]) rfl k) ?_
          exact J4 _ (hf.2 hc)
      by_cases hc30 : z5 = 0
      ·
        refine own_go (t' := s₁.setTop (mkF m 39 #[.val (.int p0), .val (.int p1), .val (.int p2), .val (.int p3), .val (.int p4), .val (.int z5), .val (.int z6), .unset, .unset, .unset, .unset, .unset, .unset, .unset, .unset, .unset] [(.double (FP.i2d p0))])) (fun _ k => XS.ifYes X0.here hx rfl (pc0 := 30) (pc' := 39) rfl (hb hby at_30) rfl ((if0 _ _).trans (teq hc30).1) (by decide) (by decide) k) ?_
        refine own_go (t' := s₁.setTop (mkF m 40 #[.val (.int p0), .val (.int p1), .val (.int p2), .val (.int p3), .val (.int p4), .val (.int z5), .val (.int z6), .unset, .unset, .unset, .unset, .unset, .unset, .unset, .unset, .unset] [(.double (0 : UInt64)), (.double (FP.i2d p0))])) (fun _ k => XS.dconst0 X0.here hx rfl (hb hby at_39) rfl k) ?_
        exact J3 _ (Or.inl rfl)
      ·
        refine own_go (t' := s₁.setTop (mkF m 33 #[.val (.int p0), .val (.int p1), .val (.int p2), .val (.int p3), .val (.int p4), .val (.int z5), .val (.int z6), .unset, .unset, .unset, .unset, .unset, .unset, .unset, .unset, .unset] [(.double (FP.i2d p0))])) (fun _ k => XS.ifNo X0.here hx rfl (hb hby at_30) rfl ((if0 _ _).trans (feq hc30).1) k) ?_
        refine own_go (t' := s₁.setTop (mkF m 36 #[.val (.int p0), .val (.int p1), .val (.int p2), .val (.int p3), .val (.int p4), .val (.int z5), .val (.int z6), .unset, .unset, .unset, .unset, .unset, .unset, .unset, .unset, .unset] [(.double (4602678819172646912 : UInt64)), (.double (FP.i2d p0))])) (X0.ldc2DoubleC hx (own := "com/example/rappen/rappen/PartLayoutHeadingSizePinLaw") (index := 7) (b := (4602678819172646912 : UInt64)) hown (mvT hZ (hw _ (List.mem_of_getElem? (i := 0) rfl))) (g := (mkF m 33 #[.val (.int p0), .val (.int p1), .val (.int p2), .val (.int p3), .val (.int p4), .val (.int z5), .val (.int z6), .unset, .unset, .unset, .unset, .unset, .unset, .unset, .unset, .unset] [(.double (FP.i2d p0))])) rfl (hb hby at_33)) ?_
        refine own_go (t' := s₁.setTop (mkF m 40 #[.val (.int p0), .val (.int p1), .val (.int p2), .val (.int p3), .val (.int p4), .val (.int z5), .val (.int z6), .unset, .unset, .unset, .unset, .unset, .unset, .unset, .unset, .unset] [(.double (4602678819172646912 : UInt64)), (.double (FP.i2d p0))])) (fun _ k => XS.goto X0.here hx rfl (pc0 := 36) (pc' := 40) rfl (hb hby at_36) (by decide) (by decide) k) ?_
        exact J3 _ (Or.inr rfl)
    by_cases hc16 : (p1 &&& (2 : Int32)) = 0
    ·
      refine own_go (t' := s₁.setTop (mkF m 23 #[.val (.int p0), .val (.int p1), .val (.int p2), .val (.int p3), .val (.int p4), .val (.int z5), .unset, .unset, .unset, .unset, .unset, .unset, .unset, .unset, .unset, .unset] [])) (fun _ k => XS.ifYes X0.here hx rfl (pc0 := 16) (pc' := 23) rfl (hb hby at_16) rfl ((if0 _ _).trans (teq hc16).1) (by decide) (by decide) k) ?_
      refine own_go (t' := s₁.setTop (mkF m 24 #[.val (.int p0), .val (.int p1), .val (.int p2), .val (.int p3), .val (.int p4), .val (.int z5), .unset, .unset, .unset, .unset, .unset, .unset, .unset, .unset, .unset, .unset] [(.int (0 : Int32))])) (fun _ k => XS.iconst X0.here hx rfl (hb hby at_23) k) ?_
      exact J2 _ (by decide)
    ·
      refine own_go (t' := s₁.setTop (mkF m 19 #[.val (.int p0), .val (.int p1), .val (.int p2), .val (.int p3), .val (.int p4), .val (.int z5), .unset, .unset, .unset, .unset, .unset, .unset, .unset, .unset, .unset, .unset] [])) (fun _ k => XS.ifNo X0.here hx rfl (hb hby at_16) rfl ((if0 _ _).trans (feq hc16).1) k) ?_
      refine own_go (t' := s₁.setTop (mkF m 20 #[.val (.int p0), .val (.int p1), .val (.int p2), .val (.int p3), .val (.int p4), .val (.int z5), .unset, .unset, .unset, .unset, .unset, .unset, .unset, .unset, .unset, .unset] [(.int (1 : Int32))])) (fun _ k => XS.iconst X0.here hx rfl (hb hby at_19) k) ?_
      refine own_go (t' := s₁.setTop (mkF m 24 #[.val (.int p0), .val (.int p1), .val (.int p2), .val (.int p3), .val (.int p4), .val (.int z5), .unset, .unset, .unset, .unset, .unset, .unset, .unset, .unset, .unset, .unset] [(.int (1 : Int32))])) (fun _ k => XS.goto X0.here hx rfl (pc0 := 20) (pc' := 24) rfl (hb hby at_20) (by decide) (by decide) k) ?_
      exact J2 _ (by decide)
  by_cases hc3 : (p1 &&& (1 : Int32)) = 0
  ·
    refine own_go (t' := s₁.setTop (mkF m 10 #[.val (.int p0), .val (.int p1), .val (.int p2), .val (.int p3), .val (.int p4), .unset, .unset, .unset, .unset, .unset, .unset, .unset, .unset, .unset, .unset, .unset] [])) (fun _ k => XS.ifYes X0.here hx rfl (pc0 := 3) (pc' := 10) rfl (hb hby at_3) rfl ((if0 _ _).trans (teq hc3).1) (by decide) (by decide) k) ?_
    refine own_go (t' := s₁.setTop (mkF m 11 #[.val (.int p0), .val (.int p1), .val (.int p2), .val (.int p3), .val (.int p4), .unset, .unset, .unset, .unset, .unset, .unset, .unset, .unset, .unset, .unset, .unset] [(.int (0 : Int32))])) (fun _ k => XS.iconst X0.here hx rfl (hb hby at_10) k) ?_
    exact J1 _ (by decide)
  ·
    refine own_go (t' := s₁.setTop (mkF m 6 #[.val (.int p0), .val (.int p1), .val (.int p2), .val (.int p3), .val (.int p4), .unset, .unset, .unset, .unset, .unset, .unset, .unset, .unset, .unset, .unset, .unset] [])) (fun _ k => XS.ifNo X0.here hx rfl (hb hby at_3) rfl ((if0 _ _).trans (feq hc3).1) k) ?_
    refine own_go (t' := s₁.setTop (mkF m 7 #[.val (.int p0), .val (.int p1), .val (.int p2), .val (.int p3), .val (.int p4), .unset, .unset, .unset, .unset, .unset, .unset, .unset, .unset, .unset, .unset, .unset] [(.int (1 : Int32))])) (fun _ k => XS.iconst X0.here hx rfl (hb hby at_6) k) ?_
    refine own_go (t' := s₁.setTop (mkF m 11 #[.val (.int p0), .val (.int p1), .val (.int p2), .val (.int p3), .val (.int p4), .unset, .unset, .unset, .unset, .unset, .unset, .unset, .unset, .unset, .unset, .unset] [(.int (1 : Int32))])) (fun _ k => XS.goto X0.here hx rfl (pc0 := 7) (pc' := 11) rfl (hb hby at_7) (by decide) (by decide) k) ?_
    exact J1 _ (by decide)
set_option maxRecDepth 65536 in
set_option maxHeartbeats 40000000 in
theorem comes_1 {Post : Tables → Env → Array Value → State → Outcome → State → Prop} (hpost : ∀ tb e args s v u, (limb_1_1.after args s (.returned v) u = true ∧ limb_1_2.after args s (.returned v) u = true ∧ True) → FrameEnd s (.returned v) u (Jvm.fieldLocs frame_1_writes args s ++ Jvm.arrayLocs frame_1_arrays args s ++ Jvm.staticLocs frame_1_statics s) 16 128 → Post tb e args s (.returned v) u) :
    ArmFor flags0 classFile x code maxLocals ret World_1 tables_1 room_1 Calls_1 rest_1 Pre_1 Post := by
  intro l hfl _ _ p e ha hc hk s m args below hf hA hF happ hP
  obtain ⟨hcalls, hrest, hpre⟩ := hP
  obtain ⟨-, -, -, hnamed, -, -, -, hat⟩ := (Spec.applies_iff hf).mp happ
  obtain ⟨hg, hn⟩ := and_e (Cond.before_iff.mp (show (Jvm.Cond.and given_1 narrow_1).before args s = true from hpre))
  obtain ⟨h1, g0⟩ := and_e hg
  obtain ⟨k0, g1⟩ := and_e g0
  obtain ⟨k1, g2⟩ := and_e g1
  obtain ⟨k2, g3⟩ := and_e g2
  obtain ⟨k3, g4⟩ := and_e g3
  have k4 := g4
  obtain ⟨w0, w1, w2, w3, w4, rfl⟩ : ∃ w0 w1 w2 w3 w4 : Value, args = #[w0, w1, w2, w3, w4] := by
    have hs : args.size = 5 := by simpa [Cond.value, given_1] using h1
    obtain ⟨L⟩ := args
    match L, hs with
    | [w0, w1, w2, w3, w4], _ => exact ⟨w0, w1, w2, w3, w4, rfl⟩
  have hw := fun d (hd : d ∈ tables_1) => atoms_spec (ws := Jvm.Cond.code x code maxLocals ret :: tables_1) hat d (List.mem_cons_of_mem _ hd)
  have hfit : Fit s := fun {y c} hc i hi => by
    obtain ⟨ha, rfl⟩ := Array.getElem?_eq_some_iff.mp hc
    have q := List.all_eq_true.mp ((Array.all_eq_true_iff_forall_mem.mp hF) _ (Array.getElem_mem ha)) i (List.mem_range.mpr hi)
    simpa [Array.getElem?_eq_getElem hi] using q
  obtain ⟨i0, e0⟩ := is_v k0
  obtain rfl : w0 = (.int i0) := Option.some.inj e0
  obtain ⟨i1, e1⟩ := is_v k1
  obtain rfl : w1 = (.int i1) := Option.some.inj e1
  obtain ⟨i2, e2⟩ := is_v k2
  obtain rfl : w2 = (.int i2) := Option.some.inj e2
  obtain ⟨i3, e3⟩ := is_v k3
  obtain rfl : w3 = (.int i3) := Option.some.inj e3
  obtain ⟨i4, e4⟩ := is_v k4
  obtain rfl : w4 = (.int i4) := Option.some.inj e4
  obtain ⟨n, o, q1, q2, q3, _, L, rfl, ⟨rfl, N⟩, hq⟩ := rm_law l s _ hw tables_1 i0 i1 i2 i3 i4 s.heap s.heap.size (Nat.le_refl _)  p e ha hc hk s m _ below hf ((Spec.applies_iff_loose hf).mp happ).1 ⟨rfl, State.Warmed39.refl s, rfl⟩ trivial
  refine ⟨n, _, q1, q2, q3, hpost _ _ _ _ _ _ ⟨Cond.after_iff.mpr rfl, Cond.after_iff.mpr (eq_i res_at (Term.int_eval (1)) rfl), trivial⟩ ⟨hq.1, hq.2.1, (hq.2.2.sift fun y hy => Or.inr (N y hy)).mono (by decide) (by decide)⟩⟩
theorem main_1_1 : Claimed_1_1 := comes_1 fun _ _ _ _ _ _ h hF => ⟨h.1, hF⟩
theorem main_1_2 : Claimed_1_2 := comes_1 fun _ _ _ _ _ _ h hF => ⟨h.2.1, hF⟩
end Jvm.Pilot.@@N@@
namespace Jvm.Pilot.@@N@@
open Jvm Jvm.ClassFile Sem Op Lib Jvm.Free Jvm.Stand Jvm.Pilot.@@N@@.Jvm.D
/-! MADE BY PROGRAM (witnessworld.py) out of the Statement's table words and the real class files: 12 classes; the members and pool entries that the words name. The judged class is class 1, her method 1. -/
namespace start1
open Jvm.ClassFile
def u (s : String) : CpInfo := .utf8 (stringToUtf16 s)
/-- a pool by its gaps: so many unusable entries, then the entry; so many at the end -/
def gap : Nat → List CpInfo → List CpInfo
  | 0, r => r
  | n + 1, r => .unusable :: gap n r
def poolList (es : List (Nat × CpInfo)) (last : Nat) : List CpInfo := es.foldr (fun e r => gap e.1 (e.2 :: r)) (gap last [])
def pool (es : List (Nat × CpInfo)) (last : Nat) : Array CpInfo := ⟨poolList es last⟩
def fileOf (pool : Array CpInfo) (this : Nat) (attrs : Array Attribute := #[]) (ms : Array MethodInfo := #[]) (fl : Nat := 33) (sup : Nat := 0) (ifs : Array Nat := #[]) (fds : Array FieldInfo := #[]) : ClassFile where
  minorVersion := 0
  majorVersion := 65
  constantPool := pool
  accessFlags := fl
  thisClass := this
  superClass := sup
  interfaces := ifs
  fields := fds
  methods := ms
  attributes := attrs
def plain (name : String) (sup : Option ClassId) : Class where
  name := name
  kind := .ordinary
  loader := none
  accessFlags := 33
  super := sup
  interfaces := #[]
  cf := none
  fields := #[]
  methods := #[]
  instanceTypes := #[]
  staticTypes := #[]
  resolved := #[]
  callSites := []
  init := .initialized
  statics := none
  mirror := none

def pool0 : Array CpInfo := pool [(5, u "<init>"), (0, u "()V"), (1, .class_ 10), (1, u "java/lang/Object")] 113

def k0c0 : Code := { maxStack := 0, maxLocals := 1, code := object_method_1_code, exceptionTable := #[], attributes := #[] }
def k0m0 : Method := { name := "<init>", desc := "()V", sig := { parameters := [], returnType := none }, accessFlags := 1, code := some k0c0 }
/-- java/lang/Object -/
def k0 : Class := { plain "java/lang/Object" none with
  accessFlags := 33
  interfaces := #[]
  cf := some (fileOf pool0 8 #[] #[{ accessFlags := 1, nameIndex := 5, descriptorIndex := 6, attributes := #[] }] 33 0 #[] #[])
  fields := #[]
  methods := #[k0m0]
  instanceTypes := #[]
  staticTypes := #[]
  resolved := Array.replicate 124 none
  statics := none }

def pool1 : Array CpInfo := pool [(2, .class_ 4), (1, u "java/lang/Object"), (0, u "<init>"), (0, u "()V"), (0, .double 4602678819172646912), (1, .class_ 10), (0, u "com/example/rappen/rappen/BlankField"), (0, .methodref 9 12), (0, .nameAndType 5 13), (0, u "(DD)V"), (0, .class_ 15), (0, u "com/example/rappen/rappen/PartLayout"), (0, .methodref 14 17), (0, .nameAndType 5 18), (0, u "(DDZLcom/example/rappen/rappen/BlankField;Lcom/example/rappen/rappen/BlankField;)V"), (0, .methodref 14 20), (0, .nameAndType 21 22), (0, u "headingSize"), (0, u "(D)D"), (0, .double 4620693217682128896), (1, .double 4618441417868443648), (1, .double 4611686018427387904), (1, .class_ 30), (0, u "com/example/rappen/rappen/PartLayoutHeadingSizePinLaw"), (2, u "law"), (0, u "(IIIII)Z")] 3

def k1m0 : Method := { name := "<init>", desc := "()V", sig := { parameters := [], returnType := none }, accessFlags := 2, code := none }
def k1c1 : Code := { maxStack := 9, maxLocals := 16, code := code, exceptionTable := #[], attributes := #[] }
def k1m1 : Method := { name := "law", desc := "(IIIII)Z", sig := { parameters := [.int, .int, .int, .int, .int], returnType := some .boolean }, accessFlags := 9, code := some k1c1 }
/-- com/example/rappen/rappen/PartLayoutHeadingSizePinLaw -/
def k1 : Class := { plain "com/example/rappen/rappen/PartLayoutHeadingSizePinLaw" (some 0) with
  accessFlags := 49
  interfaces := #[]
  cf := some (fileOf pool1 29 #[] #[{ accessFlags := 2, nameIndex := 5, descriptorIndex := 6, attributes := #[] }, { accessFlags := 9, nameIndex := 33, descriptorIndex := 34, attributes := #[] }] 49 2 #[] #[])
  fields := #[]
  methods := #[k1m0, k1m1]
  instanceTypes := #[]
  staticTypes := #[]
  resolved := Array.replicate 38 none
  statics := none }

def pool2 : Array CpInfo := pool [(1, .methodref 2 3), (0, .class_ 4), (0, .nameAndType 5 6), (0, u "java/lang/Object"), (0, u "<init>"), (0, u "()V"), (0, .class_ 8), (0, u "java/lang/Record")] 13

def k2c0 : Code := { maxStack := 1, maxLocals := 1, code := jdk_30_method_1_code, exceptionTable := #[], attributes := #[] }
def k2m0 : Method := { name := "<init>", desc := "()V", sig := { parameters := [], returnType := none }, accessFlags := 4, code := some k2c0 }
/-- java/lang/Record -/
def k2 : Class := { plain "java/lang/Record" (some 0) with
  accessFlags := 1057
  interfaces := #[]
  cf := some (fileOf pool2 7 #[] #[{ accessFlags := 4, nameIndex := 5, descriptorIndex := 6, attributes := #[] }] 1057 2 #[] #[])
  fields := #[]
  methods := #[k2m0]
  instanceTypes := #[]
  staticTypes := #[]
  resolved := Array.replicate 22 none
  statics := none }

def pool3 : Array CpInfo := pool [(3, .methodref 4 5), (0, .class_ 6), (0, .nameAndType 7 8), (0, u "java/lang/Record"), (0, u "<init>"), (0, u "()V"), (0, .fieldref 10 11), (0, .class_ 12), (0, .nameAndType 13 14), (0, u "com/example/rappen/rappen/BlankField"), (0, u "width"), (0, u "D"), (0, .fieldref 10 16), (0, .nameAndType 17 14), (0, u "height"), (14, u "(DD)V"), (25, u "MARK_WIDTH_MM"), (1, u "MARK_LENGTH_MM")] 41

def k3c0 : Code := { maxStack := 3, maxLocals := 5, code := prog_4_method_1_code, exceptionTable := #[], attributes := #[] }
def k3m0 : Method := { name := "<init>", desc := "(DD)V", sig := { parameters := [.double, .double], returnType := none }, accessFlags := 0, code := some k3c0 }
/-- com/example/rappen/rappen/BlankField -/
def k3 : Class := { plain "com/example/rappen/rappen/BlankField" (some 2) with
  accessFlags := 48
  interfaces := #[]
  cf := some (fileOf pool3 10 #[] #[{ accessFlags := 0, nameIndex := 7, descriptorIndex := 32, attributes := #[] }] 48 4 #[] #[{ accessFlags := 18, nameIndex := 13, descriptorIndex := 14, attributes := #[] }, { accessFlags := 18, nameIndex := 17, descriptorIndex := 14, attributes := #[] }, { accessFlags := 24, nameIndex := 58, descriptorIndex := 14, attributes := #[] }, { accessFlags := 26, nameIndex := 60, descriptorIndex := 14, attributes := #[] }])
  fields := #[{ name := "width", type := .double, accessFlags := 18, slot := 0, constantValue := 0 }, { name := "height", type := .double, accessFlags := 18, slot := 1, constantValue := 0 }, { name := "MARK_WIDTH_MM", type := .double, accessFlags := 24, slot := 0, constantValue := 0 }, { name := "MARK_LENGTH_MM", type := .double, accessFlags := 26, slot := 1, constantValue := 0 }]
  methods := #[k3m0]
  instanceTypes := #[.double, .double]
  staticTypes := #[.double, .double]
  resolved := Array.replicate 102 none
  statics := none }

def pool4 : Array CpInfo := pool [(1, .methodref 2 3), (0, .class_ 4), (0, .nameAndType 5 6), (0, u "java/lang/Record"), (0, u "<init>"), (0, u "()V"), (0, .fieldref 8 9), (0, .class_ 10), (0, .nameAndType 11 12), (0, u "com/example/rappen/rappen/PartLayout"), (0, u "largestValueSize"), (0, u "D"), (0, .fieldref 8 14), (0, .nameAndType 15 12), (0, u "smallestValueSize"), (0, .fieldref 8 17), (0, .nameAndType 18 19), (0, u "leavesOutStreets"), (0, u "Z"), (0, .fieldref 8 21), (0, .nameAndType 22 23), (0, u "amountField"), (0, u "Lcom/example/rappen/rappen/BlankField;"), (0, .fieldref 8 25), (0, .nameAndType 26 23), (0, u "debtorField"), (61, u "headingSize"), (0, u "(D)D"), (0, .double 4618441417868443648), (1, .double 4611686018427387904), (1, .methodref 95 96), (0, .class_ 97), (0, .nameAndType 98 99), (0, u "java/lang/Math"), (0, u "max"), (0, u "(DD)D"), (29, u "(DDZLcom/example/rappen/rappen/BlankField;Lcom/example/rappen/rappen/BlankField;)V"), (2, u "PAYMENT_PART"), (0, u "Lcom/example/rappen/rappen/PartLayout;"), (8, u "RECEIPT"), (0, u "SMALLEST_SIZE"), (1, u "SIZE_STEP"), (2, u "HEADING_STEP"), (0, u "HEIGHT_MM"), (0, u "I"), (1, u "MARGIN_MM"), (1, u "TITLE_SECTION_HEIGHT_MM"), (1, u "AMOUNT_OFFSET_MM"), (1, u "TITLE_SIZE")] 44

def k4c0 : Code := { maxStack := 3, maxLocals := 8, code := prog_41_method_1_code, exceptionTable := #[], attributes := #[] }
def k4m0 : Method := { name := "<init>", desc := "(DDZLcom/example/rappen/rappen/BlankField;Lcom/example/rappen/rappen/BlankField;)V", sig := { parameters := [.double, .double, .boolean, (.object "com/example/rappen/rappen/BlankField"), (.object "com/example/rappen/rappen/BlankField")], returnType := none }, accessFlags := 0, code := some k4c0 }
def k4c1 : Code := { maxStack := 6, maxLocals := 3, code := prog_41_method_5_code, exceptionTable := #[], attributes := #[] }
def k4m1 : Method := { name := "headingSize", desc := "(D)D", sig := { parameters := [.double], returnType := some .double }, accessFlags := 0, code := some k4c1 }
/-- com/example/rappen/rappen/PartLayout -/
def k4 : Class := { plain "com/example/rappen/rappen/PartLayout" (some 2) with
  accessFlags := 48
  interfaces := #[]
  cf := some (fileOf pool4 8 #[] #[{ accessFlags := 0, nameIndex := 5, descriptorIndex := 129, attributes := #[] }, { accessFlags := 0, nameIndex := 88, descriptorIndex := 89, attributes := #[] }] 48 2 #[] #[{ accessFlags := 18, nameIndex := 11, descriptorIndex := 12, attributes := #[] }, { accessFlags := 18, nameIndex := 15, descriptorIndex := 12, attributes := #[] }, { accessFlags := 18, nameIndex := 18, descriptorIndex := 19, attributes := #[] }, { accessFlags := 18, nameIndex := 22, descriptorIndex := 23, attributes := #[] }, { accessFlags := 18, nameIndex := 26, descriptorIndex := 23, attributes := #[] }, { accessFlags := 24, nameIndex := 132, descriptorIndex := 133, attributes := #[] }, { accessFlags := 24, nameIndex := 142, descriptorIndex := 133, attributes := #[] }, { accessFlags := 24, nameIndex := 143, descriptorIndex := 12, attributes := #[] }, { accessFlags := 24, nameIndex := 145, descriptorIndex := 12, attributes := #[] }, { accessFlags := 26, nameIndex := 148, descriptorIndex := 12, attributes := #[] }, { accessFlags := 24, nameIndex := 149, descriptorIndex := 150, attributes := #[] }, { accessFlags := 24, nameIndex := 152, descriptorIndex := 150, attributes := #[] }, { accessFlags := 24, nameIndex := 154, descriptorIndex := 150, attributes := #[] }, { accessFlags := 24, nameIndex := 156, descriptorIndex := 150, attributes := #[] }, { accessFlags := 26, nameIndex := 158, descriptorIndex := 12, attributes := #[] }])
  fields := #[{ name := "largestValueSize", type := .double, accessFlags := 18, slot := 0, constantValue := 0 }, { name := "smallestValueSize", type := .double, accessFlags := 18, slot := 1, constantValue := 0 }, { name := "leavesOutStreets", type := .boolean, accessFlags := 18, slot := 2, constantValue := 0 }, { name := "amountField", type := (.object "com/example/rappen/rappen/BlankField"), accessFlags := 18, slot := 3, constantValue := 0 }, { name := "debtorField", type := (.object "com/example/rappen/rappen/BlankField"), accessFlags := 18, slot := 4, constantValue := 0 }, { name := "PAYMENT_PART", type := (.object "com/example/rappen/rappen/PartLayout"), accessFlags := 24, slot := 0, constantValue := 0 }, { name := "RECEIPT", type := (.object "com/example/rappen/rappen/PartLayout"), accessFlags := 24, slot := 1, constantValue := 0 }, { name := "SMALLEST_SIZE", type := .double, accessFlags := 24, slot := 2, constantValue := 0 }, { name := "SIZE_STEP", type := .double, accessFlags := 24, slot := 3, constantValue := 0 }, { name := "HEADING_STEP", type := .double, accessFlags := 26, slot := 4, constantValue := 0 }, { name := "HEIGHT_MM", type := .int, accessFlags := 24, slot := 5, constantValue := 0 }, { name := "MARGIN_MM", type := .int, accessFlags := 24, slot := 6, constantValue := 0 }, { name := "TITLE_SECTION_HEIGHT_MM", type := .int, accessFlags := 24, slot := 7, constantValue := 0 }, { name := "AMOUNT_OFFSET_MM", type := .int, accessFlags := 24, slot := 8, constantValue := 0 }, { name := "TITLE_SIZE", type := .double, accessFlags := 26, slot := 9, constantValue := 0 }]
  methods := #[k4m0, k4m1]
  instanceTypes := #[.double, .double, .boolean, (.object "com/example/rappen/rappen/BlankField"), (.object "com/example/rappen/rappen/BlankField")]
  staticTypes := #[(.object "com/example/rappen/rappen/PartLayout"), (.object "com/example/rappen/rappen/PartLayout"), .double, .double, .double, .int, .int, .int, .int, .double]
  resolved := Array.replicate 203 none
  statics := none }

def pool5 : Array CpInfo := pool [(1, .class_ 2), (0, u "java/lang/Math"), (1, .class_ 6), (1, u "java/lang/Object"), (0, u "<init>"), (0, u "()V"), (43, u "(DD)D"), (45, .class_ 100), (1, u "java/lang/Math$RandomNumberGeneratorHolder"), (71, u "negativeZeroFloatBits"), (0, u "J"), (2, u "negativeZeroDoubleBits"), (21, u "max"), (46, u "$assertionsDisabled"), (0, u "Z"), (91, u "twoToTheDoubleScaleDown"), (0, u "D"), (4, u "twoToTheDoubleScaleUp"), (9, u "E"), (3, u "PI"), (2, u "TAU"), (2, u "DEGREES_TO_RADIANS"), (0, u "RADIANS_TO_DEGREES")] 94

def k5m0 : Method := { name := "<init>", desc := "()V", sig := { parameters := [], returnType := none }, accessFlags := 2, code := none }
def k5c1 : Code := { maxStack := 4, maxLocals := 4, code := jdk_29_method_68_code, exceptionTable := #[], attributes := #[] }
def k5m1 : Method := { name := "max", desc := "(DD)D", sig := { parameters := [.double, .double], returnType := some .double }, accessFlags := 9, code := some k5c1 }
/-- java/lang/Math -/
def k5 : Class := { plain "java/lang/Math" (some 0) with
  accessFlags := 49
  interfaces := #[]
  cf := some (fileOf pool5 1 #[.nestMembers #[98]] #[{ accessFlags := 2, nameIndex := 7, descriptorIndex := 8, attributes := #[] }, { accessFlags := 9, nameIndex := 198, descriptorIndex := 52, attributes := #[] }] 49 4 #[] #[{ accessFlags := 25, nameIndex := 354, descriptorIndex := 339, attributes := #[] }, { accessFlags := 25, nameIndex := 358, descriptorIndex := 339, attributes := #[] }, { accessFlags := 25, nameIndex := 361, descriptorIndex := 339, attributes := #[] }, { accessFlags := 26, nameIndex := 364, descriptorIndex := 339, attributes := #[] }, { accessFlags := 26, nameIndex := 365, descriptorIndex := 339, attributes := #[] }, { accessFlags := 26, nameIndex := 172, descriptorIndex := 173, attributes := #[] }, { accessFlags := 26, nameIndex := 176, descriptorIndex := 173, attributes := #[] }, { accessFlags := 8, nameIndex := 344, descriptorIndex := 339, attributes := #[] }, { accessFlags := 8, nameIndex := 338, descriptorIndex := 339, attributes := #[] }, { accessFlags := 4120, nameIndex := 245, descriptorIndex := 246, attributes := #[] }])
  fields := #[{ name := "E", type := .double, accessFlags := 25, slot := 0, constantValue := 0 }, { name := "PI", type := .double, accessFlags := 25, slot := 1, constantValue := 0 }, { name := "TAU", type := .double, accessFlags := 25, slot := 2, constantValue := 0 }, { name := "DEGREES_TO_RADIANS", type := .double, accessFlags := 26, slot := 3, constantValue := 0 }, { name := "RADIANS_TO_DEGREES", type := .double, accessFlags := 26, slot := 4, constantValue := 0 }, { name := "negativeZeroFloatBits", type := .long, accessFlags := 26, slot := 5, constantValue := 0 }, { name := "negativeZeroDoubleBits", type := .long, accessFlags := 26, slot := 6, constantValue := 0 }, { name := "twoToTheDoubleScaleUp", type := .double, accessFlags := 8, slot := 7, constantValue := 0 }, { name := "twoToTheDoubleScaleDown", type := .double, accessFlags := 8, slot := 8, constantValue := 0 }, { name := "$assertionsDisabled", type := .boolean, accessFlags := 4120, slot := 9, constantValue := 0 }]
  methods := #[k5m0, k5m1]
  instanceTypes := #[]
  staticTypes := #[.double, .double, .double, .double, .double, .long, .long, .double, .double, .boolean]
  resolved := Array.replicate 460 none
  statics := none }

def pool6 : Array CpInfo := pool [(1, u "java/lang/Cloneable"), (0, .class_ 1), (0, u "java/lang/Object"), (0, .class_ 3)] 3

/-- java/lang/Cloneable -/
def k6 : Class := { plain "java/lang/Cloneable" (some 0) with
  accessFlags := 1537
  interfaces := #[]
  cf := some (fileOf pool6 2 #[] #[] 1537 4 #[] #[])
  fields := #[]
  methods := #[]
  instanceTypes := #[]
  staticTypes := #[]
  resolved := Array.replicate 8 none
  statics := none }

def pool7 : Array CpInfo := pool [(1, u "java/io/Serializable"), (0, .class_ 1), (0, u "java/lang/Object"), (0, .class_ 3)] 3

/-- java/io/Serializable -/
def k7 : Class := { plain "java/io/Serializable" (some 0) with
  accessFlags := 1537
  interfaces := #[]
  cf := some (fileOf pool7 2 #[] #[] 1537 4 #[] #[])
  fields := #[]
  methods := #[]
  instanceTypes := #[]
  staticTypes := #[]
  resolved := Array.replicate 8 none
  statics := none }

/-- the primitive byte -/
def k8 : Class := { plain "byte" none with kind := .primitive 'B', accessFlags := 0x411 }
/-- [B -/
def k9 : Class := { plain "[B" (some 0) with kind := .array 8 .byte, interfaces := #[6, 7], accessFlags := 1041 }

/-- the primitive int -/
def k10 : Class := { plain "int" none with kind := .primitive 'I', accessFlags := 0x411 }
/-- [I -/
def k11 : Class := { plain "[I" (some 0) with kind := .array 10 .int, interfaces := #[6, 7], accessFlags := 1041 }

def heap : Heap := #[]
def classes : Array Class := #[k0, k1, k2, k3, k4, k5, k6, k7, k8, k9, k10, k11]
def interned : List (Array UInt16 × Addr) := []
def slotsUsed : Nat := 0
def theMethod : MethodId := ⟨1, 1⟩
def args0 : Array Value := #[.int 5, .int 7, .int 3, .int 2, .int 1]
def aboutOver (below : List Frame) : State where
  vm := { classes := classes, interned := interned.toArray }
  heap := heap
  slotsUsed := slotsUsed
  threads := #[{ frames := .invoking theMethod args0 :: below }]
def below0 : List Frame := [.native { method := ⟨0, 0⟩, args := #[] }]
def about1 : State := aboutOver below0
def p0 : Program := .bare "" "" ""
def e0 : Env := launch0.env 0 0 0
theorem w_frames : about1.frames = Frame.invoking theMethod args0 :: below0 := rfl
set_option maxRecDepth 65536 in
theorem w_args : argsFit about1.vm theMethod args0 = true := by decide +kernel
set_option maxRecDepth 65536 in
theorem w_heap : heapFits about1 = true := by decide +kernel
set_option maxRecDepth 65536 in
theorem w_runnable : about1.curStatus? = some .runnable := by decide +kernel
set_option maxRecDepth 65536 in
theorem w_alone : about1.alone = true := by decide +kernel
set_option maxRecDepth 65536 in
theorem w_named : about1.methodNamed? x = some theMethod := by decide +kernel
set_option maxRecDepth 65536 in
theorem w_hears : about1.hears theMethod below0 = true := by decide +kernel
set_option maxRecDepth 65536 in
theorem w_ripe : about1.ripe theMethod args0 below0 = true := by decide +kernel
theorem w_running : about1.status = .running := rfl
set_option maxRecDepth 65536 in
theorem w_room : about1.hasRoom e0.platform room_1 = true :=
  launch0.hasRoom_least _ room_1 (by decide +kernel) (by decide +kernel) (by decide +kernel) (by decide +kernel) (by decide +kernel) (by decide +kernel)
theorem allAtoms_all (ts : List Jvm.Cond) (a : Array Jvm.Value) (st : Jvm.State) : (allAtoms ts).before a st = ts.all (fun c => c.before a st) := by
  induction ts with
  | nil => rfl
  | cons c t ih =>
    show (Jvm.Cond.and c (allAtoms t)).before a st = _
    rw [Jvm.Cond.before_and, ih, List.all_cons]
def words1 : List Jvm.Cond := Jvm.Cond.code x code maxLocals ret :: tables_1
/-- a 'code' word, met by the world's own term for the bytes: nothing is compared byte by byte -/
theorem code_word {y : MethodName} {bytes : ByteArray} {mx : Nat} {rt : Option FieldType} {a : Array Value} {s : State} {m : MethodId} {meth : Method} {c : Code} (h1 : s.methodNamed? y = some m) (h2 : s.vm.method? m = some meth) (h3 : meth.code = some c) (h4 : c.code = bytes)
    (h5 : (c.maxLocals == mx && c.exceptionTable.isEmpty && decide (c.maxStack ≤ mostOperands) && decide (meth.sig.returnType = rt) && !meth.locks && decide (parseMethodDescriptor y.desc = some meth.sig)) = true) : (Jvm.Cond.code y bytes mx rt).before a s = true := by
  simp only [Bool.and_eq_true, beq_iff_eq, Bool.not_eq_true', decide_eq_true_eq] at h5
  obtain ⟨⟨⟨⟨⟨g1, g2⟩, g3⟩, g4⟩, g5⟩, g6⟩ := h5
  simp [Cond.before, Cond.holds, Cond.value, h1, h2, h3, h4, g1, g2, g3, g4, g5, g6]
def isCode : Jvm.Cond → Bool
  | .code _ _ _ _ => true
  | _ => false
theorem all_split {L : List Jvm.Cond} {P : Jvm.Cond → Bool} (h1 : L.all (fun c => isCode c || P c) = true) (h2 : ∀ c ∈ L.filter isCode, P c = true) : L.all P = true := by
  refine List.all_eq_true.mpr fun c hc => ?_
  have h := List.all_eq_true.mp h1 c hc
  rcases Bool.eq_false_or_eq_true (isCode c) with hi | hi
  · exact h2 c (List.mem_filter.mpr ⟨hc, hi⟩)
  · simpa [hi] using h
set_option maxRecDepth 65536 in
theorem w_c0 : (Jvm.Cond.code x code maxLocals ret).before args0 about1 = true := code_word (m := ⟨1, 1⟩) (meth := k1m1) (c := k1c1) (by decide +kernel) rfl rfl rfl (by decide +kernel)
set_option maxRecDepth 65536 in
theorem w_c1 : (Jvm.Cond.code ({ cls := "com/example/rappen/rappen/BlankField", name := "<init>", desc := "(DD)V" } : Jvm.MethodName) prog_4_method_1_code (5 : Nat) (Option.none : Option Jvm.ClassFile.FieldType)).before args0 about1 = true := code_word (m := ⟨3, 0⟩) (meth := k3m0) (c := k3c0) (by decide +kernel) rfl rfl rfl (by decide +kernel)
set_option maxRecDepth 65536 in
theorem w_c2 : (Jvm.Cond.code ({ cls := "java/lang/Record", name := "<init>", desc := "()V" } : Jvm.MethodName) jdk_30_method_1_code (1 : Nat) (Option.none : Option Jvm.ClassFile.FieldType)).before args0 about1 = true := code_word (m := ⟨2, 0⟩) (meth := k2m0) (c := k2c0) (by decide +kernel) rfl rfl rfl (by decide +kernel)
set_option maxRecDepth 65536 in
theorem w_c3 : (Jvm.Cond.code ({ cls := "java/lang/Object", name := "<init>", desc := "()V" } : Jvm.MethodName) object_method_1_code (1 : Nat) (Option.none : Option Jvm.ClassFile.FieldType)).before args0 about1 = true := code_word (m := ⟨0, 0⟩) (meth := k0m0) (c := k0c0) (by decide +kernel) rfl rfl rfl (by decide +kernel)
set_option maxRecDepth 65536 in
theorem w_c4 : (Jvm.Cond.code ({ cls := "com/example/rappen/rappen/PartLayout", name := "<init>", desc := "(DDZLcom/example/rappen/rappen/BlankField;Lcom/example/rappen/rappen/BlankField;)V" } : Jvm.MethodName) prog_41_method_1_code (8 : Nat) (Option.none : Option Jvm.ClassFile.FieldType)).before args0 about1 = true := code_word (m := ⟨4, 0⟩) (meth := k4m0) (c := k4c0) (by decide +kernel) rfl rfl rfl (by decide +kernel)
set_option maxRecDepth 65536 in
theorem w_c5 : (Jvm.Cond.code ({ cls := "com/example/rappen/rappen/PartLayout", name := "headingSize", desc := "(D)D" } : Jvm.MethodName) prog_41_method_5_code (3 : Nat) (Option.some Jvm.ClassFile.FieldType.double)).before args0 about1 = true := code_word (m := ⟨4, 1⟩) (meth := k4m1) (c := k4c1) (by decide +kernel) rfl rfl rfl (by decide +kernel)
set_option maxRecDepth 65536 in
theorem w_c6 : (Jvm.Cond.code ({ cls := "java/lang/Math", name := "max", desc := "(DD)D" } : Jvm.MethodName) jdk_29_method_68_code (4 : Nat) (Option.some Jvm.ClassFile.FieldType.double)).before args0 about1 = true := code_word (m := ⟨5, 1⟩) (meth := k5m1) (c := k5c1) (by decide +kernel) rfl rfl rfl (by decide +kernel)
def codes1 : List Jvm.Cond := [Jvm.Cond.code x code maxLocals ret, Jvm.Cond.code ({ cls := "com/example/rappen/rappen/BlankField", name := "<init>", desc := "(DD)V" } : Jvm.MethodName) prog_4_method_1_code (5 : Nat) (Option.none : Option Jvm.ClassFile.FieldType), Jvm.Cond.code ({ cls := "java/lang/Record", name := "<init>", desc := "()V" } : Jvm.MethodName) jdk_30_method_1_code (1 : Nat) (Option.none : Option Jvm.ClassFile.FieldType), Jvm.Cond.code ({ cls := "java/lang/Object", name := "<init>", desc := "()V" } : Jvm.MethodName) object_method_1_code (1 : Nat) (Option.none : Option Jvm.ClassFile.FieldType), Jvm.Cond.code ({ cls := "com/example/rappen/rappen/PartLayout", name := "<init>", desc := "(DDZLcom/example/rappen/rappen/BlankField;Lcom/example/rappen/rappen/BlankField;)V" } : Jvm.MethodName) prog_41_method_1_code (8 : Nat) (Option.none : Option Jvm.ClassFile.FieldType), Jvm.Cond.code ({ cls := "com/example/rappen/rappen/PartLayout", name := "headingSize", desc := "(D)D" } : Jvm.MethodName) prog_41_method_5_code (3 : Nat) (Option.some Jvm.ClassFile.FieldType.double), Jvm.Cond.code ({ cls := "java/lang/Math", name := "max", desc := "(DD)D" } : Jvm.MethodName) jdk_29_method_68_code (4 : Nat) (Option.some Jvm.ClassFile.FieldType.double)]
set_option maxRecDepth 65536 in
theorem codes_eq : words1.filter isCode = codes1 := rfl
theorem w_codes : ∀ c ∈ words1.filter isCode, c.before args0 about1 = true := by
  rw [codes_eq]
  intro c hc
  simp only [codes1, List.mem_cons, List.not_mem_nil, or_false] at hc
  rcases hc with rfl | rfl | rfl | rfl | rfl | rfl | rfl
  · exact w_c0
  · exact w_c1
  · exact w_c2
  · exact w_c3
  · exact w_c4
  · exact w_c5
  · exact w_c6
set_option maxRecDepth 65536 in
theorem w_t1 : (words1.take 24).all (fun c => isCode c || c.before args0 about1) = true := by decide +kernel
set_option maxRecDepth 65536 in
theorem w_t2 : ((words1.drop 24).take 24).all (fun c => isCode c || c.before args0 about1) = true := by decide +kernel
set_option maxRecDepth 65536 in
theorem w_t3 : ((words1.drop 24).drop 24).all (fun c => isCode c || c.before args0 about1) = true := by decide +kernel
theorem w_tables : (allAtoms (Jvm.Cond.code x code maxLocals ret :: tables_1)).before args0 about1 = true := by
  rw [allAtoms_all]
  show words1.all (fun c => c.before args0 about1) = true
  refine all_split ?_ w_codes
  rw [← List.take_append_drop 24 words1, List.all_append, w_t1, ← List.take_append_drop 24 (words1.drop 24), List.all_append, w_t2, w_t3]
  rfl
set_option maxRecDepth 65536 in
theorem w_case : (Jvm.Cond.and given_1 narrow_1).before args0 about1 = true := by decide +kernel
theorem w_applies : (headSpec (Jvm.Cond.code x code maxLocals ret :: tables_1) room_1).applies x e0.platform about1 = true :=
  (Spec.applies_iff w_frames).mpr ⟨w_running, w_runnable, w_alone, w_named, w_hears, w_ripe, w_room, w_tables⟩
theorem atStart : AtStart classFile x code maxLocals ret World_1 tables_1 room_1 Calls_1 rest_1 Pre_1 launch0 p0 e0 about1 theMethod args0 below0 :=
  ⟨lists_1, trivial, launch0.admits_env _ _ _, launch0.least_env, fairChoices_fair.cas, fairChoices_fair.clock, w_frames, w_args, w_heap, w_applies, trivial, trivial, w_case⟩
end start1
theorem witness_1 : WitnessClaimed_1 := ⟨start1.p0, start1.e0, start1.about1, start1.theMethod, start1.args0, start1.below0, start1.atStart⟩
end Jvm.Pilot.@@N@@
