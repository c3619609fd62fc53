import JvmDerived
import JvmDerived.Pilot.@@N@@Statement
import JvmDerived.Pilot.@@N@@Code
set_option linter.unusedVariables false
set_option linter.unusedSimpArgs false
/-! own layer: doubles by their values in units of 2^-1074 (zval), over the library's float laws -/
namespace Jvm.Pilot.@@N@@.OwnFp
open Jvm.FP.Core
abbrev oz (x : UInt64) : Int := zval b64 (val64 x)
theorem one_pos : (0 : Int) < (one64 : Int) := by have := one64_pos; omega
theorem fin_nan {x : UInt64} (h : DFin x) : val64 x ≠ .nan := h.ne_nan
theorem signs_le {s sv : Bool} {A B zr zv : Nat} (h : signed s A ≤ signed sv B) (hle : A ≤ B → zr ≤ zv) (hge : B ≤ A → zv ≤ zr) (hz : B = 0 → zv = 0) : signed s zr ≤ signed sv zv := by
  cases s <;> cases sv <;> simp only [signed, if_true, Bool.false_eq_true, if_false] at h ⊢
  · have := hle (by omega); omega
  · have := hle (by omega); have := hz (by omega); omega
  · omega
  · have := hge (by omega); omega
theorem signs_ge {s sv : Bool} {A B zr zv : Nat} (h : signed sv B ≤ signed s A) (hle : A ≤ B → zr ≤ zv) (hge : B ≤ A → zv ≤ zr) (hz : B = 0 → zv = 0) : signed sv zv ≤ signed s zr := by
  cases s <;> cases sv <;> simp only [signed, if_true, Bool.false_eq_true, if_false] at h ⊢
  · have := hge (by omega); omega
  · omega
  · have := hle (by omega); have := hz (by omega); omega
  · have := hle (by omega); omega
/-- what a quotient by a positive divisor is, set against a number V of the format -/
theorem div_core {x y V : UInt64} (hx : DFin x) (hy : DFin y) (hp : 0 < oz y) (hV : val64 V ≠ .nan) :
    (oz x * (one64 : Int) ≤ oz V * oz y → oz (ddiv x y) ≤ oz V) ∧ (oz V * oz y ≤ oz x * (one64 : Int) → oz V ≤ oz (ddiv x y)) := by
  obtain ⟨s, c, q, ex⟩ := hx
  obtain ⟨t, d, r, ey⟩ := hy
  have fx := val64_fits x
  have fy := val64_fits y
  unfold oz at *
  rw [val64_ddiv, ex, ey]
  rw [ex] at fx
  rw [ey] at fy hp
  have ht : t = false := by
    cases t
    · rfl
    · exfalso
      simp only [zval, sgn, signed, if_true] at hp
      omega
  subst ht
  have hd : 0 < d := by
    rcases Nat.eq_zero_or_pos d with h0 | h0
    · subst h0
      exfalso
      simp [zval, zmag, inUnits, sgn, signed] at hp
    · exact h0
  have eq0 : quotient b64 (.fin s c q) (.fin false d r) = roundRatio b64 (s != false) c d (q - r) := by
    simp only [quotient, if_neg (Nat.ne_of_gt hd)]
  have es : (s != false) = s := by cases s <;> rfl
  rw [eq0, es]
  have hq1 := fx.2.1
  have hr1 := fy.2.1
  have hqn := qmin_neg good_b64
  have eA : inUnits c (q - r) (2 * b64.qmin - r) = zmag b64 (.fin s c q) * one64 := by
    show _ = inUnits c q b64.qmin * one64
    unfold inUnits
    rw [← pow_qmin64, Nat.mul_assoc, ← Nat.pow_add]
    congr 2
    omega
  have eB : 2 ^ (b64.qmin - (2 * b64.qmin - r)).toNat * d = zmag b64 (.fin false d r) := by
    show _ = inUnits d r b64.qmin
    unfold inUnits
    rw [Nat.mul_comm]
    congr 2
    omega
  have hle := zmag_roundRatio_le good_b64 (s := s) (A := c) (B := d) (e := q - r) (e0 := 2 * b64.qmin - r) hd (val64_fits V) hV (by omega) (by omega)
  have hge := zmag_roundRatio_ge good_b64 (s := s) (A := c) (B := d) (e := q - r) (e0 := 2 * b64.qmin - r) hd (val64_fits V) (by omega) (by omega)
  rw [eA, Nat.mul_assoc, eB] at hle hge
  have hy0 : 0 < zmag b64 (.fin false d r) := by
    show 0 < inUnits d r b64.qmin
    exact Nat.mul_pos hd (Nat.two_pow_pos _)
  have hz : zmag b64 (val64 V) * zmag b64 (.fin false d r) = 0 → zmag b64 (val64 V) = 0 := by
    intro h0
    rcases Nat.mul_eq_zero.mp h0 with h0 | h0 <;> omega
  unfold zval
  rw [sgn_roundRatio]
  have e1 : signed (sgn (.fin s c q)) (zmag b64 (.fin s c q)) * (one64 : Int) = signed s (zmag b64 (.fin s c q) * one64) := (signed_mul _ _ _).symm
  have e2 : signed (sgn (val64 V)) (zmag b64 (val64 V)) * signed (sgn (.fin false d r)) (zmag b64 (.fin false d r)) = signed (sgn (val64 V)) (zmag b64 (val64 V) * zmag b64 (.fin false d r)) := (signed_mul _ _ _).symm
  rw [e1, e2]
  exact ⟨fun h => signs_le h hle hge hz, fun h => signs_ge h hle hge hz⟩
theorem div_eq {x y V : UInt64} (hx : DFin x) (hy : DFin y) (hp : 0 < oz y) (hV : val64 V ≠ .nan) (h : oz x * (one64 : Int) = oz V * oz y) : oz (ddiv x y) = oz V :=
  Int.le_antisymm ((div_core hx hy hp hV).1 (Int.le_of_eq h)) ((div_core hx hy hp hV).2 (Int.le_of_eq h.symm))
theorem mul_core {x y V : UInt64} (hx : DFin x) (hy : DFin y) (hV : val64 V ≠ .nan) :
    (oz x * oz y ≤ oz V * (one64 : Int) → oz (dmul x y) ≤ oz V) ∧ (oz V * (one64 : Int) ≤ oz x * oz y → oz V ≤ oz (dmul x y)) := by
  obtain ⟨s, c, q, ex⟩ := hx
  obtain ⟨t, d, r, ey⟩ := hy
  have fx := val64_fits x
  have fy := val64_fits y
  unfold oz at *
  rw [val64_dmul, ex, ey]
  rw [ex] at fx
  rw [ey] at fy
  obtain ⟨h1, h2, h3⟩ := product_units fx fy
  have hqn := qmin_neg good_b64
  have e1 : signed (s != t) (inUnits (c * d) (q + r) (2 * b64.qmin)) = zval b64 (.fin s c q) * zval b64 (.fin t d r) := by
    rw [h3]; exact signed_xor _ _ _ _
  have e2 : ((2 ^ (b64.qmin - 2 * b64.qmin).toNat : Nat) : Int) = (one64 : Int) := by
    rw [show (b64.qmin - 2 * b64.qmin).toNat = (-b64.qmin).toNat by omega, pow_qmin64]
  rw [h1]
  refine ⟨fun h => ?_, fun h => ?_⟩
  · refine zval_round_le good_b64 (val64_fits V) hV (e0 := 2 * b64.qmin) (by omega) h2 ?_
    rw [e1, e2]; exact h
  · refine zval_round_ge good_b64 (val64_fits V) hV (e0 := 2 * b64.qmin) (by omega) h2 ?_
    rw [e1, e2]; exact h
theorem mul_eq {x y V : UInt64} (hx : DFin x) (hy : DFin y) (hV : val64 V ≠ .nan) (h : oz x * oz y = oz V * (one64 : Int)) : oz (dmul x y) = oz V :=
  Int.le_antisymm ((mul_core hx hy hV).1 (Int.le_of_eq h)) ((mul_core hx hy hV).2 (Int.le_of_eq h.symm))
theorem add_core {x y V : UInt64} (hx : DFin x) (hy : DFin y) (hV : val64 V ≠ .nan) :
    (oz x + oz y ≤ oz V → oz (dadd x y) ≤ oz V) ∧ (oz V ≤ oz x + oz y → oz V ≤ oz (dadd x y)) := by
  unfold oz
  rw [val64_dadd]
  exact ⟨sum_le good_b64 hx hy (val64_fits x) (val64_fits y) (val64_fits V) hV, sum_ge good_b64 hx hy (val64_fits x) (val64_fits y) (val64_fits V) hV⟩
theorem add_eq {x y V : UInt64} (hx : DFin x) (hy : DFin y) (hV : val64 V ≠ .nan) (h : oz x + oz y = oz V) : oz (dadd x y) = oz V :=
  Int.le_antisymm ((add_core hx hy hV).1 (Int.le_of_eq h)) ((add_core hx hy hV).2 (Int.le_of_eq h.symm))
theorem sub_core {x y V : UInt64} (hx : DFin x) (hy : DFin y) (hV : val64 V ≠ .nan) :
    (oz x - oz y ≤ oz V → oz (dsub x y) ≤ oz V) ∧ (oz V ≤ oz x - oz y → oz V ≤ oz (dsub x y)) := by
  unfold oz
  rw [val64_dsub]
  have hn : ∃ s c q, negate (val64 y) = .fin s c q := by
    obtain ⟨s, c, q, e⟩ := hy
    exact ⟨!s, c, q, by rw [e]; rfl⟩
  have ez : zval b64 (negate (val64 y)) = -zval b64 (val64 y) := zval_negate _ _
  refine ⟨fun h => sum_le good_b64 hx hn (val64_fits x) (negate_fits (val64_fits y)) (val64_fits V) hV ?_, fun h => sum_ge good_b64 hx hn (val64_fits x) (negate_fits (val64_fits y)) (val64_fits V) hV ?_⟩
  · rw [ez]; omega
  · rw [ez]; omega
theorem sub_eq {x y V : UInt64} (hx : DFin x) (hy : DFin y) (hV : val64 V ≠ .nan) (h : oz x - oz y = oz V) : oz (dsub x y) = oz V :=
  Int.le_antisymm ((sub_core hx hy hV).1 (Int.le_of_eq h)) ((sub_core hx hy hV).2 (Int.le_of_eq h.symm))
/-- n / 2^k is a double, for n of less than 53 digits -/
theorem rep (n : Int) (k : Nat) (hn : n.natAbs < 2 ^ 53) (hk : k ≤ 1074) : ∃ V : UInt64, DFin V ∧ oz V = n * ((2 ^ (1074 - k) : Nat) : Int) := by
  have hq : b64.qmin = -1074 := qmin_b64
  have hm : b64.qmax = 971 := by decide
  obtain ⟨c', q', h1, h2⟩ := round_exact good_b64 (decide (n < 0)) (c := n.natAbs) (q := -(k : Int)) hn (by omega) (by omega)
  refine ⟨of64 (round b64 (.fin (decide (n < 0)) n.natAbs (-(k : Int)))), ⟨_, c', q', by rw [val64_of64 (round_fits good_b64 _), h1]⟩, ?_⟩
  unfold oz
  rw [val64_of64 (round_fits good_b64 _), h1]
  show signed (decide (n < 0)) (inUnits c' q' b64.qmin) = _
  rw [h2]
  unfold inUnits
  rw [signed_mul, show (-(k : Int) - b64.qmin).toNat = 1074 - k by omega]
  congr 1
  unfold signed
  by_cases h : n < 0 <;> simp [h] <;> omega
/-- m * 2^k is a double, for m of less than 53 digits, k small -/
theorem repUp (m k : Nat) (hn : m < 2 ^ 53) (hk : k ≤ 900) : ∃ V : UInt64, DFin V ∧ oz V = ((m * 2 ^ k : Nat) : Int) * (one64 : Int) := by
  have hq : b64.qmin = -1074 := qmin_b64
  have hm : b64.qmax = 971 := by decide
  obtain ⟨c', q', h1, h2⟩ := round_exact good_b64 false (c := m) (q := (k : Int)) hn (by omega) (by omega)
  refine ⟨of64 (round b64 (.fin false m (k : Int))), ⟨_, c', q', by rw [val64_of64 (round_fits good_b64 _), h1]⟩, ?_⟩
  unfold oz
  rw [val64_of64 (round_fits good_b64 _), h1]
  show signed false (inUnits c' q' b64.qmin) = _
  rw [h2]
  unfold inUnits
  rw [show ((k : Int) - b64.qmin).toNat = k + (-b64.qmin).toNat by omega, Nat.pow_add, pow_qmin64, ← Nat.mul_assoc, Int.natCast_mul]
  simp [signed]
theorem fin_of_eq {x V : UInt64} (hn : val64 x ≠ .nan) (hV : DFin V) (h : oz x = oz V) : DFin x := by
  have hl := hV.zval_lt
  cases e : val64 x with
  | nan => exact absurd e hn
  | inf s =>
    exfalso
    unfold oz at h
    rw [e] at h
    have h2 : zval b64 (.inf s) = signed s (b64.tails * 2 ^ (b64.exps - 2)) := rfl
    rw [h2] at h
    have h3 := congrArg Int.natAbs h
    unfold zval at h3
    rw [natAbs_signed, natAbs_signed] at h3
    omega
  | fin s c q => exact ⟨s, c, q, e⟩
/-- the comparison's int, by the values -/
theorem cmp_val {x y : UInt64} (hx : val64 x ≠ .nan) (hy : val64 y ≠ .nan) (o : ClassFile.CmpOp) : Op.cmpValue (Jvm.FP.dcmp x y) o = if oz x < oz y then -1 else if oz x = oz y then 0 else 1 := by
  have h : Jvm.FP.dcmp x y = some (compare (oz x) (oz y)) := dcmp_zval hx hy
  rw [h, compare_ite]
  by_cases h1 : oz x < oz y
  · rw [if_pos h1, if_pos h1]; cases o <;> rfl
  · rw [if_neg h1, if_neg h1]
    by_cases h2 : oz x = oz y
    · rw [if_pos h2, if_pos h2]; cases o <;> rfl
    · rw [if_neg h2, if_neg h2]; cases o <;> rfl
theorem cmp_lt {x y : UInt64} (hx : val64 x ≠ .nan) (hy : val64 y ≠ .nan) (o : ClassFile.CmpOp) : Op.cmpValue (Jvm.FP.dcmp x y) o < 0 ↔ oz x < oz y := by
  rw [cmp_val hx hy o]
  by_cases h1 : oz x < oz y
  · rw [if_pos h1]; exact ⟨fun _ => h1, fun _ => by decide⟩
  · rw [if_neg h1]
    by_cases h2 : oz x = oz y
    · rw [if_pos h2]; exact ⟨fun q => absurd q (by decide), fun q => absurd q h1⟩
    · rw [if_neg h2]; exact ⟨fun q => absurd q (by decide), fun q => absurd q h1⟩
theorem cmp_gt {x y : UInt64} (hx : val64 x ≠ .nan) (hy : val64 y ≠ .nan) (o : ClassFile.CmpOp) : 0 < Op.cmpValue (Jvm.FP.dcmp x y) o ↔ oz y < oz x := by
  rw [cmp_val hx hy o]
  by_cases h1 : oz x < oz y
  · rw [if_pos h1]; exact ⟨fun q => absurd q (by decide), fun q => by omega⟩
  · rw [if_neg h1]
    by_cases h2 : oz x = oz y
    · rw [if_pos h2]; exact ⟨fun q => absurd q (by decide), fun q => by omega⟩
    · rw [if_neg h2]; exact ⟨fun _ => by omega, fun _ => by decide⟩
theorem cmp_eq {x y : UInt64} (hx : val64 x ≠ .nan) (hy : val64 y ≠ .nan) (o : ClassFile.CmpOp) : Op.cmpValue (Jvm.FP.dcmp x y) o = 0 ↔ oz x = oz y := by
  rw [cmp_val hx hy o]
  by_cases h1 : oz x < oz y
  · rw [if_pos h1]; exact ⟨fun q => absurd q (by decide), fun q => by omega⟩
  · rw [if_neg h1]
    by_cases h2 : oz x = oz y
    · rw [if_pos h2]; exact ⟨fun _ => h2, fun _ => rfl⟩
    · rw [if_neg h2]; exact ⟨fun q => absurd q (by decide), fun q => absurd q h2⟩
theorem oz_int {i : Int} {a : UInt64} (h : DInt i a) : oz a = i * (one64 : Int) := DInt_zval h
theorem int_fin {i : Int} {a : UInt64} (h : DInt i a) : DFin a := by
  unfold DInt at h
  cases e : val64 a with
  | nan => rw [e] at h; exact h.elim
  | inf s => rw [e] at h; exact h.elim
  | fin s c q => exact ⟨s, c, q, e⟩
theorem oz_i2d (x : Int32) : oz (i2d x) = x.toInt * (one64 : Int) := oz_int (i2d_int x)
theorem oz_l2d {a : Int64} (h : a.toInt.natAbs ≤ 2 ^ 53) : oz (l2d a) = a.toInt * (one64 : Int) := oz_int (l2d_int h)
theorem no_nan {x : UInt64} (h : val64 x ≠ .nan) : Jvm.Free.Fl.NoNaN64 x := Jvm.Free.Fl.val64_no.mpr h
theorem nan_no {x : UInt64} (h : Jvm.Free.Fl.NoNaN64 x) : val64 x ≠ .nan := Jvm.Free.Fl.val64_no.mp h
/-- a positive value makes a divisor -/
theorem div_nan {x y : UInt64} (hx : DFin x) (hy : DFin y) (hp : 0 < oz y) : val64 (ddiv x y) ≠ .nan := by
  have hz : ¬ DZero y := fun h => by have := h.zval; unfold oz at hp; omega
  exact (notNaN_iff _).mp (ddiv_out hx.notNaN hy hz)
theorem mul_nan {x y : UInt64} (hx : DFin x) (hy : DFin y) : val64 (dmul x y) ≠ .nan := (notNaN_iff _).mp (dmul_out hx hy)
theorem add_nan {x y : UInt64} (hx : DFin x) (hy : DFin y) : val64 (dadd x y) ≠ .nan := (notNaN_iff _).mp (dadd_out hx.notNaN hy)
theorem sub_nan {x y : UInt64} (hx : DFin x) (hy : DFin y) : val64 (dsub x y) ≠ .nan := (notNaN_iff _).mp (dsub_out hx.notNaN hy)
/-- a bit pattern that is finite, and what it is worth, by reckoning -/
theorem fin_lit {x : UInt64} (h : x.toNat % 2 ^ 63 < 9218868437227405312) : DFin x := (fin_bits x).mpr h
theorem oz_max {a b : UInt64} (ha : val64 a ≠ .nan) (hb : val64 b ≠ .nan) : oz (Native.java_lang_Math.nans.pick64 true a b) = max (oz a) (oz b) := by
  have h : Jvm.FP.dcmp a b = some (compare (oz a) (oz b)) := dcmp_zval ha hb
  rw [compare_ite] at h
  by_cases h1 : oz a < oz b
  · rw [if_pos h1] at h
    have e : Native.java_lang_Math.nans.pick64 true a b = b := by simp [Native.java_lang_Math.nans.pick64, h]
    rw [e]; omega
  · rw [if_neg h1] at h
    by_cases h2 : oz a = oz b
    · rcases Jvm.Free.Fl.pick64_or true a b with e | e <;> rw [e] <;> omega
    · rw [if_neg h2] at h
      have e : Native.java_lang_Math.nans.pick64 true a b = a := by simp [Native.java_lang_Math.nans.pick64, h]
      rw [e]; omega
theorem max_nan {a b : UInt64} (ha : val64 a ≠ .nan) (hb : val64 b ≠ .nan) : val64 (Native.java_lang_Math.nans.pick64 true a b) ≠ .nan := by
  rcases Jvm.Free.Fl.pick64_or true a b with e | e <;> rw [e] <;> assumption
theorem d2l_nonneg {a : UInt64} (hn : val64 a ≠ .nan) (h0 : 0 ≤ oz a) (h1 : oz a < 9223372036854775808 * (one64 : Int)) : (d2l a).toInt = oz a / (one64 : Int) := by
  rw [d2l_val hn]
  have hp := one64_pos
  have key : signed (sgn (val64 a)) (zmag b64 (val64 a) / one64) = oz a / (one64 : Int) := by
    unfold oz zval at *
    cases hs : sgn (val64 a)
    · simp [signed]
    · rw [hs] at h0
      simp only [signed, if_true] at h0 ⊢
      have : zmag b64 (val64 a) = 0 := by omega
      rw [this]; simp
  rw [key]
  have h2 : 0 ≤ oz a / (one64 : Int) := Int.ediv_nonneg h0 (by omega)
  have h3 : oz a / (one64 : Int) < 9223372036854775808 := Int.ediv_lt_of_lt_mul (by omega) h1
  omega
end Jvm.Pilot.@@N@@.OwnFp
namespace Jvm.Pilot.@@N@@.OwnFp
open Jvm.FP.Core
/-- a double of value 1 at least, halved k times, is a double -/
theorem half_rep {x : UInt64} (hx : DFin x) (h1 : (one64 : Int) ≤ oz x) (k : Nat) (hk : k ≤ 900) : ∃ V : UInt64, DFin V ∧ oz V * ((2 ^ k : Nat) : Int) = oz x := by
  obtain ⟨s, c, q, ex⟩ := hx
  have fx := val64_fits x
  rw [ex] at fx
  have hq0 : b64.qmin = -1074 := qmin_b64
  have hm : b64.qmax = 971 := by decide
  obtain ⟨c1, c2, c3, -⟩ := fx
  have c1' : c < 2 ^ 53 := c1
  have hs : s = false := by
    cases s
    · rfl
    · exfalso
      unfold oz at h1
      rw [ex] at h1
      have hp := one64_pos
      simp only [zval, sgn, signed, if_true] at h1
      omega
  subst hs
  have e0 : oz x = ((c * 2 ^ (q - b64.qmin).toNat : Nat) : Int) := by
    unfold oz
    rw [ex]
    rfl
  have hq : -53 < q := by
    refine Int.lt_of_not_ge fun hle => ?_
    have h2 : one64 ≤ c * 2 ^ (q - b64.qmin).toNat := by
      have h3 := h1
      rw [e0] at h3
      exact Int.ofNat_le.mp h3
    have h3 : 2 ^ (q - b64.qmin).toNat ≤ 2 ^ 1021 := Nat.pow_le_pow_right (by decide) (by omega)
    have h4 : c * 2 ^ (q - b64.qmin).toNat < 2 ^ 53 * 2 ^ 1021 := Nat.lt_of_lt_of_le (Nat.mul_lt_mul_of_pos_right c1' (Nat.two_pow_pos _)) (Nat.mul_le_mul_left _ h3)
    rw [← Nat.pow_add] at h4
    have h5 : one64 = 2 ^ 1074 := rfl
    rw [h5] at h2
    omega
  obtain ⟨c', q', r1, r2⟩ := round_exact good_b64 false (c := c) (q := q - (k : Int)) c1 (by omega) (by omega)
  refine ⟨of64 (round b64 (.fin false c (q - (k : Int)))), ⟨_, c', q', by rw [val64_of64 (round_fits good_b64 _), r1]⟩, ?_⟩
  rw [e0]
  unfold oz
  rw [val64_of64 (round_fits good_b64 _), r1]
  show ((inUnits c' q' b64.qmin : Nat) : Int) * _ = _
  rw [r2]
  unfold inUnits
  rw [← Int.natCast_mul, Nat.mul_assoc, ← Nat.pow_add]
  congr 3
  omega
theorem oz_4 : oz 4616189618054758400 = 4 * (one64 : Int) := by decide +kernel
theorem oz_1 : oz 4607182418800017408 = (one64 : Int) := by decide +kernel
theorem oz_h : 2 * oz 4602678819172646912 = (one64 : Int) := by decide +kernel
theorem oz_q : 4 * oz 4598175219545276416 = (one64 : Int) := by decide +kernel
theorem oz_0 : oz 0 = 0 := by decide +kernel
theorem fin_4 : DFin 4616189618054758400 := fin_lit (by decide)
theorem fin_1 : DFin 4607182418800017408 := fin_lit (by decide)
theorem fin_h : DFin 4602678819172646912 := fin_lit (by decide)
theorem fin_q : DFin 4598175219545276416 := fin_lit (by decide)
theorem fin_0 : DFin 0 := fin_lit (by decide)
theorem pos_4 : 0 < oz 4616189618054758400 := by rw [oz_4]; have := one_pos; omega
theorem near_lo {n m r z O : Nat} (h : (((n * O : Nat) : Int) - (z : Int)).natAbs ≤ (((n * O : Nat) : Int) - ((m * 1024 * O : Nat) : Int)).natAbs) (hm : n = m * 1024 + r) (hle : r ≤ 512) : (((n * O : Nat) : Int) - (z : Int)).natAbs ≤ 512 * O := by
  have e1 : n * O = m * 1024 * O + r * O := by rw [hm, Nat.add_mul]
  have e2 : r * O ≤ 512 * O := Nat.mul_le_mul_right _ hle
  generalize m * 1024 * O = a at *
  generalize r * O = b at *
  generalize n * O = d at *
  generalize 512 * O = f at *
  omega
theorem near_hi {n m r z O : Nat} (h : (((n * O : Nat) : Int) - (z : Int)).natAbs ≤ (((n * O : Nat) : Int) - (((m + 1) * 1024 * O : Nat) : Int)).natAbs) (hm : n = m * 1024 + r) (hle : ¬ r ≤ 512) (hr : r < 1024) : (((n * O : Nat) : Int) - (z : Int)).natAbs ≤ 512 * O := by
  obtain ⟨t, ht⟩ : ∃ t, r + t = 1024 := ⟨1024 - r, by omega⟩
  have e1 : (m + 1) * 1024 * O = n * O + t * O := by rw [← Nat.add_mul, hm, show m * 1024 + r + t = (m + 1) * 1024 by omega]
  have e2 : t * O ≤ 512 * O := Nat.mul_le_mul_right _ (by omega)
  rw [e1] at h
  generalize t * O = b at *
  generalize n * O = d at *
  generalize 512 * O = f at *
  omega
theorem near_end {n z O : Nat} (key : (((n * O : Nat) : Int) - (z : Int)).natAbs ≤ 512 * O) : (n : Int) * (O : Int) - 512 * (O : Int) ≤ (z : Int) ∧ (z : Int) ≤ (n : Int) * (O : Int) + 512 * (O : Int) := by
  rw [← Int.natCast_mul n O, show (512 : Int) * (O : Int) = ((512 * O : Nat) : Int) from (Int.natCast_mul 512 O).symm]
  generalize n * O = d at *
  generalize 512 * O = f at *
  omega
/-- a long rounds to a double at most 512 off -/
theorem l2d_near {D : Int64} (h1 : 1 ≤ D.toInt) : D.toInt * (one64 : Int) - 512 * (one64 : Int) ≤ oz (l2d D) ∧ oz (l2d D) ≤ D.toInt * (one64 : Int) + 512 * (one64 : Int) := by
  have hlt := Int64.toInt_lt D
  have hq0 : b64.qmin = -1074 := qmin_b64
  obtain ⟨n, hn⟩ : ∃ n : Nat, D.toInt = (n : Int) := ⟨D.toInt.toNat, by omega⟩
  have hv : val64 (l2d D) = roundRatio b64 false n 1 0 := by
    rw [val64_l2d, hn]
    show roundRatio b64 (decide ((n : Int) < 0)) (n : Int).natAbs 1 0 = _
    rw [decide_eq_false (by omega), Int.natAbs_natCast]
  obtain ⟨s, c, q, ef⟩ := l2d_fin D
  have ef' : roundRatio b64 false n 1 0 = .fin s c q := by rw [← hv]; exact ef
  have hs : s = false := by
    have := sgn_roundRatio b64 false n 1 0
    rw [ef'] at this
    exact this
  subst hs
  have ez : oz (l2d D) = ((inUnits c q b64.qmin : Nat) : Int) := by
    unfold oz
    rw [ef]
    rfl
  have en : inUnits n 0 b64.qmin = n * one64 := by
    unfold inUnits
    rw [show (0 - b64.qmin).toNat = (-b64.qmin).toNat by omega, pow_qmin64]
  have near : ∀ (c' : Nat) (q' : Int), c' < 2 ^ 53 → b64.qmin ≤ q' → (((n * one64 : Nat) : Int) - ((inUnits c q b64.qmin : Nat) : Int)).natAbs ≤ (((n * one64 : Nat) : Int) - ((inUnits c' q' b64.qmin : Nat) : Int)).natAbs := by
    intro c' q' hc hq
    have h := roundRatio_nearest good_b64 (s := false) (A := n) (B := 1) (e := 0) (e0 := b64.qmin) (by decide) ef' (c' := c') (q' := q') hc hq (Int.le_refl _) (by omega)
    unfold distance at h
    rw [en] at h
    simpa using h
  have up : ∀ m : Nat, inUnits m 10 b64.qmin = m * 1024 * one64 := by
    intro m
    unfold inUnits
    rw [show (10 - b64.qmin).toNat = 10 + (-b64.qmin).toNat by omega, Nat.pow_add, pow_qmin64, ← Nat.mul_assoc]
  have up2 : inUnits (2 ^ 52) 11 b64.qmin = 2 ^ 53 * 1024 * one64 := by
    unfold inUnits
    rw [show (11 - b64.qmin).toNat = 11 + (-b64.qmin).toNat by omega, Nat.pow_add, pow_qmin64, ← Nat.mul_assoc]
  have hn63 : n < 9223372036854775808 := by omega
  rw [ez, hn]
  have hp := one64_pos
  obtain ⟨m, r, hr, hm⟩ : ∃ m r : Nat, r < 1024 ∧ n = m * 1024 + r := ⟨n / 1024, n % 1024, Nat.mod_lt _ (by decide), by omega⟩
  generalize inUnits c q b64.qmin = z at *
  have key : (((n * one64 : Nat) : Int) - (z : Int)).natAbs ≤ 512 * one64 := by
    by_cases hle : r ≤ 512
    · have h := near m 10 (by omega) (by omega)
      rw [up] at h
      exact near_lo h hm hle
    · have h : (((n * one64 : Nat) : Int) - (z : Int)).natAbs ≤ (((n * one64 : Nat) : Int) - (((m + 1) * 1024 * one64 : Nat) : Int)).natAbs := by
        by_cases hm1 : m + 1 < 2 ^ 53
        · have h := near (m + 1) 10 hm1 (by omega)
          rw [up] at h
          exact h
        · have h := near (2 ^ 52) 11 (by decide) (by omega)
          rw [up2] at h
          have : m + 1 = 2 ^ 53 := by omega
          rw [this]
          exact h
      exact near_hi h hm hle hr
  exact near_end key
abbrev DF (x : UInt64) : Prop := DFin x
abbrev P64 : Int := (one64 : Int)
theorem div_lo {z P a : Int} (hP : 0 < P) (h : a * P ≤ z) : a ≤ z / P := (Int.le_ediv_iff_mul_le hP).mpr h
theorem div_hi {z P a : Int} (hP : 0 < P) (h : z < a * P) : z / P < a := Int.ediv_lt_of_lt_mul hP h
theorem wait_zero {D : Int64} (h1 : 1 ≤ D.toInt) : d2l (dmul (ddiv (l2d D) 4616189618054758400) 0) = 0 ∧ val64 (ddiv (l2d D) 4616189618054758400) ≠ .nan ∧ val64 (dmul (ddiv (l2d D) 4616189618054758400) 0) ≠ .nan := by
  have hz : (one64 : Int) ≤ oz (l2d D) := by
    rw [← oz_1]
    refine l2d_zval_ge (fin_nan fin_1) ?_
    show oz 4607182418800017408 ≤ _
    rw [oz_1]
    have := Int.mul_le_mul_of_nonneg_right h1 (Int.le_of_lt one_pos)
    omega
  obtain ⟨V, hV, eV⟩ := half_rep (l2d_fin D) hz 2 (by decide)
  have n1 := div_nan (l2d_fin D) fin_4 pos_4
  have e1 : oz (ddiv (l2d D) 4616189618054758400) = oz V := by
    refine div_eq (l2d_fin D) fin_4 pos_4 (fin_nan hV) ?_
    rw [oz_4, ← eV]
    generalize (one64 : Int) = P
    show oz V * 4 * P = oz V * (4 * P)
    grind
  have f1 := fin_of_eq n1 hV e1
  have n2 := mul_nan f1 fin_0
  have e2 : oz (dmul (ddiv (l2d D) 4616189618054758400) 0) = oz 0 := by
    refine mul_eq f1 fin_0 (fin_nan fin_0) ?_
    rw [oz_0]; simp
  refine ⟨Int64.toInt_inj.mp ?_, n1, n2⟩
  rw [d2l_nonneg n2 (by rw [e2, oz_0]; exact Int.le_refl _) (by rw [e2, oz_0]; have := one_pos; omega), e2, oz_0]
  simp
/-- the wait's extra: its value, by the double's -/
theorem wait_core {D : Int64} (h1 : 1 ≤ D.toInt) {j : UInt64} {k : Nat} (fj : DFin j) (hk : 2 ≤ k) (hk4 : k ≤ 4) (hj : ((2 ^ (k - 2) : Nat) : Int) * oz j = (one64 : Int)) :
    val64 (ddiv (l2d D) 4616189618054758400) ≠ .nan ∧ val64 (dmul (ddiv (l2d D) 4616189618054758400) j) ≠ .nan ∧
    ∃ z : Int, z * ((2 ^ k : Nat) : Int) = oz (l2d D) ∧ (d2l (dmul (ddiv (l2d D) 4616189618054758400) j)).toInt = z / (one64 : Int) := by
  have hp := one_pos
  have hz : (one64 : Int) ≤ oz (l2d D) := by
    rw [← oz_1]
    refine l2d_zval_ge (fin_nan fin_1) ?_
    show oz 4607182418800017408 ≤ _
    rw [oz_1]
    have := Int.mul_le_mul_of_nonneg_right h1 (Int.le_of_lt one_pos)
    omega
  obtain ⟨V, hV, eV⟩ := half_rep (l2d_fin D) hz 2 (by decide)
  obtain ⟨W, hW, eW⟩ := half_rep (l2d_fin D) hz k (by omega)
  have n1 := div_nan (l2d_fin D) fin_4 pos_4
  have e1 : oz (ddiv (l2d D) 4616189618054758400) = oz V := by
    refine div_eq (l2d_fin D) fin_4 pos_4 (fin_nan hV) ?_
    rw [oz_4, ← eV]
    generalize (one64 : Int) = P
    show oz V * 4 * P = oz V * (4 * P)
    grind
  have f1 := fin_of_eq n1 hV e1
  have n2 := mul_nan f1 fj
  have e2 : oz (dmul (ddiv (l2d D) 4616189618054758400) j) = oz W := by
    refine mul_eq f1 fj (fin_nan hW) ?_
    rw [e1]
    have e3 : ((2 ^ k : Nat) : Int) = 4 * ((2 ^ (k - 2) : Nat) : Int) := by
      have e3n : 2 ^ k = 4 * 2 ^ (k - 2) := by
        obtain ⟨i, hi⟩ : ∃ i, k = i + 2 := ⟨k - 2, by omega⟩
        rw [hi, Nat.add_sub_cancel, Nat.pow_add]
        omega
      rw [e3n, Int.natCast_mul]
      rfl
    have hq : (0 : Int) < ((2 ^ (k - 2) : Nat) : Int) := by have := Nat.two_pow_pos (k - 2); omega
    rw [e3] at eW
    have e4 : oz V * 4 = oz W * (4 * ((2 ^ (k - 2) : Nat) : Int)) := by
      have : oz V * ((2 ^ 2 : Nat) : Int) = oz V * 4 := rfl
      rw [← this, eV, eW]
    generalize ((2 ^ (k - 2) : Nat) : Int) = Q at *
    have e5 : oz V = oz W * Q := by
      have : oz W * (4 * Q) = 4 * (oz W * Q) := by grind
      omega
    rw [e5, ← hj]
    grind
  refine ⟨n1, n2, oz W, eW, ?_⟩
  have hw0 : 0 ≤ oz W := by
    refine Int.not_lt.mp fun hneg => ?_
    have hq : (0 : Int) < ((2 ^ k : Nat) : Int) := by have := Nat.two_pow_pos k; omega
    have := Int.mul_neg_of_neg_of_pos hneg hq
    omega
  have hw1 : oz W < 9223372036854775808 * (one64 : Int) := by
    have hn := (l2d_near h1).2
    have hlt := Int64.toInt_lt D
    have hq : (4 : Int) ≤ ((2 ^ k : Nat) : Int) := by
      have : (2 : Nat) ^ 2 ≤ 2 ^ k := Nat.pow_le_pow_right (by decide) hk
      omega
    have h3 := Int.mul_le_mul_of_nonneg_left hq hw0
    have h4 : D.toInt * (one64 : Int) ≤ 9223372036854775807 * (one64 : Int) := Int.mul_le_mul_of_nonneg_right (by omega) (Int.le_of_lt hp)
    generalize oz W * ((2 ^ k : Nat) : Int) = y at *
    generalize D.toInt * (one64 : Int) = dd at *
    omega
  rw [d2l_nonneg n2 (by rw [e2]; exact hw0) (by rw [e2]; exact hw1), e2]
theorem wait_small {D : Int64} (h1 : 1 ≤ D.toInt) (h2 : D.toInt ≤ 9007199254740992) {k : Nat} {z : Int} (hz : z * ((2 ^ k : Nat) : Int) = oz (l2d D)) : z / (one64 : Int) = D.toInt / ((2 ^ k : Nat) : Int) := by
  have hp := one_pos
  have hq : (0 : Int) < ((2 ^ k : Nat) : Int) := by have := Nat.two_pow_pos k; omega
  rw [oz_l2d (by omega)] at hz
  have hm := Int.mul_ediv_add_emod D.toInt ((2 ^ k : Nat) : Int)
  have hr0 := Int.emod_nonneg D.toInt (Int.ne_of_gt hq)
  have hr1 := Int.emod_lt_of_pos D.toInt hq
  generalize D.toInt % ((2 ^ k : Nat) : Int) = r at *
  generalize D.toInt / ((2 ^ k : Nat) : Int) = a at *
  generalize ((2 ^ k : Nat) : Int) = K at *
  generalize D.toInt = d at *
  generalize (one64 : Int) = P at *
  have hlo : a * P ≤ z := by
    refine Int.le_of_mul_le_mul_right (a := K) ?_ hq
    rw [hz, ← hm]
    have : 0 ≤ r * P := Int.mul_nonneg hr0 (Int.le_of_lt hp)
    grind
  have hhi : z < (a + 1) * P := by
    refine Int.lt_of_mul_lt_mul_right (a := K) ?_ (Int.le_of_lt hq)
    rw [hz, ← hm]
    have : r * P < K * P := Int.mul_lt_mul_of_pos_right hr1 hp
    grind
  have l1 := div_lo hp hlo
  have l2 := div_hi hp hhi
  omega
theorem wait_big {D : Int64} (h1 : 1 ≤ D.toInt) {k : Nat} (hk : 2 ≤ k) {z : Int} (hz : z * ((2 ^ k : Nat) : Int) = oz (l2d D)) : D.toInt / ((2 ^ k : Nat) : Int) - 128 ≤ z / (one64 : Int) ∧ z / (one64 : Int) ≤ D.toInt / ((2 ^ k : Nat) : Int) + 128 := by
  have hp := one_pos
  have hq : (4 : Int) ≤ ((2 ^ k : Nat) : Int) := by
    have : (2 : Nat) ^ 2 ≤ 2 ^ k := Nat.pow_le_pow_right (by decide) hk
    omega
  obtain ⟨n1, n2⟩ := l2d_near h1
  rw [← hz] at n1 n2
  have hm := Int.mul_ediv_add_emod D.toInt ((2 ^ k : Nat) : Int)
  have hr0 := Int.emod_nonneg D.toInt (show ((2 ^ k : Nat) : Int) ≠ 0 by omega)
  have hr1 := Int.emod_lt_of_pos D.toInt (show (0 : Int) < ((2 ^ k : Nat) : Int) by omega)
  generalize D.toInt % ((2 ^ k : Nat) : Int) = r at *
  generalize D.toInt / ((2 ^ k : Nat) : Int) = a at *
  generalize ((2 ^ k : Nat) : Int) = K at *
  generalize D.toInt = d at *
  generalize (one64 : Int) = P at *
  have hK : 512 * P ≤ 128 * (K * P) := by
    have := Int.mul_le_mul_of_nonneg_right hq (Int.le_of_lt hp)
    omega
  have hlo : (a - 128) * P ≤ z := by
    refine Int.le_of_mul_le_mul_right (a := K) ?_ (by omega)
    have : 0 ≤ r * P := Int.mul_nonneg hr0 (Int.le_of_lt hp)
    rw [← hm] at n1
    grind
  have hhi : z < (a + 129) * P := by
    refine Int.lt_of_mul_lt_mul_right (a := K) ?_ (by omega)
    have : r * P < K * P := Int.mul_lt_mul_of_pos_right hr1 hp
    rw [← hm] at n2
    grind
  have l1 := div_lo hp hlo
  have l2 := div_hi hp hhi
  omega
end Jvm.Pilot.@@N@@.OwnFp
namespace Jvm.Pilot.@@N@@
open Jvm Jvm.ClassFile Sem Op Lib Jvm.Free Jvm.Stand Jvm.LawKit Jvm.RoadKit Bundle Jvm.Pilot.@@N@@.Jvm.D
/-! own layer: a walk in continuation style over the library's laws of lawnew's family -/
section OwnBase
/-- from the state t the invocation over 'below' comes to its end, and F holds there -/
def own_Ends (tb : Tables) (e : Env) (below : List Frame) (F : Outcome → State → Prop) (t : State) : Prop :=
  ∃ s₂ o, Steps tb e below t s₂ ∧ s₂.status = .running ∧ Ended s₂ below o ∧ F o s₂
theorem own_go {tb : Tables} {e : Env} {below : List Frame} {F : Outcome → State → Prop} {t t' : State} (k : ∀ target, Steps tb e below t' target → Steps tb e below t target) (h : own_Ends tb e below F t') : own_Ends tb e below F t := by
  obtain ⟨s₂, o, h1, h2⟩ := h
  exact ⟨s₂, o, k _ h1, h2⟩
/-- what a contract says of the end -/
def own_F (s : State) (Q : Option Value → Heap → List Loc → Prop) (C S : Nat) (o : Outcome) (U : State) : Prop := ∃ v L, o = .returned v ∧ Q v U.heap L ∧ FrameEnd s o U L C S
abbrev own_Ctr (l : Launch) (Z : State) (y : MethodName) (bytes : ByteArray) (ml : Nat) (rt : Option FieldType) (ws : List Jvm.Cond) (rm : Room) (as : Array Value) (h0 : Heap) (Q : Option Value → Heap → List Loc → Prop) : Prop :=
  MetFree l y (head1 (Jvm.Cond.code y bytes ml rt :: ws) rm) (fun a U => a = as ∧ Z.Warmed39 U.vm ∧ U.heap = h0) (fun _ _ _ _ _ => True) (fun _ U o U' => ∃ v L, o = .returned v ∧ Q v U'.heap L ∧ FrameEnd U o U' L rm.cells rm.slots)
theorem own_enter {l : Launch} {Z : State} {y : MethodName} {bytes : ByteArray} {ml : Nat} {rt : Option FieldType} {ws : List Jvm.Cond} {rm : Room} {as : Array Value} {h0 : Heap} {Q : Option Value → Heap → List Loc → Prop} (hp : plainFor y = true)
    (body : ∀ (p : Program) (e : Env) (s : State) (m : MethodId) (below : List Frame) (meth : Method) (c : Code) (s₁ : State), BodyLoose p l y (head1 (Jvm.Cond.code y bytes ml rt :: ws) rm) bytes ml rt e s m as below meth c s₁ → Z.Warmed39 s.vm → c.maxLocals = ml → Stand p l e rm s m as below meth c s₁ [] 0 0 → s₁.heap = h0 →
      own_Ends p.tables e below (own_F s Q rm.cells rm.slots) (s₁.setTop (entryFrame m as ml))) : own_Ctr l Z y bytes ml rt ws rm as h0 Q := by
  refine MetFree.of_bodySF hp hisR ?_
  intro p e s m args below meth c s₁ Bd hml0 hP hK
  obtain ⟨rfl, hZ, hh⟩ := hP
  have e0 : s₁.heap = h0 := by rw [← hh, Bd.state]; rfl
  exact body p e s m below meth c s₁ Bd hZ hml0 (Stand.of_body Bd) e0
variable {p : Program} {l : Launch} {e : Env} {R : Room} {s : State} {m : MethodId} {args : Array Value} {below : List Frame} {meth : Method} {c : Code} {T : State} {locs : List Loc} {cells slots : Nat} {Z : State} {a0 : Array Value} {h : Heap} {Q : Option Value → Heap → List Loc → Prop} {C S : Nat}
theorem own_ret (X : Stand p l e R s m args below meth c T locs cells slots) {v : Option Value} {g : JFrame} (hv : meth.sig.returnType = none → v = none) (hlocks : meth.locks = false)
    (st : ∀ fs, (∀ (f : JFrame) (acts : List Action), f.method = m → f.locked = none → f.entered = [] → (doReturn e (T.setTop f) acts v).1 = T.setFrames fs) → Steps p.tables e below (T.setTop g) (T.setFrames fs)) (hc : cells ≤ C) (hs : slots ≤ S) (q : Q v T.heap locs) :
    own_Ends p.tables e below (own_F s Q C S) (T.setTop g) := by
  obtain ⟨fs, hr, hrun, hended, hW, hsame⟩ := X.leave (v := v) hv hlocks
  exact ⟨_, _, st fs hr, hrun, hended, v, locs, rfl, q, ⟨_, rfl⟩, hW, hsame.mono hc hs⟩
theorem own_retV (X : Stand p l e R s m args below meth c T locs cells slots) (hx : p.tables.exec = Jvm.exec) (hret : meth.sig.returnType = none) (hlocks : meth.locks = false) {pc : Nat} {Ls : Array Slot} (hd : decode c.code pc = .ok (.return_, 1)) (hc : cells ≤ C) (hs : slots ≤ S) (q : Q none T.heap locs) :
    own_Ends p.tables e below (own_F s Q C S) (T.setTop (mkF m pc Ls [])) :=
  own_ret X (fun _ => rfl) hlocks (fun fs hr => X.returnOut hx hret hd hr) hc hs q
theorem own_retZ (X : Stand p l e R s m args below meth c T locs cells slots) (hx : p.tables.exec = Jvm.exec) (hret : meth.sig.returnType = some .boolean) (hlocks : meth.locks = false) {pc : Nat} {Ls : Array Slot} {z : Int32} {rest : List Value} (hz : nar .boolean z = z) (hd : decode c.code pc = .ok (.ireturn, 1)) (hc : cells ≤ C) (hs : slots ≤ S) (q : Q (some (.int z)) T.heap locs) :
    own_Ends p.tables e below (own_F s Q C S) (T.setTop (mkF m pc Ls (.int z :: rest))) :=
  own_ret X (v := some (.int z)) (fun q => by rw [hret] at q; cases q) hlocks (fun fs hr => retN X hx (t := .boolean) hret (by simp) hd (by rw [hz]; exact hr)) hc hs q
theorem own_retI (X : Stand p l e R s m args below meth c T locs cells slots) (hx : p.tables.exec = Jvm.exec) (hret : meth.sig.returnType = some .int) (hlocks : meth.locks = false) {pc : Nat} {Ls : Array Slot} {z : Int32} {rest : List Value} (hd : decode c.code pc = .ok (.ireturn, 1)) (hc : cells ≤ C) (hs : slots ≤ S) (q : Q (some (.int z)) T.heap locs) :
    own_Ends p.tables e below (own_F s Q C S) (T.setTop (mkF m pc Ls (.int z :: rest))) :=
  own_ret X (v := some (.int z)) (fun q => by rw [hret] at q; cases q) hlocks (fun fs hr => retOut X hx hret rfl (Or.inl ⟨rfl, Or.inl rfl, _, rfl⟩) hd hr) hc hs q
theorem own_retJ (X : Stand p l e R s m args below meth c T locs cells slots) (hx : p.tables.exec = Jvm.exec) (hret : meth.sig.returnType = some .long) (hlocks : meth.locks = false) {pc : Nat} {Ls : Array Slot} {z : Int64} {rest : List Value} (hd : decode c.code pc = .ok (.lreturn, 1)) (hc : cells ≤ C) (hs : slots ≤ S) (q : Q (some (.long z)) T.heap locs) :
    own_Ends p.tables e below (own_F s Q C S) (T.setTop (mkF m pc Ls (.long z :: rest))) :=
  own_ret X (v := some (.long z)) (fun q => by rw [hret] at q; cases q) hlocks (fun fs hr => retOut X hx hret rfl (Or.inr (Or.inl ⟨rfl, rfl, _, rfl⟩)) hd hr) hc hs q
theorem own_retD (X : Stand p l e R s m args below meth c T locs cells slots) (hx : p.tables.exec = Jvm.exec) (hret : meth.sig.returnType = some .double) (hlocks : meth.locks = false) {pc : Nat} {Ls : Array Slot} {z : UInt64} {rest : List Value} (hd : decode c.code pc = .ok (.dreturn, 1)) (hc : cells ≤ C) (hs : slots ≤ S) (q : Q (some (.double z)) T.heap locs) :
    own_Ends p.tables e below (own_F s Q C S) (T.setTop (mkF m pc Ls (.double z :: rest))) :=
  own_ret X (v := some (.double z)) (fun q => by rw [hret] at q; cases q) hlocks (fun fs hr => retOut X hx hret rfl (Or.inr (Or.inr (Or.inl ⟨rfl, rfl, _, rfl⟩))) hd hr) hc hs q
theorem own_retA (X : Stand p l e R s m args below meth c T locs cells slots) (hx : p.tables.exec = Jvm.exec) {t : FieldType} (hret : meth.sig.returnType = some t) (hlocks : meth.locks = false) {pc : Nat} {Ls : Array Slot} {w : Value} {rest : List Value} (hd : decode c.code pc = .ok (.areturn, 1)) (ht : t.isReference = true) (hw : w.isRef = true) (hc : cells ≤ C) (hs : slots ≤ S) (q : Q (some w) T.heap locs) :
    own_Ends p.tables e below (own_F s Q C S) (T.setTop (mkF m pc Ls (w :: rest))) :=
  own_ret X (v := some w) (fun q => by rw [hret] at q; cases q) hlocks (fun fs hr => retOut X hx hret (by cases t <;> first | (cases ht; done) | (cases w <;> first | (cases hw; done) | rfl)) (Or.inr (Or.inr (Or.inr (Or.inr ⟨rfl, ht, hw⟩)))) hd hr) hc hs q
theorem own_special (X : Stand p l e R s m args below meth c T locs cells slots) (hx : p.tables.exec = Jvm.exec) (hZ : Z.Warmed39 s.vm) {own : String} {index : Nat} {y : MethodName} (hy1 : y.name = "<init>") (hown : s.vm.findClass own = some m.cls)
    (w1 : (Jvm.Cond.methodLink own index y).before a0 Z = true) (w2 : (Jvm.Cond.instanceMethod y).before a0 Z = true) {bytes : ByteArray} {maxL : Nat} (w3 : (Jvm.Cond.code y bytes maxL none).before a0 Z = true) (w4 : (Jvm.Cond.initialized y.cls).before a0 Z = true)
    (hy : y.cls ≠ "java/lang/invoke/MethodHandle" ∧ y.cls ≠ "java/lang/invoke/VarHandle") {rm : Room} {a : Addr} {argsL rest : List Value}
    (K : own_Ctr l Z y bytes maxL none [] rm (.ref a :: argsL).toArray h Q) (eT : T.heap = h) {g : JFrame} (hg : g.method = m) (hsize : g.locals.size = c.maxLocals)
    (hlen : ∀ sig, parseMethodDescriptor y.desc = some sig → argsL.length = sig.parameters.length) (hst : g.stack = argsL.reverse ++ .ref a :: rest) {W : Nat} (hW : 2 * g.monitorRoom + (rest.map fun v => v.category).sum ≤ W)
    (hd : decode c.code g.pc = .ok (.invokespecial index, 3)) (hf : rm.frames + 1 ≤ R.frames) (hlo : W + (maxL + 11) + rm.locals ≤ R.locals) (hc : cells + rm.cells ≤ R.cells) (hs : slots + rm.slots ≤ R.slots) :
    ∃ T' L v, Stand p l e R s m args below meth c T' (locs ++ L) (cells + rm.cells) (slots + rm.slots) ∧ Q v T'.heap L ∧ ∀ target, Steps p.tables e below (T'.setTop { g with pc := g.pc + 3, stack := v.toList ++ rest }) target → Steps p.tables e below (T.setTop g) target := by
  obtain ⟨v, _, ⟨T', L', k', n'⟩, -, X', ⟨L, hQ, l1, y1, z1⟩, st⟩ := X.specialBack hx (y := y) hy1 hown (mvT hZ w1) (mvT hZ w2) (mvT hZ w3) hy (backOf (W := W) K hZ w3 w4 hf hlo) (g := g) hg hsize (Steps.refl _) (a := a) (argsL := argsL) (rest := rest) hlen hst hW hd (fun _ _ => ⟨rfl, eT, hc, hs⟩)
  dsimp only [Pt.U, Pt.locs, Pt.cells, Pt.slots] at X' l1 y1 z1 st hQ
  subst l1 y1 z1
  exact ⟨T', L, v, X', hQ, fun t k => st.trans k⟩
theorem own_static (X : Stand p l e R s m args below meth c T locs cells slots) (hx : p.tables.exec = Jvm.exec) (hZ : Z.Warmed39 s.vm) {own : String} {index : Nat} {y : MethodName} (hown : s.vm.findClass own = some m.cls)
    (w1 : (Jvm.Cond.methodLink own index y).before a0 Z = true) (w2 : (Jvm.Cond.static y).before a0 Z = true) (w4 : (Jvm.Cond.initialized y.cls).before a0 Z = true) {bytes : ByteArray} {maxL : Nat} {rt : Option FieldType} (w3 : (Jvm.Cond.code y bytes maxL rt).before a0 Z = true)
    (hy : y.cls ≠ "java/lang/invoke/MethodHandle" ∧ y.cls ≠ "java/lang/invoke/VarHandle") {rm : Room} {argsL rest : List Value}
    (K : own_Ctr l Z y bytes maxL rt [] rm argsL.toArray h Q) (eT : T.heap = h) {g : JFrame} (hg : g.method = m) (hsize : g.locals.size = c.maxLocals)
    (hlen : ∀ sig, parseMethodDescriptor y.desc = some sig → argsL.length = sig.parameters.length) (hst : g.stack = argsL.reverse ++ rest) {W : Nat} (hW : 2 * g.monitorRoom + (rest.map fun v => v.category).sum ≤ W)
    (hd : decode c.code g.pc = .ok (.invokestatic index, 3)) (hf : rm.frames + 1 ≤ R.frames) (hlo : W + (maxL + 11) + rm.locals ≤ R.locals) (hc : cells + rm.cells ≤ R.cells) (hs : slots + rm.slots ≤ R.slots) :
    ∃ T' L v, Stand p l e R s m args below meth c T' (locs ++ L) (cells + rm.cells) (slots + rm.slots) ∧ Q v T'.heap L ∧ ∀ target, Steps p.tables e below (T'.setTop { g with pc := g.pc + 3, stack := v.toList ++ rest }) target → Steps p.tables e below (T.setTop g) target := by
  obtain ⟨v, _, ⟨T', L', k', n'⟩, -, X', ⟨L, hQ, l1, y1, z1⟩, st⟩ := Jvm.LawKit.callS X hx (y := y) hown (mvT hZ w1) (mvT hZ w2) (mvT hZ w4) (mvT hZ w3) hy (backOf (W := W) K hZ w3 w4 hf hlo) (g := g) hg hsize (argsL := argsL) (rest := rest) hlen hst hW hd (fun _ _ => ⟨rfl, eT, hc, hs⟩)
  dsimp only [Pt.U, Pt.locs, Pt.cells, Pt.slots] at X' l1 y1 z1 st hQ
  subst l1 y1 z1
  exact ⟨T', L, v, X', hQ, st⟩
theorem own_virtual (X : Stand p l e R s m args below meth c T locs cells slots) (hx : p.tables.exec = Jvm.exec) (hZ : Z.Warmed39 s.vm) {own : String} {index : Nat} {y : MethodName} (hown : s.vm.findClass own = some m.cls)
    (w1 : (Jvm.Cond.methodLink own index y).before a0 Z = true) (w2 : (Jvm.Cond.declares y).before a0 Z = true) (w5 : (Jvm.Cond.selects y.cls y y).before a0 Z = true) (w6 : (Jvm.Cond.instanceMethod y).before a0 Z = true) {bytes : ByteArray} {maxL : Nat} {rt : Option FieldType} (w3 : (Jvm.Cond.code y bytes maxL rt).before a0 Z = true) (w4 : (Jvm.Cond.initialized y.cls).before a0 Z = true)
    (hy : y.cls ≠ "java/lang/invoke/MethodHandle" ∧ y.cls ≠ "java/lang/invoke/VarHandle") {rm : Room} {a : Addr} {argsL rest : List Value} (E : Exa Z h a y.cls)
    (K : own_Ctr l Z y bytes maxL rt [] rm (.ref a :: argsL).toArray h Q) (eT : T.heap = h) {g : JFrame} (hg : g.method = m) (hsize : g.locals.size = c.maxLocals)
    (hlen : ∀ sig, parseMethodDescriptor y.desc = some sig → argsL.length = sig.parameters.length) (hst : g.stack = argsL.reverse ++ .ref a :: rest) {W : Nat} (hW : 2 * g.monitorRoom + (rest.map fun v => v.category).sum ≤ W)
    (hd : decode c.code g.pc = .ok (.invokevirtual index, 3)) (hf : rm.frames + 1 ≤ R.frames) (hlo : W + (maxL + 11) + rm.locals ≤ R.locals) (hc : cells + rm.cells ≤ R.cells) (hs : slots + rm.slots ≤ R.slots) :
    ∃ T' L v, Stand p l e R s m args below meth c T' (locs ++ L) (cells + rm.cells) (slots + rm.slots) ∧ Q v T'.heap L ∧ ∀ target, Steps p.tables e below (T'.setTop { g with pc := g.pc + 3, stack := v.toList ++ rest }) target → Steps p.tables e below (T.setTop g) target := by
  obtain ⟨cq, kq, qa, qb, qc⟩ := isOf hZ eT E
  obtain ⟨v, _, ⟨T', L', k', n'⟩, -, X', ⟨L, hQ, l1, y1, z1⟩, st⟩ := X.virtualBack hx (y := y) (z := y) hown (mvT hZ w1) (mvT hZ w2) (notFace_of_selects (args := #[]) (mvT hZ w5)) (mvT hZ w5) (mvT hZ w6) hy (backOf (W := W) K hZ w3 w4 hf hlo) qa qc (g := g) hg hsize (Steps.refl _) (argsL := argsL) (rest := rest) hlen hst hW hd (fun _ _ => ⟨rfl, eT, hc, hs⟩)
  dsimp only [Pt.U, Pt.locs, Pt.cells, Pt.slots] at X' l1 y1 z1 st hQ
  subst l1 y1 z1
  exact ⟨T', L, v, X', hQ, fun t k => st.trans k⟩
/-- a field is still there behind a write, whatever it holds -/
theorem own_any {h h' : Heap} {a b : Addr} {sl : Nat} {v w : Value} {C0 n d : String} (W : Wr h h' a sl v) (F : Fld Z h b C0 n d w) : ∃ w', Fld Z h' b C0 n d w' := by
  obtain ⟨cell, cf, k, i, f, h1, h2, h3, h4, h5, h6, h7⟩ := F
  obtain ⟨c', e1, e2, e3, e4, -⟩ := wr_at W h1
  have hl := (Array.getElem?_eq_some_iff.mp h7).1
  exact ⟨_, c', cf, k, i, f, e1, h2, h3, by rw [e3]; exact h4, by rw [e3]; exact h5, by rw [e2]; exact h6, Array.getElem?_eq_getElem (by rw [e4]; exact hl)⟩
end OwnBase
/-- what the count of leading zeros of an int says -/
def own_nlz (i r : Int) : Prop := (i = 0 ∧ r = 32) ∨ (i < 0 ∧ r = 0) ∨ (0 < i ∧ 1 ≤ r ∧ r ≤ 31 ∧ ((2 ^ (31 - r).toNat : Nat) : Int) ≤ i ∧ i < ((2 ^ (32 - r).toNat : Nat) : Int))
def own_inv (i : Int) (B S : Nat) (i' n : Int32) : Prop := 0 < i'.toInt ∧ i'.toInt < (B : Int) ∧ ∃ s : Nat, s ≤ S ∧ n.toInt = 31 - (s : Int) ∧ i'.toInt * ((2 ^ s : Nat) : Int) ≤ i ∧ i < (i'.toInt + 1) * ((2 ^ s : Nat) : Int)
theorem own_inv0 {i : Int32} (h : 0 < i) : own_inv i.toInt (65536 * 2 ^ 16) 0 i 31 := by
  have h1 := Int32.lt_iff_toInt_lt.mp h
  rw [show (0 : Int32).toInt = 0 by decide] at h1
  have h2 := Int32.toInt_lt i
  refine ⟨h1, ?_, 0, Nat.le_refl _, by decide, ?_, ?_⟩
  · have : ((65536 * 2 ^ 16 : Nat) : Int) = 4294967296 := by decide
    omega
  · simp
  · simp; omega
theorem own_stay {i : Int} {B B' S S' : Nat} {i' n : Int32} (h : own_inv i B S i' n) (hlt : i'.toInt < (B' : Int)) (hS : S ≤ S') : own_inv i B' S' i' n := by
  obtain ⟨h1, h2, s, h3, h4⟩ := h
  exact ⟨h1, hlt, s, Nat.le_trans h3 hS, h4⟩
theorem own_stage {i : Int} {B S a : Nat} {i' n q mm : Int32} (h : own_inv i (B * 2 ^ a) S i' n) (hge : ((2 ^ a : Nat) : Int) ≤ i'.toInt) (ha : 0 < a) (hS : S + a ≤ 30) (hq : q.toBitVec.toNat % 32 = a) (hm : mm.toInt = -(a : Int)) :
    own_inv i B (S + a) ((i'.toUInt32 >>> (q &&& 31).toUInt32).toInt32) (n + mm) := by
  obtain ⟨h1, h2, s, h3, h4, h5, h6⟩ := h
  have hu := c_iushr i' q a hq ha
  have hlt := Int32.toInt_lt i'
  have e0 : i'.toInt % 4294967296 = i'.toInt := Int.emod_eq_of_lt (by omega) (by omega)
  rw [e0] at hu
  have hK : (0 : Int) < ((2 ^ a : Nat) : Int) := by have := Nat.two_pow_pos a; omega
  have hn := c_iadd n mm
  have rn := rng32 (n + mm)
  have hdm := Int.mul_ediv_add_emod i'.toInt ((2 ^ a : Nat) : Int)
  have hr0 := Int.emod_nonneg i'.toInt (Int.ne_of_gt hK)
  have hr1 := Int.emod_lt_of_pos i'.toInt hK
  have hpos : 1 ≤ i'.toInt / ((2 ^ a : Nat) : Int) := (Int.le_ediv_iff_mul_le hK).mpr (by omega)
  have hup : i'.toInt / ((2 ^ a : Nat) : Int) < (B : Int) := Int.ediv_lt_of_lt_mul hK (by rw [← Int.natCast_mul]; exact h2)
  rw [← hu] at hdm hpos hup
  unfold own_inv
  obtain ⟨j, hj⟩ : ∃ j, j = ((i'.toUInt32 >>> (q &&& 31).toUInt32).toInt32).toInt := ⟨_, rfl⟩
  rw [← hj] at hdm hpos hup ⊢
  have eP : ((2 ^ (s + a) : Nat) : Int) = ((2 ^ a : Nat) : Int) * ((2 ^ s : Nat) : Int) := by rw [Nat.pow_add, Int.natCast_mul, Int.mul_comm]
  have hP : (0 : Int) < ((2 ^ s : Nat) : Int) := by have := Nat.two_pow_pos s; omega
  clear hj hu
  refine ⟨by omega, hup, s + a, by omega, by omega, ?_, ?_⟩
  · rw [eP]
    rw [← hdm] at h5
    generalize i'.toInt % ((2 ^ a : Nat) : Int) = r at *
    generalize ((2 ^ a : Nat) : Int) = K at *
    generalize ((2 ^ s : Nat) : Int) = P at *
    have h7 : 0 ≤ r * P := Int.mul_nonneg hr0 (Int.le_of_lt hP)
    have e : (K * j + r) * P = j * (K * P) + r * P := by rw [Int.add_mul, Int.mul_comm K j, Int.mul_assoc]
    rw [e] at h5
    omega
  · rw [eP]
    rw [← hdm] at h6
    generalize i'.toInt % ((2 ^ a : Nat) : Int) = r at *
    generalize ((2 ^ a : Nat) : Int) = K at *
    generalize ((2 ^ s : Nat) : Int) = P at *
    have h7 : (r + 1) * P ≤ K * P := Int.mul_le_mul_of_nonneg_right (by omega) (Int.le_of_lt hP)
    have e2 : (K * j + r + 1) * P = j * (K * P) + (r + 1) * P := by rw [Int.add_assoc, Int.add_mul, Int.mul_comm K j, Int.mul_assoc]
    have e3 : (j + 1) * (K * P) = j * (K * P) + K * P := by rw [Int.add_mul, Int.one_mul]
    rw [e2] at h6
    rw [e3]
    omega
theorem own_last {i : Int} {i' n : Int32} (h : own_inv i 4 30 i' n) (hb : i < 2147483648) : own_nlz i (n - ((i'.toUInt32 >>> ((1 : Int32) &&& 31).toUInt32).toInt32)).toInt := by
  obtain ⟨h1, h2, s, h3, h4, h5, h6⟩ := h
  have hu := c_iushr i' 1 1 (by decide) (by decide)
  have e0 : i'.toInt % 4294967296 = i'.toInt := Int.emod_eq_of_lt (by omega) (by omega)
  rw [e0] at hu
  have hn := c_isub n ((i'.toUInt32 >>> ((1 : Int32) &&& 31).toUInt32).toInt32)
  have rn := rng32 (n - ((i'.toUInt32 >>> ((1 : Int32) &&& 31).toUInt32).toInt32))
  generalize ((i'.toUInt32 >>> ((1 : Int32) &&& 31).toUInt32).toInt32) = j at *
  have hj : j.toInt = i'.toInt / 2 := hu
  have hP : (1 : Int) ≤ ((2 ^ s : Nat) : Int) := by have := Nat.two_pow_pos s; omega
  have hi : 0 < i := by
    have := Int.mul_le_mul_of_nonneg_right (show (1 : Int) ≤ i'.toInt by omega) (show 0 ≤ ((2 ^ s : Nat) : Int) by omega)
    omega
  have eP1 : ((2 ^ (s + 1) : Nat) : Int) = 2 * ((2 ^ s : Nat) : Int) := by rw [Nat.pow_succ, Int.natCast_mul]; omega
  have eP2 : ((2 ^ (s + 2) : Nat) : Int) = 4 * ((2 ^ s : Nat) : Int) := by rw [Nat.pow_succ, Nat.pow_succ, Int.natCast_mul, Int.natCast_mul]; omega
  refine Or.inr (Or.inr ⟨hi, ?_⟩)
  have hc : i'.toInt = 1 ∨ i'.toInt = 2 ∨ i'.toInt = 3 := by omega
  have hr : (n - j).toInt = 31 - (s : Int) - i'.toInt / 2 := by omega
  rw [hr]
  have hs29 : 2 ≤ i'.toInt → s ≤ 29 := fun h2i => by
    by_cases q : s = 30
    · subst q
      have h7 := Int.mul_le_mul_of_nonneg_right h2i (show 0 ≤ ((2 ^ 30 : Nat) : Int) by decide)
      rw [show ((2 ^ 30 : Nat) : Int) = 1073741824 by decide] at h5 h7
      omega
    · omega
  rcases hc with hc | hc | hc
  · rw [hc] at h5 h6 ⊢
    rw [show (31 - (31 - (s : Int) - 1 / 2)).toNat = s by omega, show (32 - (31 - (s : Int) - 1 / 2)).toNat = s + 1 by omega, eP1]
    generalize ((2 ^ s : Nat) : Int) = P at *
    refine ⟨by omega, by omega, by omega, by omega⟩
  · have hs := hs29 (by omega)
    rw [hc] at h5 h6 ⊢
    rw [show (31 - (31 - (s : Int) - 2 / 2)).toNat = s + 1 by omega, show (32 - (31 - (s : Int) - 2 / 2)).toNat = s + 2 by omega, eP1, eP2]
    generalize ((2 ^ s : Nat) : Int) = P at *
    refine ⟨by omega, by omega, by omega, by omega⟩
  · have hs := hs29 (by omega)
    rw [hc] at h5 h6 ⊢
    rw [show (31 - (31 - (s : Int) - 3 / 2)).toNat = s + 1 by omega, show (32 - (31 - (s : Int) - 3 / 2)).toNat = s + 2 by omega, eP1, eP2]
    generalize ((2 ^ s : Nat) : Int) = P at *
    refine ⟨by omega, by omega, by omega, by omega⟩
/-- .. of a long from 1 on -/
def own_nlzL (b r : Int) : Prop := 1 ≤ r ∧ r ≤ 63 ∧ ((2 ^ (63 - r).toNat : Nat) : Int) ≤ b ∧ b < ((2 ^ (64 - r).toNat : Nat) : Int)
theorem own_hi {b : Int64} (h : 1 ≤ b.toInt) : (((b.toUInt64 >>> ((32 : Int32) &&& 0x3f).toInt64.toUInt64).toInt64).toInt32).toInt = b.toInt / 4294967296 := by
  have hlt := Int64.toInt_lt b
  have hu := c_lushr b 32 32 (by decide) (by decide)
  have e0 : b.toInt % 18446744073709551616 = b.toInt := Int.emod_eq_of_lt (by omega) (by omega)
  rw [e0] at hu
  have e1 : ((2 ^ 32 : Nat) : Int) = 4294967296 := by decide
  rw [e1] at hu
  have hc := c_l2i ((b.toUInt64 >>> ((32 : Int32) &&& 0x3f).toInt64.toUInt64).toInt64)
  have hr := rng32 (((b.toUInt64 >>> ((32 : Int32) &&& 0x3f).toInt64.toUInt64).toInt64).toInt32)
  omega
theorem own_nlz_lo {b : Int64} (h : 1 ≤ b.toInt) (hz : b.toInt / 4294967296 = 0) {r : Int32} (hr : own_nlz b.toInt32.toInt r.toInt) : own_nlzL b.toInt ((32 : Int32) + r).toInt := by
  have hc := c_l2i b
  have hg := rng32 b.toInt32
  have ha := c_iadd 32 r
  rw [show (32 : Int32).toInt = 32 by decide] at ha
  have hrr := rng32 ((32 : Int32) + r)
  rcases hr with ⟨h1, h2⟩ | ⟨h1, h2⟩ | ⟨h1, h2, h3, h4, h5⟩
  · omega
  · have e : ((32 : Int32) + r).toInt = 32 := by omega
    rw [e]
    refine ⟨by omega, by omega, ?_, ?_⟩
    · rw [show ((2 ^ (63 - (32 : Int)).toNat : Nat) : Int) = 2147483648 by decide]; omega
    · rw [show ((2 ^ (64 - (32 : Int)).toNat : Nat) : Int) = 4294967296 by decide]; omega
  · have e : ((32 : Int32) + r).toInt = 32 + r.toInt := by omega
    have eb : b.toInt32.toInt = b.toInt := by omega
    rw [e, ← eb]
    refine ⟨by omega, by omega, ?_, ?_⟩
    · rw [show (63 - (32 + r.toInt)).toNat = (31 - r.toInt).toNat by omega]; exact h4
    · rw [show (64 - (32 + r.toInt)).toNat = (32 - r.toInt).toNat by omega]; exact h5
theorem own_nlz_hi {b : Int64} (h : 1 ≤ b.toInt) (hz : b.toInt / 4294967296 ≠ 0) {r : Int32} (hr : own_nlz (b.toInt / 4294967296) r.toInt) : own_nlzL b.toInt r.toInt := by
  rcases hr with ⟨h1, h2⟩ | ⟨h1, h2⟩ | ⟨h1, h2, h3, h4, h5⟩
  · omega
  · omega
  · refine ⟨h2, by omega, ?_, ?_⟩
    · rw [show (63 - r.toInt).toNat = (31 - r.toInt).toNat + 32 by omega, Nat.pow_add, Int.natCast_mul, show ((2 ^ 32 : Nat) : Int) = 4294967296 by decide]
      generalize ((2 ^ (31 - r.toInt).toNat : Nat) : Int) = P at *
      omega
    · rw [show (64 - r.toInt).toNat = (32 - r.toInt).toNat + 32 by omega, Nat.pow_add, Int.natCast_mul, show ((2 ^ 32 : Nat) : Int) = 4294967296 by decide]
      generalize ((2 ^ (32 - r.toInt).toNat : Nat) : Int) = P at *
      omega
def own_min (a b : Int64) : Int64 := if b < a then b else a
/-- what refDelay comes to -/
def own_ref (b mx : Int64) (d : Int32) : Int64 := if d < (63 : Int32) then (if ((9223372036854775807 : Int64) >>> (d &&& 0x3f).toInt64) < b then mx else own_min mx (b <<< (d &&& 0x3f).toInt64)) else mx
theorem own_mod64 {d : Int32} (h0 : 0 ≤ d.toInt) (h1 : d.toInt < 64) : d.toBitVec.toNat % 64 = d.toInt.toNat := by
  have e : d.toInt = (d.toBitVec.toInt) := rfl
  have q := BitVec.toInt_eq_toNat_cond d.toBitVec
  have l := d.toBitVec.isLt
  rw [← e] at q
  split at q
  · omega
  · omega
/-- waitMs's delay is refDelay's -/
theorem own_delay {b mx : Int64} {d r : Int32} (hb : 1 ≤ b.toInt) (hd : 0 ≤ d.toInt) (hr : own_nlzL b.toInt r.toInt) : (if d < r then own_min mx (b <<< (d &&& 0x3f).toInt64) else mx) = own_ref b mx d := by
  obtain ⟨r1, r2, r3, r4⟩ := hr
  unfold own_ref
  by_cases h63 : d < (63 : Int32)
  · have h63' := Int32.lt_iff_toInt_lt.mp h63
    rw [show (63 : Int32).toInt = 63 by decide] at h63'
    rw [if_pos h63]
    have hs := c_lshr (9223372036854775807 : Int64) d d.toInt.toNat (own_mod64 hd (by omega))
    rw [show (9223372036854775807 : Int64).toInt = 9223372036854775807 by decide] at hs
    have hK : (0 : Int) < ((2 ^ d.toInt.toNat : Nat) : Int) := by have := Nat.two_pow_pos d.toInt.toNat; omega
    have hiff : d < r ↔ ¬ ((9223372036854775807 : Int64) >>> (d &&& 0x3f).toInt64) < b := by
      rw [Int32.lt_iff_toInt_lt, Int64.lt_iff_toInt_lt, hs]
      have e63 : ((2 ^ d.toInt.toNat : Nat) : Int) * ((2 ^ (63 - d.toInt).toNat : Nat) : Int) = 9223372036854775808 := by
        rw [← Int.natCast_mul, ← Nat.pow_add, show d.toInt.toNat + (63 - d.toInt).toNat = 63 by omega]
        decide
      have hdiv : 9223372036854775807 / ((2 ^ d.toInt.toNat : Nat) : Int) = ((2 ^ (63 - d.toInt).toNat : Nat) : Int) - 1 := by
        generalize ((2 ^ (63 - d.toInt).toNat : Nat) : Int) = Q at *
        generalize ((2 ^ d.toInt.toNat : Nat) : Int) = K at *
        refine Int.le_antisymm ?_ ?_
        · have : 9223372036854775807 / K < Q := Int.ediv_lt_of_lt_mul hK (by rw [Int.mul_comm]; omega)
          omega
        · refine (Int.le_ediv_iff_mul_le hK).mpr ?_
          have : (Q - 1) * K = K * Q - K := by grind
          omega
      rw [hdiv]
      constructor
      · intro h
        have : (2 : Nat) ^ (64 - r.toInt).toNat ≤ 2 ^ (63 - d.toInt).toNat := Nat.pow_le_pow_right (by decide) (by omega)
        omega
      · intro h
        refine Int.lt_of_not_ge fun hge => h ?_
        have : (2 : Nat) ^ (63 - d.toInt).toNat ≤ 2 ^ (63 - r.toInt).toNat := Nat.pow_le_pow_right (by decide) (by omega)
        omega
    by_cases h : d < r
    · rw [if_pos h, if_neg (hiff.mp h)]
    · rw [if_neg h]
      by_cases h2 : ((9223372036854775807 : Int64) >>> (d &&& 0x3f).toInt64) < b
      · rw [if_pos h2]
      · exact absurd (hiff.mpr h2) h
  · rw [if_neg h63]
    have h63' : ¬ d.toInt < 63 := fun q => h63 (Int32.lt_iff_toInt_lt.mpr (by rw [show (63 : Int32).toInt = 63 by decide]; exact q))
    rw [if_neg (fun q => by have := Int32.lt_iff_toInt_lt.mp q; omega)]
/-- the delay is 1 at the least -/
theorem own_ref_pos {b mx : Int64} {d : Int32} (hb : 1 ≤ b.toInt) (hm : 1 ≤ mx.toInt) (hd : 0 ≤ d.toInt) : 1 ≤ (own_ref b mx d).toInt := by
  unfold own_ref
  by_cases h63 : d < (63 : Int32)
  · have h63' := Int32.lt_iff_toInt_lt.mp h63
    rw [show (63 : Int32).toInt = 63 by decide] at h63'
    rw [if_pos h63]
    by_cases h2 : ((9223372036854775807 : Int64) >>> (d &&& 0x3f).toInt64) < b
    · rw [if_pos h2]; exact hm
    · rw [if_neg h2]
      unfold own_min
      by_cases h3 : (b <<< (d &&& 0x3f).toInt64) < mx
      · rw [if_pos h3]
        have hs := c_lshr (9223372036854775807 : Int64) d d.toInt.toNat (own_mod64 hd (by omega))
        rw [show (9223372036854775807 : Int64).toInt = 9223372036854775807 by decide] at hs
        have hl := c_lshl b d d.toInt.toNat (own_mod64 hd (by omega))
        have hK : (0 : Int) < ((2 ^ d.toInt.toNat : Nat) : Int) := by have := Nat.two_pow_pos d.toInt.toNat; omega
        have h4 : ¬ ((9223372036854775807 : Int64) >>> (d &&& 0x3f).toInt64).toInt < b.toInt := fun q => h2 (Int64.lt_iff_toInt_lt.mpr q)
        rw [hs] at h4
        have h5 : b.toInt ≤ 9223372036854775807 / ((2 ^ d.toInt.toNat : Nat) : Int) := by omega
        have h6 := (Int.le_ediv_iff_mul_le hK).mp h5
        have h7 := Int.mul_le_mul_of_nonneg_right hb (Int.le_of_lt hK)
        have rr := rng64 (b <<< (d &&& 0x3f).toInt64)
        generalize b.toInt * ((2 ^ d.toInt.toNat : Nat) : Int) = y at *
        omega
      · rw [if_neg h3]; exact hm
  · rw [if_neg h63]; exact hm
theorem own_atleast (x : Int64) : 1 ≤ (if (1 : Int64) < (x &&& (9223372036854775807 : Int64)) then (x &&& (9223372036854775807 : Int64)) else (1 : Int64)).toInt := by
  split
  · rename_i h
    have := Int64.lt_iff_toInt_lt.mp h
    rw [show (1 : Int64).toInt = 1 by decide] at this
    omega
  · decide
theorem own_atleastI (x : Int32) : 1 ≤ (if (1 : Int32) < (x &&& (2147483647 : Int32)) then (x &&& (2147483647 : Int32)) else (1 : Int32)).toInt := by
  split
  · rename_i h
    have := Int32.lt_iff_toInt_lt.mp h
    rw [show (1 : Int32).toInt = 1 by decide] at this
    omega
  · decide
/-- the four choices of the law: the share and its shift -/
def own_sel (j : UInt64) (k : Int32) : Prop := (j = 0 ∧ k = -1) ∨ (j = 4598175219545276416 ∧ k = 4) ∨ (j = 4602678819172646912 ∧ k = 3) ∨ (j = 4607182418800017408 ∧ k = 2)
def own_X (D : Int64) (j : UInt64) : Int64 := FP.d2l (FP.dmul (FP.ddiv (FP.l2d D) 4616189618054758400) j)
theorem own_shr (D : Int64) (k : Int32) (n : Nat) (hk : k.toBitVec.toNat % 64 = n) : (D >>> (k &&& 0x3f).toInt64).toInt = D.toInt / ((2 ^ n : Nat) : Int) := c_lshr D k n hk
theorem own_edge {X R : Int64} (h1 : R.toInt - 128 ≤ X.toInt) (h2 : X.toInt ≤ R.toInt + 128) (h0 : 0 ≤ R.toInt) (h3 : R.toInt < 4611686018427387904) : ¬ lcmpW X (R - (128 : Int64)) < 0 ∧ ¬ 0 < lcmpW X (R + (128 : Int64)) := by
  rw [lw_lt, lw_gt, Int64.lt_iff_toInt_lt, Int64.lt_iff_toInt_lt]
  have a := c_ladd R 128
  have b := c_lsub R 128
  rw [show (128 : Int64).toInt = 128 by decide] at a b
  have ra := rng64 (R + (128 : Int64))
  have rb := rng64 (R - (128 : Int64))
  omega
theorem own_wait {D : Int64} (hD : 1 ≤ D.toInt) {j : UInt64} {k : Int32} (h : own_sel j k) :
    Jvm.Free.Fl.NoNaN64 (FP.ddiv (FP.l2d D) 4616189618054758400) ∧ Jvm.Free.Fl.NoNaN64 (FP.dmul (FP.ddiv (FP.l2d D) 4616189618054758400) j) ∧
    ((k < 0 ∧ own_X D j = 0) ∨ (¬ k < 0 ∧ (D.toInt ≤ 9007199254740992 → own_X D j = D >>> (k &&& 0x3f).toInt64) ∧ ¬ lcmpW (own_X D j) ((D >>> (k &&& 0x3f).toInt64) - (128 : Int64)) < 0 ∧ ¬ 0 < lcmpW (own_X D j) ((D >>> (k &&& 0x3f).toInt64) + (128 : Int64)))) := by
  have main : ∀ (n : Nat), 2 ≤ n → n ≤ 4 → k.toBitVec.toNat % 64 = n → ¬ k < 0 → OwnFp.DF j → ((2 ^ (n - 2) : Nat) : Int) * OwnFp.oz j = OwnFp.P64 →
      Jvm.Free.Fl.NoNaN64 (FP.ddiv (FP.l2d D) 4616189618054758400) ∧ Jvm.Free.Fl.NoNaN64 (FP.dmul (FP.ddiv (FP.l2d D) 4616189618054758400) j) ∧
      ((k < 0 ∧ own_X D j = 0) ∨ (¬ k < 0 ∧ (D.toInt ≤ 9007199254740992 → own_X D j = D >>> (k &&& 0x3f).toInt64) ∧ ¬ lcmpW (own_X D j) ((D >>> (k &&& 0x3f).toInt64) - (128 : Int64)) < 0 ∧ ¬ 0 < lcmpW (own_X D j) ((D >>> (k &&& 0x3f).toInt64) + (128 : Int64)))) := by
    intro n hn2 hn4 hk hk0 fj hj
    obtain ⟨n1, n2, z, hz, hX⟩ := OwnFp.wait_core hD fj hn2 hn4 hj
    refine ⟨OwnFp.no_nan n1, OwnFp.no_nan n2, Or.inr ⟨hk0, fun hs => ?_, ?_⟩⟩
    · refine Int64.toInt_inj.mp ?_
      rw [own_shr D k n hk]
      exact hX.trans (OwnFp.wait_small hD hs hz)
    · have hb := OwnFp.wait_big hD hn2 hz
      have e : (own_X D j).toInt = _ := hX
      rw [← e, ← own_shr D k n hk] at hb
      have hlt := Int64.toInt_lt D
      have hK : (4 : Int) ≤ ((2 ^ n : Nat) : Int) := by
        have : (2 : Nat) ^ 2 ≤ 2 ^ n := Nat.pow_le_pow_right (by decide) hn2
        omega
      have hR0 : 0 ≤ (D >>> (k &&& 0x3f).toInt64).toInt := by rw [own_shr D k n hk]; exact Int.ediv_nonneg (by omega) (by omega)
      have hR1 : (D >>> (k &&& 0x3f).toInt64).toInt < 4611686018427387904 := by
        rw [own_shr D k n hk]
        refine Int.ediv_lt_of_lt_mul (by omega) ?_
        omega
      exact own_edge hb.1 hb.2 hR0 hR1
  rcases h with ⟨rfl, rfl⟩ | ⟨rfl, rfl⟩ | ⟨rfl, rfl⟩ | ⟨rfl, rfl⟩
  · obtain ⟨e, n1, n2⟩ := OwnFp.wait_zero hD
    exact ⟨OwnFp.no_nan n1, OwnFp.no_nan n2, Or.inl ⟨rfl, e⟩⟩
  · exact main 4 (by decide) (by decide) (by decide) (by decide) OwnFp.fin_q OwnFp.oz_q
  · exact main 3 (by decide) (by decide) (by decide) (by decide) OwnFp.fin_h OwnFp.oz_h
  · exact main 2 (by decide) (by decide) (by decide) (by decide) OwnFp.fin_1 (by rw [OwnFp.oz_1]; exact Int.one_mul _)
theorem d1_0 : decode jdk_29_method_66_code 0 = .ok (.lload_n 0, 1) := by decide +kernel
theorem d1_1 : decode jdk_29_method_66_code 1 = .ok (.lload_n 2, 1) := by decide +kernel
theorem d1_2 : decode jdk_29_method_66_code 2 = .ok (.lcmp, 1) := by decide +kernel
theorem d1_3 : decode jdk_29_method_66_code 3 = .ok (.ifCond .lt 7, 3) := by decide +kernel
theorem d1_6 : decode jdk_29_method_66_code 6 = .ok (.lload_n 0, 1) := by decide +kernel
theorem d1_7 : decode jdk_29_method_66_code 7 = .ok (.goto 4, 3) := by decide +kernel
theorem d1_10 : decode jdk_29_method_66_code 10 = .ok (.lload_n 2, 1) := by decide +kernel
theorem d1_11 : decode jdk_29_method_66_code 11 = .ok (.lreturn, 1) := by decide +kernel
theorem pd_d1 : parseMethodDescriptor "(JJ)J" = some ⟨[.long, .long], some .long⟩ := by decide +kernel
theorem d2_0 : decode jdk_29_method_65_code 0 = .ok (.iload_n 0, 1) := by decide +kernel
theorem d2_1 : decode jdk_29_method_65_code 1 = .ok (.iload_n 1, 1) := by decide +kernel
theorem d2_2 : decode jdk_29_method_65_code 2 = .ok (.if_icmp .lt 7, 3) := by decide +kernel
theorem d2_5 : decode jdk_29_method_65_code 5 = .ok (.iload_n 0, 1) := by decide +kernel
theorem d2_6 : decode jdk_29_method_65_code 6 = .ok (.goto 4, 3) := by decide +kernel
theorem d2_9 : decode jdk_29_method_65_code 9 = .ok (.iload_n 1, 1) := by decide +kernel
theorem d2_10 : decode jdk_29_method_65_code 10 = .ok (.ireturn, 1) := by decide +kernel
theorem pd_d2 : parseMethodDescriptor "(II)I" = some ⟨[.int, .int], some .int⟩ := by decide +kernel
theorem d8_0 : decode jdk_29_method_70_code 0 = .ok (.lload_n 0, 1) := by decide +kernel
theorem d8_1 : decode jdk_29_method_70_code 1 = .ok (.lload_n 2, 1) := by decide +kernel
theorem d8_2 : decode jdk_29_method_70_code 2 = .ok (.lcmp, 1) := by decide +kernel
theorem d8_3 : decode jdk_29_method_70_code 3 = .ok (.ifCond .gt 7, 3) := by decide +kernel
theorem d8_6 : decode jdk_29_method_70_code 6 = .ok (.lload_n 0, 1) := by decide +kernel
theorem d8_7 : decode jdk_29_method_70_code 7 = .ok (.goto 4, 3) := by decide +kernel
theorem d8_10 : decode jdk_29_method_70_code 10 = .ok (.lload_n 2, 1) := by decide +kernel
theorem d8_11 : decode jdk_29_method_70_code 11 = .ok (.lreturn, 1) := by decide +kernel
theorem pd_d8 : parseMethodDescriptor "(JJ)J" = some ⟨[.long, .long], some .long⟩ := by decide +kernel
theorem d3_0 : decode prog_5_method_1_code 0 = .ok (.aload_n 0, 1) := by decide +kernel
theorem d3_1 : decode prog_5_method_1_code 1 = .ok (.invokespecial 1, 3) := by decide +kernel
theorem d3_4 : decode prog_5_method_1_code 4 = .ok (.iload_n 1, 1) := by decide +kernel
theorem d3_5 : decode prog_5_method_1_code 5 = .ok (.iconst 1, 1) := by decide +kernel
theorem d3_6 : decode prog_5_method_1_code 6 = .ok (.if_icmp .lt 16, 3) := by decide +kernel
theorem d3_9 : decode prog_5_method_1_code 9 = .ok (.lload_n 2, 1) := by decide +kernel
theorem d3_10 : decode prog_5_method_1_code 10 = .ok (.lconst 1, 1) := by decide +kernel
theorem d3_11 : decode prog_5_method_1_code 11 = .ok (.lcmp, 1) := by decide +kernel
theorem d3_12 : decode prog_5_method_1_code 12 = .ok (.ifCond .lt 10, 3) := by decide +kernel
theorem d3_15 : decode prog_5_method_1_code 15 = .ok (.lload 4, 2) := by decide +kernel
theorem d3_17 : decode prog_5_method_1_code 17 = .ok (.lconst 1, 1) := by decide +kernel
theorem d3_18 : decode prog_5_method_1_code 18 = .ok (.lcmp, 1) := by decide +kernel
theorem d3_19 : decode prog_5_method_1_code 19 = .ok (.ifCond .ge 20, 3) := by decide +kernel
theorem d3_22 : decode prog_5_method_1_code 22 = .ok (.new 7, 3) := by decide +kernel
theorem d3_25 : decode prog_5_method_1_code 25 = .ok (.dup, 1) := by decide +kernel
theorem d3_26 : decode prog_5_method_1_code 26 = .ok (.iload_n 1, 1) := by decide +kernel
theorem d3_27 : decode prog_5_method_1_code 27 = .ok (.lload_n 2, 1) := by decide +kernel
theorem d3_28 : decode prog_5_method_1_code 28 = .ok (.lload 4, 2) := by decide +kernel
theorem d3_30 : decode prog_5_method_1_code 30 = .ok (.invokedynamic 9, 5) := by decide +kernel
theorem d3_35 : decode prog_5_method_1_code 35 = .ok (.invokespecial 13, 3) := by decide +kernel
theorem d3_38 : decode prog_5_method_1_code 38 = .ok (.athrow, 1) := by decide +kernel
theorem d3_39 : decode prog_5_method_1_code 39 = .ok (.aload_n 0, 1) := by decide +kernel
theorem d3_40 : decode prog_5_method_1_code 40 = .ok (.iload_n 1, 1) := by decide +kernel
theorem d3_41 : decode prog_5_method_1_code 41 = .ok (.putfield 16, 3) := by decide +kernel
theorem d3_44 : decode prog_5_method_1_code 44 = .ok (.aload_n 0, 1) := by decide +kernel
theorem d3_45 : decode prog_5_method_1_code 45 = .ok (.lload_n 2, 1) := by decide +kernel
theorem d3_46 : decode prog_5_method_1_code 46 = .ok (.putfield 22, 3) := by decide +kernel
theorem d3_49 : decode prog_5_method_1_code 49 = .ok (.aload_n 0, 1) := by decide +kernel
theorem d3_50 : decode prog_5_method_1_code 50 = .ok (.lload 4, 2) := by decide +kernel
theorem d3_52 : decode prog_5_method_1_code 52 = .ok (.putfield 26, 3) := by decide +kernel
theorem d3_55 : decode prog_5_method_1_code 55 = .ok (.return_, 1) := by decide +kernel
theorem pn_d3 : plainName "com/example/tombsweep/tombsweep/Retries" = true := by first | (simp [plainName, overriddenIn]; done) | decide +kernel
theorem pd_d3 : parseMethodDescriptor "(IJJ)V" = some ⟨[.int, .long, .long], none⟩ := by decide +kernel
theorem d5_0 : decode prog_5_method_5_code 0 = .ok (.iload_n 1, 1) := by decide +kernel
theorem d5_1 : decode prog_5_method_5_code 1 = .ok (.iconst 1, 1) := by decide +kernel
theorem d5_2 : decode prog_5_method_5_code 2 = .ok (.isub, 1) := by decide +kernel
theorem d5_3 : decode prog_5_method_5_code 3 = .ok (.istore 4, 2) := by decide +kernel
theorem d5_5 : decode prog_5_method_5_code 5 = .ok (.iload 4, 2) := by decide +kernel
theorem d5_7 : decode prog_5_method_5_code 7 = .ok (.aload_n 0, 1) := by decide +kernel
theorem d5_8 : decode prog_5_method_5_code 8 = .ok (.getfield 22, 3) := by decide +kernel
theorem d5_11 : decode prog_5_method_5_code 11 = .ok (.invokestatic 29, 3) := by decide +kernel
theorem d5_14 : decode prog_5_method_5_code 14 = .ok (.if_icmp .lt 10, 3) := by decide +kernel
theorem d5_17 : decode prog_5_method_5_code 17 = .ok (.aload_n 0, 1) := by decide +kernel
theorem d5_18 : decode prog_5_method_5_code 18 = .ok (.getfield 26, 3) := by decide +kernel
theorem d5_21 : decode prog_5_method_5_code 21 = .ok (.goto 17, 3) := by decide +kernel
theorem d5_24 : decode prog_5_method_5_code 24 = .ok (.aload_n 0, 1) := by decide +kernel
theorem d5_25 : decode prog_5_method_5_code 25 = .ok (.getfield 26, 3) := by decide +kernel
theorem d5_28 : decode prog_5_method_5_code 28 = .ok (.aload_n 0, 1) := by decide +kernel
theorem d5_29 : decode prog_5_method_5_code 29 = .ok (.getfield 22, 3) := by decide +kernel
theorem d5_32 : decode prog_5_method_5_code 32 = .ok (.iload 4, 2) := by decide +kernel
theorem d5_34 : decode prog_5_method_5_code 34 = .ok (.lshl, 1) := by decide +kernel
theorem d5_35 : decode prog_5_method_5_code 35 = .ok (.invokestatic 35, 3) := by decide +kernel
theorem d5_38 : decode prog_5_method_5_code 38 = .ok (.lstore 5, 2) := by decide +kernel
theorem d5_40 : decode prog_5_method_5_code 40 = .ok (.lload 5, 2) := by decide +kernel
theorem d5_42 : decode prog_5_method_5_code 42 = .ok (.lload 5, 2) := by decide +kernel
theorem d5_44 : decode prog_5_method_5_code 44 = .ok (.l2d, 1) := by decide +kernel
theorem d5_45 : decode prog_5_method_5_code 45 = .ok (.ldc2_w 41, 3) := by decide +kernel
theorem d5_48 : decode prog_5_method_5_code 48 = .ok (.ddiv, 1) := by decide +kernel
theorem d5_49 : decode prog_5_method_5_code 49 = .ok (.dload_n 2, 1) := by decide +kernel
theorem d5_50 : decode prog_5_method_5_code 50 = .ok (.dmul, 1) := by decide +kernel
theorem d5_51 : decode prog_5_method_5_code 51 = .ok (.d2l, 1) := by decide +kernel
theorem d5_52 : decode prog_5_method_5_code 52 = .ok (.ladd, 1) := by decide +kernel
theorem d5_53 : decode prog_5_method_5_code 53 = .ok (.lreturn, 1) := by decide +kernel
theorem pn_d5 : plainName "com/example/tombsweep/tombsweep/Retries" = true := by first | (simp [plainName, overriddenIn]; done) | decide +kernel
theorem pd_d5 : parseMethodDescriptor "(ID)J" = some ⟨[.int, .double], some .long⟩ := by decide +kernel
theorem d6_0 : decode jdk_35_method_48_code 0 = .ok (.lload_n 0, 1) := by decide +kernel
theorem d6_1 : decode jdk_35_method_48_code 1 = .ok (.bipush 32, 2) := by decide +kernel
theorem d6_3 : decode jdk_35_method_48_code 3 = .ok (.lushr, 1) := by decide +kernel
theorem d6_4 : decode jdk_35_method_48_code 4 = .ok (.l2i, 1) := by decide +kernel
theorem d6_5 : decode jdk_35_method_48_code 5 = .ok (.istore_n 2, 1) := by decide +kernel
theorem d6_6 : decode jdk_35_method_48_code 6 = .ok (.iload_n 2, 1) := by decide +kernel
theorem d6_7 : decode jdk_35_method_48_code 7 = .ok (.ifCond .ne 14, 3) := by decide +kernel
theorem d6_10 : decode jdk_35_method_48_code 10 = .ok (.bipush 32, 2) := by decide +kernel
theorem d6_12 : decode jdk_35_method_48_code 12 = .ok (.lload_n 0, 1) := by decide +kernel
theorem d6_13 : decode jdk_35_method_48_code 13 = .ok (.l2i, 1) := by decide +kernel
theorem d6_14 : decode jdk_35_method_48_code 14 = .ok (.invokestatic 308, 3) := by decide +kernel
theorem d6_17 : decode jdk_35_method_48_code 17 = .ok (.iadd, 1) := by decide +kernel
theorem d6_18 : decode jdk_35_method_48_code 18 = .ok (.goto 7, 3) := by decide +kernel
theorem d6_21 : decode jdk_35_method_48_code 21 = .ok (.iload_n 2, 1) := by decide +kernel
theorem d6_22 : decode jdk_35_method_48_code 22 = .ok (.invokestatic 308, 3) := by decide +kernel
theorem d6_25 : decode jdk_35_method_48_code 25 = .ok (.ireturn, 1) := by decide +kernel
theorem pn_d6 : plainName "java/lang/Long" = true := by first | (simp [plainName, overriddenIn]; done) | decide +kernel
theorem pd_d6 : parseMethodDescriptor "(J)I" = some ⟨[.long], some .int⟩ := by decide +kernel
theorem d7_0 : decode jdk_33_method_47_code 0 = .ok (.iload_n 0, 1) := by decide +kernel
theorem d7_1 : decode jdk_33_method_47_code 1 = .ok (.ifCond .gt 14, 3) := by decide +kernel
theorem d7_4 : decode jdk_33_method_47_code 4 = .ok (.iload_n 0, 1) := by decide +kernel
theorem d7_5 : decode jdk_33_method_47_code 5 = .ok (.ifCond .ne 8, 3) := by decide +kernel
theorem d7_8 : decode jdk_33_method_47_code 8 = .ok (.bipush 32, 2) := by decide +kernel
theorem d7_10 : decode jdk_33_method_47_code 10 = .ok (.goto 4, 3) := by decide +kernel
theorem d7_13 : decode jdk_33_method_47_code 13 = .ok (.iconst 0, 1) := by decide +kernel
theorem d7_14 : decode jdk_33_method_47_code 14 = .ok (.ireturn, 1) := by decide +kernel
theorem d7_15 : decode jdk_33_method_47_code 15 = .ok (.bipush 31, 2) := by decide +kernel
theorem d7_17 : decode jdk_33_method_47_code 17 = .ok (.istore_n 1, 1) := by decide +kernel
theorem d7_18 : decode jdk_33_method_47_code 18 = .ok (.iload_n 0, 1) := by decide +kernel
theorem d7_19 : decode jdk_33_method_47_code 19 = .ok (.ldc_w 264, 3) := by decide +kernel
theorem d7_22 : decode jdk_33_method_47_code 22 = .ok (.if_icmp .lt 11, 3) := by decide +kernel
theorem d7_25 : decode jdk_33_method_47_code 25 = .ok (.iinc 1 (-16), 3) := by decide +kernel
theorem d7_28 : decode jdk_33_method_47_code 28 = .ok (.iload_n 0, 1) := by decide +kernel
theorem d7_29 : decode jdk_33_method_47_code 29 = .ok (.bipush 16, 2) := by decide +kernel
theorem d7_31 : decode jdk_33_method_47_code 31 = .ok (.iushr, 1) := by decide +kernel
theorem d7_32 : decode jdk_33_method_47_code 32 = .ok (.istore_n 0, 1) := by decide +kernel
theorem d7_33 : decode jdk_33_method_47_code 33 = .ok (.iload_n 0, 1) := by decide +kernel
theorem d7_34 : decode jdk_33_method_47_code 34 = .ok (.sipush 256, 3) := by decide +kernel
theorem d7_37 : decode jdk_33_method_47_code 37 = .ok (.if_icmp .lt 11, 3) := by decide +kernel
theorem d7_40 : decode jdk_33_method_47_code 40 = .ok (.iinc 1 (-8), 3) := by decide +kernel
theorem d7_43 : decode jdk_33_method_47_code 43 = .ok (.iload_n 0, 1) := by decide +kernel
theorem d7_44 : decode jdk_33_method_47_code 44 = .ok (.bipush 8, 2) := by decide +kernel
theorem d7_46 : decode jdk_33_method_47_code 46 = .ok (.iushr, 1) := by decide +kernel
theorem d7_47 : decode jdk_33_method_47_code 47 = .ok (.istore_n 0, 1) := by decide +kernel
theorem d7_48 : decode jdk_33_method_47_code 48 = .ok (.iload_n 0, 1) := by decide +kernel
theorem d7_49 : decode jdk_33_method_47_code 49 = .ok (.bipush 16, 2) := by decide +kernel
theorem d7_51 : decode jdk_33_method_47_code 51 = .ok (.if_icmp .lt 10, 3) := by decide +kernel
theorem d7_54 : decode jdk_33_method_47_code 54 = .ok (.iinc 1 (-4), 3) := by decide +kernel
theorem d7_57 : decode jdk_33_method_47_code 57 = .ok (.iload_n 0, 1) := by decide +kernel
theorem d7_58 : decode jdk_33_method_47_code 58 = .ok (.iconst 4, 1) := by decide +kernel
theorem d7_59 : decode jdk_33_method_47_code 59 = .ok (.iushr, 1) := by decide +kernel
theorem d7_60 : decode jdk_33_method_47_code 60 = .ok (.istore_n 0, 1) := by decide +kernel
theorem d7_61 : decode jdk_33_method_47_code 61 = .ok (.iload_n 0, 1) := by decide +kernel
theorem d7_62 : decode jdk_33_method_47_code 62 = .ok (.iconst 4, 1) := by decide +kernel
theorem d7_63 : decode jdk_33_method_47_code 63 = .ok (.if_icmp .lt 10, 3) := by decide +kernel
theorem d7_66 : decode jdk_33_method_47_code 66 = .ok (.iinc 1 (-2), 3) := by decide +kernel
theorem d7_69 : decode jdk_33_method_47_code 69 = .ok (.iload_n 0, 1) := by decide +kernel
theorem d7_70 : decode jdk_33_method_47_code 70 = .ok (.iconst 2, 1) := by decide +kernel
theorem d7_71 : decode jdk_33_method_47_code 71 = .ok (.iushr, 1) := by decide +kernel
theorem d7_72 : decode jdk_33_method_47_code 72 = .ok (.istore_n 0, 1) := by decide +kernel
theorem d7_73 : decode jdk_33_method_47_code 73 = .ok (.iload_n 1, 1) := by decide +kernel
theorem d7_74 : decode jdk_33_method_47_code 74 = .ok (.iload_n 0, 1) := by decide +kernel
theorem d7_75 : decode jdk_33_method_47_code 75 = .ok (.iconst 1, 1) := by decide +kernel
theorem d7_76 : decode jdk_33_method_47_code 76 = .ok (.iushr, 1) := by decide +kernel
theorem d7_77 : decode jdk_33_method_47_code 77 = .ok (.isub, 1) := by decide +kernel
theorem d7_78 : decode jdk_33_method_47_code 78 = .ok (.ireturn, 1) := by decide +kernel
theorem pn_d7 : plainName "java/lang/Integer" = true := by first | (simp [plainName, overriddenIn]; done) | decide +kernel
theorem pd_d7 : parseMethodDescriptor "(I)I" = some ⟨[.int], some .int⟩ := by decide +kernel
theorem d9_0 : decode method_3_code 0 = .ok (.iload 4, 2) := by decide +kernel
theorem d9_2 : decode method_3_code 2 = .ok (.bipush 63, 2) := by decide +kernel
theorem d9_4 : decode method_3_code 4 = .ok (.if_icmp .lt 5, 3) := by decide +kernel
theorem d9_7 : decode method_3_code 7 = .ok (.lload_n 2, 1) := by decide +kernel
theorem d9_8 : decode method_3_code 8 = .ok (.lreturn, 1) := by decide +kernel
theorem d9_9 : decode method_3_code 9 = .ok (.lload_n 0, 1) := by decide +kernel
theorem d9_10 : decode method_3_code 10 = .ok (.ldc2_w 9, 3) := by decide +kernel
theorem d9_13 : decode method_3_code 13 = .ok (.iload 4, 2) := by decide +kernel
theorem d9_15 : decode method_3_code 15 = .ok (.lshr, 1) := by decide +kernel
theorem d9_16 : decode method_3_code 16 = .ok (.lcmp, 1) := by decide +kernel
theorem d9_17 : decode method_3_code 17 = .ok (.ifCond .le 5, 3) := by decide +kernel
theorem d9_20 : decode method_3_code 20 = .ok (.lload_n 2, 1) := by decide +kernel
theorem d9_21 : decode method_3_code 21 = .ok (.lreturn, 1) := by decide +kernel
theorem d9_22 : decode method_3_code 22 = .ok (.lload_n 2, 1) := by decide +kernel
theorem d9_23 : decode method_3_code 23 = .ok (.lload_n 0, 1) := by decide +kernel
theorem d9_24 : decode method_3_code 24 = .ok (.iload 4, 2) := by decide +kernel
theorem d9_26 : decode method_3_code 26 = .ok (.lshl, 1) := by decide +kernel
theorem d9_27 : decode method_3_code 27 = .ok (.invokestatic 44, 3) := by decide +kernel
theorem d9_30 : decode method_3_code 30 = .ok (.lreturn, 1) := by decide +kernel
theorem pn_d9 : plainName "com/example/tombsweep/tombsweep/RetriesWaitMsPinLaw" = true := by first | (simp [plainName, overriddenIn]; done) | decide +kernel
theorem pd_d9 : parseMethodDescriptor "(JJI)J" = some ⟨[.long, .long, .int], some .long⟩ := by decide +kernel
theorem pn_at : plainName "com/example/tombsweep/tombsweep/RetriesWaitMsPinLaw" = true := by first | (simp [plainName, overriddenIn]; done) | decide +kernel
theorem ef_rm_maxJ (m : MethodId) (x0 : Int64) (x1 : Int64) : entryFrame m #[(.long x0), (.long x1)] 4 = mkF m 0 #[.val (.long x0), .second, .val (.long x1), .second] [] := by first | (simp [entryFrame, mkF, argsToLocals, Value.category]; done) | rfl
set_option maxRecDepth 65536 in
set_option maxHeartbeats 40000000 in
theorem rm_maxJ (l : Launch) (Z : State) (a0 : Array Value) (hw : ∀ d ∈ tables_1, d.before a0 Z = true) (ws : List Jvm.Cond) (a b : Int64) (h0 : Heap) (n0 : Nat) (Z0 : n0 ≤ h0.size)  :
    own_Ctr l Z (⟨"java/lang/Math", "max", "(JJ)J"⟩ : MethodName) jdk_29_method_66_code 4 (some .long) ws ({ frames := 0, cells := 0, slots := 0, locals := 0 } : Room) #[(.long a), (.long b)] h0 (fun v h L => v = some (.long (if a < b then b else a)) ∧ Fr n0 L ∧ h = h0) := by
  refine own_enter (Jvm.Free.JP.mathPlain rfl (by decide +kernel)) ?_
  intro p e s m below meth c s₁ Bd hZ hml X0 e0
  have hx := Bd.exec
  have hby := Bd.bytes
  have hown : s.vm.findClass "java/lang/Math" = some m.cls := findClass_of_methodNamed Bd.named
  have hnm := (name_of_methodNamed Bd.named Bd.method).1
  have N0 := Fr.nil n0
  refine own_go (t' := s₁.setTop (mkF m 0 #[.val (.long a), .second, .val (.long b), .second] [])) (fun _ k_ => castTop (ef_rm_maxJ m a b) k_) ?_
  refine own_go (t' := s₁.setTop (mkF m 1 #[.val (.long a), .second, .val (.long b), .second] [(.long a)])) (fun _ k_ => XS.lloadN X0.here hx rfl (Jvm.hb hby d1_0) rfl k_) ?_
  refine own_go (t' := s₁.setTop (mkF m 2 #[.val (.long a), .second, .val (.long b), .second] [(.long b), (.long a)])) (fun _ k_ => XS.lloadN X0.here hx rfl (Jvm.hb hby d1_1) rfl k_) ?_
  refine own_go (t' := s₁.setTop (mkF m 3 #[.val (.long a), .second, .val (.long b), .second] [(.int (lcmpW a b))])) (fun _ k_ => XS.lcmp X0.here hx rfl (Jvm.hb hby d1_2) rfl k_) ?_
  by_cases hc : a < b
  ·
    refine own_go (t' := s₁.setTop (mkF m 10 #[.val (.long a), .second, .val (.long b), .second] [])) (fun _ k_ => XS.ifYes X0.here hx rfl (pc0 := 3) (pc' := 10) rfl (Jvm.hb hby d1_3) rfl ((if0 _ _).trans (tlt ((lw_lt a b).mpr hc)).1) (by decide) (by decide) k_) ?_
    refine own_go (t' := s₁.setTop (mkF m 11 #[.val (.long a), .second, .val (.long b), .second] [(.long b)])) (fun _ k_ => XS.lloadN X0.here hx rfl (Jvm.hb hby d1_10) rfl k_) ?_
    exact own_retJ X0 hx Bd.returns (BodyLoose.notSynchronized Bd) (Jvm.hb hby d1_11) (by decide) (by decide) ⟨by rw [if_pos hc], N0, e0⟩
  ·
    refine own_go (t' := s₁.setTop (mkF m 6 #[.val (.long a), .second, .val (.long b), .second] [])) (fun _ k_ => XS.ifNo X0.here hx rfl (Jvm.hb hby d1_3) rfl ((if0 _ _).trans (flt (fun q => hc ((lw_lt a b).mp q))).1) k_) ?_
    refine own_go (t' := s₁.setTop (mkF m 7 #[.val (.long a), .second, .val (.long b), .second] [(.long a)])) (fun _ k_ => XS.lloadN X0.here hx rfl (Jvm.hb hby d1_6) rfl k_) ?_
    refine own_go (t' := s₁.setTop (mkF m 11 #[.val (.long a), .second, .val (.long b), .second] [(.long a)])) (fun _ k_ => XS.goto X0.here hx rfl (pc0 := 7) (pc' := 11) rfl (Jvm.hb hby d1_7) (by decide) (by decide) k_) ?_
    exact own_retJ X0 hx Bd.returns (BodyLoose.notSynchronized Bd) (Jvm.hb hby d1_11) (by decide) (by decide) ⟨by rw [if_neg hc], N0, e0⟩
theorem ef_rm_maxI (m : MethodId) (x0 : Int32) (x1 : Int32) : entryFrame m #[(.int x0), (.int x1)] 2 = mkF m 0 #[.val (.int x0), .val (.int x1)] [] := by first | (simp [entryFrame, mkF, argsToLocals, Value.category]; done) | rfl
set_option maxRecDepth 65536 in
set_option maxHeartbeats 40000000 in
theorem rm_maxI (l : Launch) (Z : State) (a0 : Array Value) (hw : ∀ d ∈ tables_1, d.before a0 Z = true) (ws : List Jvm.Cond) (a b : Int32) (h0 : Heap) (n0 : Nat) (Z0 : n0 ≤ h0.size)  :
    own_Ctr l Z (⟨"java/lang/Math", "max", "(II)I"⟩ : MethodName) jdk_29_method_65_code 2 (some .int) ws ({ frames := 0, cells := 0, slots := 0, locals := 0 } : Room) #[(.int a), (.int b)] h0 (fun v h L => v = some (.int (if a < b then b else a)) ∧ Fr n0 L ∧ h = h0) := by
  refine own_enter (Jvm.Free.JP.mathPlain rfl (by decide +kernel)) ?_
  intro p e s m below meth c s₁ Bd hZ hml X0 e0
  have hx := Bd.exec
  have hby := Bd.bytes
  have hown : s.vm.findClass "java/lang/Math" = some m.cls := findClass_of_methodNamed Bd.named
  have hnm := (name_of_methodNamed Bd.named Bd.method).1
  have N0 := Fr.nil n0
  refine own_go (t' := s₁.setTop (mkF m 0 #[.val (.int a), .val (.int b)] [])) (fun _ k_ => castTop (ef_rm_maxI m a b) k_) ?_
  refine own_go (t' := s₁.setTop (mkF m 1 #[.val (.int a), .val (.int b)] [(.int a)])) (fun _ k_ => XS.iloadN X0.here hx rfl (Jvm.hb hby d2_0) rfl k_) ?_
  refine own_go (t' := s₁.setTop (mkF m 2 #[.val (.int a), .val (.int b)] [(.int b), (.int a)])) (fun _ k_ => XS.iloadN X0.here hx rfl (Jvm.hb hby d2_1) rfl k_) ?_
  by_cases hc : a < b
  ·
    refine own_go (t' := s₁.setTop (mkF m 9 #[.val (.int a), .val (.int b)] [])) (fun _ k_ => XS.icmpYes X0.here hx rfl (pc0 := 2) (pc' := 9) rfl (Jvm.hb hby d2_2) rfl (tlt hc).1 (by decide) (by decide) k_) ?_
    refine own_go (t' := s₁.setTop (mkF m 10 #[.val (.int a), .val (.int b)] [(.int b)])) (fun _ k_ => XS.iloadN X0.here hx rfl (Jvm.hb hby d2_9) rfl k_) ?_
    exact own_retI X0 hx Bd.returns (BodyLoose.notSynchronized Bd) (Jvm.hb hby d2_10) (by decide) (by decide) ⟨by rw [if_pos hc], N0, e0⟩
  ·
    refine own_go (t' := s₁.setTop (mkF m 5 #[.val (.int a), .val (.int b)] [])) (fun _ k_ => XS.icmpNo X0.here hx rfl (Jvm.hb hby d2_2) rfl (flt hc).1 k_) ?_
    refine own_go (t' := s₁.setTop (mkF m 6 #[.val (.int a), .val (.int b)] [(.int a)])) (fun _ k_ => XS.iloadN X0.here hx rfl (Jvm.hb hby d2_5) rfl k_) ?_
    refine own_go (t' := s₁.setTop (mkF m 10 #[.val (.int a), .val (.int b)] [(.int a)])) (fun _ k_ => XS.goto X0.here hx rfl (pc0 := 6) (pc' := 10) rfl (Jvm.hb hby d2_6) (by decide) (by decide) k_) ?_
    exact own_retI X0 hx Bd.returns (BodyLoose.notSynchronized Bd) (Jvm.hb hby d2_10) (by decide) (by decide) ⟨by rw [if_neg hc], N0, e0⟩
theorem ef_rm_minJ (m : MethodId) (x0 : Int64) (x1 : Int64) : entryFrame m #[(.long x0), (.long x1)] 4 = mkF m 0 #[.val (.long x0), .second, .val (.long x1), .second] [] := by first | (simp [entryFrame, mkF, argsToLocals, Value.category]; done) | rfl
set_option maxRecDepth 65536 in
set_option maxHeartbeats 40000000 in
theorem rm_minJ (l : Launch) (Z : State) (a0 : Array Value) (hw : ∀ d ∈ tables_1, d.before a0 Z = true) (ws : List Jvm.Cond) (a b : Int64) (h0 : Heap) (n0 : Nat) (Z0 : n0 ≤ h0.size)  :
    own_Ctr l Z (⟨"java/lang/Math", "min", "(JJ)J"⟩ : MethodName) jdk_29_method_70_code 4 (some .long) ws ({ frames := 0, cells := 0, slots := 0, locals := 0 } : Room) #[(.long a), (.long b)] h0 (fun v h L => v = some (.long (own_min a b)) ∧ Fr n0 L ∧ h = h0) := by
  refine own_enter (Jvm.Free.JP.mathPlain rfl (by decide +kernel)) ?_
  intro p e s m below meth c s₁ Bd hZ hml X0 e0
  have hx := Bd.exec
  have hby := Bd.bytes
  have hown : s.vm.findClass "java/lang/Math" = some m.cls := findClass_of_methodNamed Bd.named
  have hnm := (name_of_methodNamed Bd.named Bd.method).1
  have N0 := Fr.nil n0
  refine own_go (t' := s₁.setTop (mkF m 0 #[.val (.long a), .second, .val (.long b), .second] [])) (fun _ k_ => castTop (ef_rm_minJ m a b) k_) ?_
  refine own_go (t' := s₁.setTop (mkF m 1 #[.val (.long a), .second, .val (.long b), .second] [(.long a)])) (fun _ k_ => XS.lloadN X0.here hx rfl (Jvm.hb hby d8_0) rfl k_) ?_
  refine own_go (t' := s₁.setTop (mkF m 2 #[.val (.long a), .second, .val (.long b), .second] [(.long b), (.long a)])) (fun _ k_ => XS.lloadN X0.here hx rfl (Jvm.hb hby d8_1) rfl k_) ?_
  refine own_go (t' := s₁.setTop (mkF m 3 #[.val (.long a), .second, .val (.long b), .second] [(.int (lcmpW a b))])) (fun _ k_ => XS.lcmp X0.here hx rfl (Jvm.hb hby d8_2) rfl k_) ?_
  by_cases hc : b < a
  ·
    refine own_go (t' := s₁.setTop (mkF m 10 #[.val (.long a), .second, .val (.long b), .second] [])) (fun _ k_ => XS.ifYes X0.here hx rfl (pc0 := 3) (pc' := 10) rfl (Jvm.hb hby d8_3) rfl ((if0 _ _).trans (tlt ((lw_gt a b).mpr hc)).2.2.1) (by decide) (by decide) k_) ?_
    refine own_go (t' := s₁.setTop (mkF m 11 #[.val (.long a), .second, .val (.long b), .second] [(.long b)])) (fun _ k_ => XS.lloadN X0.here hx rfl (Jvm.hb hby d8_10) rfl k_) ?_
    exact own_retJ X0 hx Bd.returns (BodyLoose.notSynchronized Bd) (Jvm.hb hby d8_11) (by decide) (by decide) ⟨by unfold own_min; rw [if_pos hc], N0, e0⟩
  ·
    refine own_go (t' := s₁.setTop (mkF m 6 #[.val (.long a), .second, .val (.long b), .second] [])) (fun _ k_ => XS.ifNo X0.here hx rfl (Jvm.hb hby d8_3) rfl ((if0 _ _).trans (flt (fun q => hc ((lw_gt a b).mp q))).2.2.1) k_) ?_
    refine own_go (t' := s₁.setTop (mkF m 7 #[.val (.long a), .second, .val (.long b), .second] [(.long a)])) (fun _ k_ => XS.lloadN X0.here hx rfl (Jvm.hb hby d8_6) rfl k_) ?_
    refine own_go (t' := s₁.setTop (mkF m 11 #[.val (.long a), .second, .val (.long b), .second] [(.long a)])) (fun _ k_ => XS.goto X0.here hx rfl (pc0 := 7) (pc' := 11) rfl (Jvm.hb hby d8_7) (by decide) (by decide) k_) ?_
    exact own_retJ X0 hx Bd.returns (BodyLoose.notSynchronized Bd) (Jvm.hb hby d8_11) (by decide) (by decide) ⟨by unfold own_min; rw [if_neg hc], N0, e0⟩
theorem own_neg {i : Int32} (h1 : ¬ (0 : Int32) < i) (h2 : ¬ i = 0) : i.toInt < 0 := by
  rw [Int32.lt_iff_toInt_lt, show (0 : Int32).toInt = 0 by decide] at h1
  have : i.toInt ≠ 0 := fun q => h2 (Int32.toInt_inj.mp (q.trans (by decide)))
  omega
theorem ef_rm_nlzI (m : MethodId) (x0 : Int32) : entryFrame m #[(.int x0)] 2 = mkF m 0 #[.val (.int x0), .unset] [] := by first | (simp [entryFrame, mkF, argsToLocals, Value.category]; done) | rfl
set_option maxRecDepth 65536 in
set_option maxHeartbeats 40000000 in
theorem rm_nlzI (l : Launch) (Z : State) (a0 : Array Value) (hw : ∀ d ∈ tables_1, d.before a0 Z = true) (ws : List Jvm.Cond) (p1 : Int32) (h0 : Heap) (n0 : Nat) (Z0 : n0 ≤ h0.size)  :
    own_Ctr l Z (⟨"java/lang/Integer", "numberOfLeadingZeros", "(I)I"⟩ : MethodName) jdk_33_method_47_code 2 (some .int) ws ({ frames := 0, cells := 0, slots := 0, locals := 0 } : Room) #[(.int p1)] h0 (fun v h L => ∃ r : Int32, v = some (.int r) ∧ own_nlz p1.toInt r.toInt ∧ Fr n0 L ∧ h = h0) := by
  refine own_enter (plainFor_of_name pn_d7) ?_
  intro p e s m below meth c s₁ Bd hZ hml X0 e0
  have hx := Bd.exec
  have hby := Bd.bytes
  have hown : s.vm.findClass "java/lang/Integer" = some m.cls := findClass_of_methodNamed Bd.named
  have hnm := (name_of_methodNamed Bd.named Bd.method).1
  have N0 := Fr.nil n0
  refine own_go (t' := s₁.setTop (mkF m 0 #[.val (.int p1), .unset] [])) (fun _ k_ => castTop (ef_rm_nlzI m p1) k_) ?_
  refine own_go (t' := s₁.setTop (mkF m 1 #[.val (.int p1), .unset] [(.int p1)])) (fun _ k_ => XS.iloadN X0.here hx rfl (Jvm.hb hby d7_0) rfl k_) ?_
  by_cases hp : (0 : Int32) < p1
  ·
    refine own_go (t' := s₁.setTop (mkF m 15 #[.val (.int p1), .unset] [])) (fun _ k_ => XS.ifYes X0.here hx rfl (pc0 := 1) (pc' := 15) rfl (Jvm.hb hby d7_1) rfl ((if0 _ _).trans (tlt hp).2.2.1) (by decide) (by decide) k_) ?_
    refine own_go (t' := s₁.setTop (mkF m 17 #[.val (.int p1), .unset] [(.int (31 : Int32))])) (fun _ k_ => XS.bipush X0.here hx rfl (Jvm.hb hby d7_15) k_) ?_
    refine own_go (t' := s₁.setTop (mkF m 18 #[.val (.int p1), .val (.int (31 : Int32))] [])) (fun _ k_ => XS.istoreN X0.here hx rfl (Jvm.hb hby d7_17) rfl (l' := #[.val (.int p1), .val (.int (31 : Int32))]) rfl k_) ?_
    have I0 := own_inv0 hp
    have J33 : ∀ iv0 nv0 : Int32, own_inv p1.toInt 65536 16 iv0 nv0 → own_Ends p.tables e below (own_F s (fun v h L => ∃ r : Int32, v = some (.int r) ∧ own_nlz p1.toInt r.toInt ∧ Fr n0 L ∧ h = h0) ({ frames := 0, cells := 0, slots := 0, locals := 0 } : Room).cells ({ frames := 0, cells := 0, slots := 0, locals := 0 } : Room).slots) (s₁.setTop (mkF m 33 #[.val (.int iv0), .val (.int nv0)] [])) := by
      intro iv0 nv0 I1
      have J48 : ∀ iv1 nv1 : Int32, own_inv p1.toInt 256 24 iv1 nv1 → own_Ends p.tables e below (own_F s (fun v h L => ∃ r : Int32, v = some (.int r) ∧ own_nlz p1.toInt r.toInt ∧ Fr n0 L ∧ h = h0) ({ frames := 0, cells := 0, slots := 0, locals := 0 } : Room).cells ({ frames := 0, cells := 0, slots := 0, locals := 0 } : Room).slots) (s₁.setTop (mkF m 48 #[.val (.int iv1), .val (.int nv1)] [])) := by
        intro iv1 nv1 I2
        have J61 : ∀ iv2 nv2 : Int32, own_inv p1.toInt 16 28 iv2 nv2 → own_Ends p.tables e below (own_F s (fun v h L => ∃ r : Int32, v = some (.int r) ∧ own_nlz p1.toInt r.toInt ∧ Fr n0 L ∧ h = h0) ({ frames := 0, cells := 0, slots := 0, locals := 0 } : Room).cells ({ frames := 0, cells := 0, slots := 0, locals := 0 } : Room).slots) (s₁.setTop (mkF m 61 #[.val (.int iv2), .val (.int nv2)] [])) := by
          intro iv2 nv2 I3
          have J73 : ∀ iv3 nv3 : Int32, own_inv p1.toInt 4 30 iv3 nv3 → own_Ends p.tables e below (own_F s (fun v h L => ∃ r : Int32, v = some (.int r) ∧ own_nlz p1.toInt r.toInt ∧ Fr n0 L ∧ h = h0) ({ frames := 0, cells := 0, slots := 0, locals := 0 } : Room).cells ({ frames := 0, cells := 0, slots := 0, locals := 0 } : Room).slots) (s₁.setTop (mkF m 73 #[.val (.int iv3), .val (.int nv3)] [])) := by
            intro iv3 nv3 I4
            refine own_go (t' := s₁.setTop (mkF m 74 #[.val (.int iv3), .val (.int nv3)] [(.int nv3)])) (fun _ k_ => XS.iloadN X0.here hx rfl (Jvm.hb hby d7_73) rfl k_) ?_
            refine own_go (t' := s₁.setTop (mkF m 75 #[.val (.int iv3), .val (.int nv3)] [(.int iv3), (.int nv3)])) (fun _ k_ => XS.iloadN X0.here hx rfl (Jvm.hb hby d7_74) rfl k_) ?_
            refine own_go (t' := s₁.setTop (mkF m 76 #[.val (.int iv3), .val (.int nv3)] [(.int (1 : Int32)), (.int iv3), (.int nv3)])) (fun _ k_ => XS.iconst X0.here hx rfl (Jvm.hb hby d7_75) k_) ?_
            refine own_go (t' := s₁.setTop (mkF m 77 #[.val (.int iv3), .val (.int nv3)] [(.int ((iv3.toUInt32 >>> ((1 : Int32) &&& 31).toUInt32).toInt32)), (.int nv3)])) (fun _ k_ => XS.iushr X0.here hx rfl (Jvm.hb hby d7_76) rfl k_) ?_
            refine own_go (t' := s₁.setTop (mkF m 78 #[.val (.int iv3), .val (.int nv3)] [(.int (nv3 - ((iv3.toUInt32 >>> ((1 : Int32) &&& 31).toUInt32).toInt32)))])) (fun _ k_ => XS.isub X0.here hx rfl (Jvm.hb hby d7_77) rfl k_) ?_
            exact own_retI X0 hx Bd.returns (BodyLoose.notSynchronized Bd) (Jvm.hb hby d7_78) (by decide) (by decide) ⟨_, rfl, own_last I4 (by have := Int32.toInt_lt p1; omega), N0, e0⟩
          refine own_go (t' := s₁.setTop (mkF m 62 #[.val (.int iv2), .val (.int nv2)] [(.int iv2)])) (fun _ k_ => XS.iloadN X0.here hx rfl (Jvm.hb hby d7_61) rfl k_) ?_
          refine own_go (t' := s₁.setTop (mkF m 63 #[.val (.int iv2), .val (.int nv2)] [(.int (4 : Int32)), (.int iv2)])) (fun _ k_ => XS.iconst X0.here hx rfl (Jvm.hb hby d7_62) k_) ?_
          by_cases hc3 : iv2 < (4 : Int32)
          ·
            refine own_go (t' := s₁.setTop (mkF m 73 #[.val (.int iv2), .val (.int nv2)] [])) (fun _ k_ => XS.icmpYes X0.here hx rfl (pc0 := 63) (pc' := 73) rfl (Jvm.hb hby d7_63) rfl (tlt hc3).1 (by decide) (by decide) k_) ?_
            exact J73 _ _ (own_stay I3 (by have := Int32.lt_iff_toInt_lt.mp hc3; rw [show (4 : Int32).toInt = 4 by decide] at this; exact this) (by decide))
          ·
            refine own_go (t' := s₁.setTop (mkF m 66 #[.val (.int iv2), .val (.int nv2)] [])) (fun _ k_ => XS.icmpNo X0.here hx rfl (Jvm.hb hby d7_63) rfl (flt hc3).1 k_) ?_
            refine own_go (t' := s₁.setTop (mkF m 69 #[.val (.int iv2), .val (.int (nv2 + (-2 : Int32)))] [])) (fun _ k_ => XS.iinc X0.here hx rfl (Jvm.hb hby d7_66) rfl (l' := #[.val (.int iv2), .val (.int (nv2 + (-2 : Int32)))]) rfl k_) ?_
            refine own_go (t' := s₁.setTop (mkF m 70 #[.val (.int iv2), .val (.int (nv2 + (-2 : Int32)))] [(.int iv2)])) (fun _ k_ => XS.iloadN X0.here hx rfl (Jvm.hb hby d7_69) rfl k_) ?_
            refine own_go (t' := s₁.setTop (mkF m 71 #[.val (.int iv2), .val (.int (nv2 + (-2 : Int32)))] [(.int (2 : Int32)), (.int iv2)])) (fun _ k_ => XS.iconst X0.here hx rfl (Jvm.hb hby d7_70) k_) ?_
            refine own_go (t' := s₁.setTop (mkF m 72 #[.val (.int iv2), .val (.int (nv2 + (-2 : Int32)))] [(.int ((iv2.toUInt32 >>> ((2 : Int32) &&& 31).toUInt32).toInt32))])) (fun _ k_ => XS.iushr X0.here hx rfl (Jvm.hb hby d7_71) rfl k_) ?_
            refine own_go (t' := s₁.setTop (mkF m 73 #[.val (.int ((iv2.toUInt32 >>> ((2 : Int32) &&& 31).toUInt32).toInt32)), .val (.int (nv2 + (-2 : Int32)))] [])) (fun _ k_ => XS.istoreN X0.here hx rfl (Jvm.hb hby d7_72) rfl (l' := #[.val (.int ((iv2.toUInt32 >>> ((2 : Int32) &&& 31).toUInt32).toInt32)), .val (.int (nv2 + (-2 : Int32)))]) rfl k_) ?_
            exact J73 _ _ (own_stage (B := 4) (S := 28) (a := 2) I3 (by have := mt Int32.lt_iff_toInt_lt.mpr hc3; rw [show (4 : Int32).toInt = 4 by decide] at this; rw [show ((2 ^ 2 : Nat) : Int) = 4 by decide]; omega) (by decide) (by decide) (by decide) (by decide))
        refine own_go (t' := s₁.setTop (mkF m 49 #[.val (.int iv1), .val (.int nv1)] [(.int iv1)])) (fun _ k_ => XS.iloadN X0.here hx rfl (Jvm.hb hby d7_48) rfl k_) ?_
        refine own_go (t' := s₁.setTop (mkF m 51 #[.val (.int iv1), .val (.int nv1)] [(.int (16 : Int32)), (.int iv1)])) (fun _ k_ => XS.bipush X0.here hx rfl (Jvm.hb hby d7_49) k_) ?_
        by_cases hc2 : iv1 < (16 : Int32)
        ·
          refine own_go (t' := s₁.setTop (mkF m 61 #[.val (.int iv1), .val (.int nv1)] [])) (fun _ k_ => XS.icmpYes X0.here hx rfl (pc0 := 51) (pc' := 61) rfl (Jvm.hb hby d7_51) rfl (tlt hc2).1 (by decide) (by decide) k_) ?_
          exact J61 _ _ (own_stay I2 (by have := Int32.lt_iff_toInt_lt.mp hc2; rw [show (16 : Int32).toInt = 16 by decide] at this; exact this) (by decide))
        ·
          refine own_go (t' := s₁.setTop (mkF m 54 #[.val (.int iv1), .val (.int nv1)] [])) (fun _ k_ => XS.icmpNo X0.here hx rfl (Jvm.hb hby d7_51) rfl (flt hc2).1 k_) ?_
          refine own_go (t' := s₁.setTop (mkF m 57 #[.val (.int iv1), .val (.int (nv1 + (-4 : Int32)))] [])) (fun _ k_ => XS.iinc X0.here hx rfl (Jvm.hb hby d7_54) rfl (l' := #[.val (.int iv1), .val (.int (nv1 + (-4 : Int32)))]) rfl k_) ?_
          refine own_go (t' := s₁.setTop (mkF m 58 #[.val (.int iv1), .val (.int (nv1 + (-4 : Int32)))] [(.int iv1)])) (fun _ k_ => XS.iloadN X0.here hx rfl (Jvm.hb hby d7_57) rfl k_) ?_
          refine own_go (t' := s₁.setTop (mkF m 59 #[.val (.int iv1), .val (.int (nv1 + (-4 : Int32)))] [(.int (4 : Int32)), (.int iv1)])) (fun _ k_ => XS.iconst X0.here hx rfl (Jvm.hb hby d7_58) k_) ?_
          refine own_go (t' := s₁.setTop (mkF m 60 #[.val (.int iv1), .val (.int (nv1 + (-4 : Int32)))] [(.int ((iv1.toUInt32 >>> ((4 : Int32) &&& 31).toUInt32).toInt32))])) (fun _ k_ => XS.iushr X0.here hx rfl (Jvm.hb hby d7_59) rfl k_) ?_
          refine own_go (t' := s₁.setTop (mkF m 61 #[.val (.int ((iv1.toUInt32 >>> ((4 : Int32) &&& 31).toUInt32).toInt32)), .val (.int (nv1 + (-4 : Int32)))] [])) (fun _ k_ => XS.istoreN X0.here hx rfl (Jvm.hb hby d7_60) rfl (l' := #[.val (.int ((iv1.toUInt32 >>> ((4 : Int32) &&& 31).toUInt32).toInt32)), .val (.int (nv1 + (-4 : Int32)))]) rfl k_) ?_
          exact J61 _ _ (own_stage (B := 16) (S := 24) (a := 4) I2 (by have := mt Int32.lt_iff_toInt_lt.mpr hc2; rw [show (16 : Int32).toInt = 16 by decide] at this; rw [show ((2 ^ 4 : Nat) : Int) = 16 by decide]; omega) (by decide) (by decide) (by decide) (by decide))
      refine own_go (t' := s₁.setTop (mkF m 34 #[.val (.int iv0), .val (.int nv0)] [(.int iv0)])) (fun _ k_ => XS.iloadN X0.here hx rfl (Jvm.hb hby d7_33) rfl k_) ?_
      refine own_go (t' := s₁.setTop (mkF m 37 #[.val (.int iv0), .val (.int nv0)] [(.int (256 : Int32)), (.int iv0)])) (fun _ k_ => XS.sipush X0.here hx rfl (Jvm.hb hby d7_34) k_) ?_
      by_cases hc1 : iv0 < (256 : Int32)
      ·
        refine own_go (t' := s₁.setTop (mkF m 48 #[.val (.int iv0), .val (.int nv0)] [])) (fun _ k_ => XS.icmpYes X0.here hx rfl (pc0 := 37) (pc' := 48) rfl (Jvm.hb hby d7_37) rfl (tlt hc1).1 (by decide) (by decide) k_) ?_
        exact J48 _ _ (own_stay I1 (by have := Int32.lt_iff_toInt_lt.mp hc1; rw [show (256 : Int32).toInt = 256 by decide] at this; exact this) (by decide))
      ·
        refine own_go (t' := s₁.setTop (mkF m 40 #[.val (.int iv0), .val (.int nv0)] [])) (fun _ k_ => XS.icmpNo X0.here hx rfl (Jvm.hb hby d7_37) rfl (flt hc1).1 k_) ?_
        refine own_go (t' := s₁.setTop (mkF m 43 #[.val (.int iv0), .val (.int (nv0 + (-8 : Int32)))] [])) (fun _ k_ => XS.iinc X0.here hx rfl (Jvm.hb hby d7_40) rfl (l' := #[.val (.int iv0), .val (.int (nv0 + (-8 : Int32)))]) rfl k_) ?_
        refine own_go (t' := s₁.setTop (mkF m 44 #[.val (.int iv0), .val (.int (nv0 + (-8 : Int32)))] [(.int iv0)])) (fun _ k_ => XS.iloadN X0.here hx rfl (Jvm.hb hby d7_43) rfl k_) ?_
        refine own_go (t' := s₁.setTop (mkF m 46 #[.val (.int iv0), .val (.int (nv0 + (-8 : Int32)))] [(.int (8 : Int32)), (.int iv0)])) (fun _ k_ => XS.bipush X0.here hx rfl (Jvm.hb hby d7_44) k_) ?_
        refine own_go (t' := s₁.setTop (mkF m 47 #[.val (.int iv0), .val (.int (nv0 + (-8 : Int32)))] [(.int ((iv0.toUInt32 >>> ((8 : Int32) &&& 31).toUInt32).toInt32))])) (fun _ k_ => XS.iushr X0.here hx rfl (Jvm.hb hby d7_46) rfl k_) ?_
        refine own_go (t' := s₁.setTop (mkF m 48 #[.val (.int ((iv0.toUInt32 >>> ((8 : Int32) &&& 31).toUInt32).toInt32)), .val (.int (nv0 + (-8 : Int32)))] [])) (fun _ k_ => XS.istoreN X0.here hx rfl (Jvm.hb hby d7_47) rfl (l' := #[.val (.int ((iv0.toUInt32 >>> ((8 : Int32) &&& 31).toUInt32).toInt32)), .val (.int (nv0 + (-8 : Int32)))]) rfl k_) ?_
        exact J48 _ _ (own_stage (B := 256) (S := 16) (a := 8) I1 (by have := mt Int32.lt_iff_toInt_lt.mpr hc1; rw [show (256 : Int32).toInt = 256 by decide] at this; rw [show ((2 ^ 8 : Nat) : Int) = 256 by decide]; omega) (by decide) (by decide) (by decide) (by decide))
    refine own_go (t' := s₁.setTop (mkF m 19 #[.val (.int p1), .val (.int (31 : Int32))] [(.int p1)])) (fun _ k_ => XS.iloadN X0.here hx rfl (Jvm.hb hby d7_18) rfl k_) ?_
    refine own_go (t' := s₁.setTop (mkF m 22 #[.val (.int p1), .val (.int (31 : Int32))] [(.int (65536 : Int32)), (.int p1)])) (fun _ k_ => X0.ldcWI (own := "java/lang/Integer") (index := 264) (v := (65536 : Int32)) hx hown (mvT hZ (hw _ (List.mem_of_getElem? (i := 37) rfl))) rfl (Jvm.hb hby d7_19) k_) ?_
    by_cases hc0 : p1 < (65536 : Int32)
    ·
      refine own_go (t' := s₁.setTop (mkF m 33 #[.val (.int p1), .val (.int (31 : Int32))] [])) (fun _ k_ => XS.icmpYes X0.here hx rfl (pc0 := 22) (pc' := 33) rfl (Jvm.hb hby d7_22) rfl (tlt hc0).1 (by decide) (by decide) k_) ?_
      exact J33 _ _ (own_stay I0 (by have := Int32.lt_iff_toInt_lt.mp hc0; rw [show (65536 : Int32).toInt = 65536 by decide] at this; exact this) (by decide))
    ·
      refine own_go (t' := s₁.setTop (mkF m 25 #[.val (.int p1), .val (.int (31 : Int32))] [])) (fun _ k_ => XS.icmpNo X0.here hx rfl (Jvm.hb hby d7_22) rfl (flt hc0).1 k_) ?_
      refine own_go (t' := s₁.setTop (mkF m 28 #[.val (.int p1), .val (.int ((31 : Int32) + (-16 : Int32)))] [])) (fun _ k_ => XS.iinc X0.here hx rfl (Jvm.hb hby d7_25) rfl (l' := #[.val (.int p1), .val (.int ((31 : Int32) + (-16 : Int32)))]) rfl k_) ?_
      refine own_go (t' := s₁.setTop (mkF m 29 #[.val (.int p1), .val (.int ((31 : Int32) + (-16 : Int32)))] [(.int p1)])) (fun _ k_ => XS.iloadN X0.here hx rfl (Jvm.hb hby d7_28) rfl k_) ?_
      refine own_go (t' := s₁.setTop (mkF m 31 #[.val (.int p1), .val (.int ((31 : Int32) + (-16 : Int32)))] [(.int (16 : Int32)), (.int p1)])) (fun _ k_ => XS.bipush X0.here hx rfl (Jvm.hb hby d7_29) k_) ?_
      refine own_go (t' := s₁.setTop (mkF m 32 #[.val (.int p1), .val (.int ((31 : Int32) + (-16 : Int32)))] [(.int ((p1.toUInt32 >>> ((16 : Int32) &&& 31).toUInt32).toInt32))])) (fun _ k_ => XS.iushr X0.here hx rfl (Jvm.hb hby d7_31) rfl k_) ?_
      refine own_go (t' := s₁.setTop (mkF m 33 #[.val (.int ((p1.toUInt32 >>> ((16 : Int32) &&& 31).toUInt32).toInt32)), .val (.int ((31 : Int32) + (-16 : Int32)))] [])) (fun _ k_ => XS.istoreN X0.here hx rfl (Jvm.hb hby d7_32) rfl (l' := #[.val (.int ((p1.toUInt32 >>> ((16 : Int32) &&& 31).toUInt32).toInt32)), .val (.int ((31 : Int32) + (-16 : Int32)))]) rfl k_) ?_
      exact J33 _ _ (own_stage (B := 65536) (S := 0) (a := 16) I0 (by have := mt Int32.lt_iff_toInt_lt.mpr hc0; rw [show (65536 : Int32).toInt = 65536 by decide] at this; rw [show ((2 ^ 16 : Nat) : Int) = 65536 by decide]; omega) (by decide) (by decide) (by decide) (by decide))
  ·
    refine own_go (t' := s₁.setTop (mkF m 4 #[.val (.int p1), .unset] [])) (fun _ k_ => XS.ifNo X0.here hx rfl (Jvm.hb hby d7_1) rfl ((if0 _ _).trans (flt hp).2.2.1) k_) ?_
    refine own_go (t' := s₁.setTop (mkF m 5 #[.val (.int p1), .unset] [(.int p1)])) (fun _ k_ => XS.iloadN X0.here hx rfl (Jvm.hb hby d7_4) rfl k_) ?_
    by_cases hz : p1 = 0
    ·
      refine own_go (t' := s₁.setTop (mkF m 8 #[.val (.int p1), .unset] [])) (fun _ k_ => XS.ifNo X0.here hx rfl (Jvm.hb hby d7_5) rfl ((if0 _ _).trans (teq hz).2) k_) ?_
      refine own_go (t' := s₁.setTop (mkF m 10 #[.val (.int p1), .unset] [(.int (32 : Int32))])) (fun _ k_ => XS.bipush X0.here hx rfl (Jvm.hb hby d7_8) k_) ?_
      refine own_go (t' := s₁.setTop (mkF m 14 #[.val (.int p1), .unset] [(.int (32 : Int32))])) (fun _ k_ => XS.goto X0.here hx rfl (pc0 := 10) (pc' := 14) rfl (Jvm.hb hby d7_10) (by decide) (by decide) k_) ?_
      exact own_retI X0 hx Bd.returns (BodyLoose.notSynchronized Bd) (Jvm.hb hby d7_14) (by decide) (by decide) ⟨_, rfl, Or.inl ⟨by rw [hz]; rfl, by decide⟩, N0, e0⟩
    ·
      refine own_go (t' := s₁.setTop (mkF m 13 #[.val (.int p1), .unset] [])) (fun _ k_ => XS.ifYes X0.here hx rfl (pc0 := 5) (pc' := 13) rfl (Jvm.hb hby d7_5) rfl ((if0 _ _).trans (feq hz).2) (by decide) (by decide) k_) ?_
      refine own_go (t' := s₁.setTop (mkF m 14 #[.val (.int p1), .unset] [(.int (0 : Int32))])) (fun _ k_ => XS.iconst X0.here hx rfl (Jvm.hb hby d7_13) k_) ?_
      exact own_retI X0 hx Bd.returns (BodyLoose.notSynchronized Bd) (Jvm.hb hby d7_14) (by decide) (by decide) ⟨_, rfl, Or.inr (Or.inl ⟨own_neg hp hz, by decide⟩), N0, e0⟩
theorem ef_rm_nlzL (m : MethodId) (x0 : Int64) : entryFrame m #[(.long x0)] 3 = mkF m 0 #[.val (.long x0), .second, .unset] [] := by first | (simp [entryFrame, mkF, argsToLocals, Value.category]; done) | rfl
set_option maxRecDepth 65536 in
set_option maxHeartbeats 40000000 in
theorem rm_nlzL (l : Launch) (Z : State) (a0 : Array Value) (hw : ∀ d ∈ tables_1, d.before a0 Z = true) (ws : List Jvm.Cond) (p1 : Int64) (h0 : Heap) (n0 : Nat) (Z0 : n0 ≤ h0.size) (hb : 1 ≤ p1.toInt) :
    own_Ctr l Z (⟨"java/lang/Long", "numberOfLeadingZeros", "(J)I"⟩ : MethodName) jdk_35_method_48_code 3 (some .int) ws ({ frames := 1, cells := 0, slots := 0, locals := 14 } : Room) #[(.long p1)] h0 (fun v h L => ∃ r : Int32, v = some (.int r) ∧ own_nlzL p1.toInt r.toInt ∧ Fr n0 L ∧ h = h0) := by
  refine own_enter (plainFor_of_name pn_d6) ?_
  intro p e s m below meth c s₁ Bd hZ hml X0 e0
  have hx := Bd.exec
  have hby := Bd.bytes
  have hown : s.vm.findClass "java/lang/Long" = some m.cls := findClass_of_methodNamed Bd.named
  have hnm := (name_of_methodNamed Bd.named Bd.method).1
  have N0 := Fr.nil n0
  refine own_go (t' := s₁.setTop (mkF m 0 #[.val (.long p1), .second, .unset] [])) (fun _ k_ => castTop (ef_rm_nlzL m p1) k_) ?_
  refine own_go (t' := s₁.setTop (mkF m 1 #[.val (.long p1), .second, .unset] [(.long p1)])) (fun _ k_ => XS.lloadN X0.here hx rfl (Jvm.hb hby d6_0) rfl k_) ?_
  refine own_go (t' := s₁.setTop (mkF m 3 #[.val (.long p1), .second, .unset] [(.int (32 : Int32)), (.long p1)])) (fun _ k_ => XS.bipush X0.here hx rfl (Jvm.hb hby d6_1) k_) ?_
  refine own_go (t' := s₁.setTop (mkF m 4 #[.val (.long p1), .second, .unset] [(.long ((p1.toUInt64 >>> ((32 : Int32) &&& 0x3f).toInt64.toUInt64).toInt64))])) (fun _ k_ => XS.lushr X0.here hx rfl (Jvm.hb hby d6_3) rfl k_) ?_
  refine own_go (t' := s₁.setTop (mkF m 5 #[.val (.long p1), .second, .unset] [(.int ((p1.toUInt64 >>> ((32 : Int32) &&& 0x3f).toInt64.toUInt64).toInt64).toInt32)])) (fun _ k_ => XS.l2i X0.here hx rfl (Jvm.hb hby d6_4) rfl k_) ?_
  refine own_go (t' := s₁.setTop (mkF m 6 #[.val (.long p1), .second, .val (.int ((p1.toUInt64 >>> ((32 : Int32) &&& 0x3f).toInt64.toUInt64).toInt64).toInt32)] [])) (fun _ k_ => XS.istoreN X0.here hx rfl (Jvm.hb hby d6_5) rfl (l' := #[.val (.long p1), .second, .val (.int ((p1.toUInt64 >>> ((32 : Int32) &&& 0x3f).toInt64.toUInt64).toInt64).toInt32)]) rfl k_) ?_
  have hh := own_hi hb
  generalize ((p1.toUInt64 >>> ((32 : Int32) &&& 0x3f).toInt64.toUInt64).toInt64).toInt32 = hi at hh ⊢
  refine own_go (t' := s₁.setTop (mkF m 7 #[.val (.long p1), .second, .val (.int hi)] [(.int hi)])) (fun _ k_ => XS.iloadN X0.here hx rfl (Jvm.hb hby d6_6) rfl k_) ?_
  by_cases hz : hi = 0
  ·
    refine own_go (t' := s₁.setTop (mkF m 10 #[.val (.long p1), .second, .val (.int hi)] [])) (fun _ k_ => XS.ifNo X0.here hx rfl (Jvm.hb hby d6_7) rfl ((if0 _ _).trans (teq hz).2) k_) ?_
    refine own_go (t' := s₁.setTop (mkF m 12 #[.val (.long p1), .second, .val (.int hi)] [(.int (32 : Int32))])) (fun _ k_ => XS.bipush X0.here hx rfl (Jvm.hb hby d6_10) k_) ?_
    refine own_go (t' := s₁.setTop (mkF m 13 #[.val (.long p1), .second, .val (.int hi)] [(.long p1), (.int (32 : Int32))])) (fun _ k_ => XS.lloadN X0.here hx rfl (Jvm.hb hby d6_12) rfl k_) ?_
    refine own_go (t' := s₁.setTop (mkF m 14 #[.val (.long p1), .second, .val (.int hi)] [(.int p1.toInt32), (.int (32 : Int32))])) (fun _ k_ => XS.l2i X0.here hx rfl (Jvm.hb hby d6_13) rfl k_) ?_
    obtain ⟨T1, L1, v1, X1, hQ1, st1⟩ := own_static X0 hx hZ hown (hw _ (List.mem_of_getElem? (i := 33) rfl)) (hw _ (List.mem_of_getElem? (i := 34) rfl)) (hw _ (List.mem_of_getElem? (i := 35) rfl)) (hw _ (List.mem_of_getElem? (i := 36) rfl)) (by decide) (rm_nlzI l Z a0 hw [] p1.toInt32 h0 n0 Z0) e0 (g := (mkF m 14 #[.val (.long p1), .second, .val (.int hi)] [(.int p1.toInt32), (.int (32 : Int32))])) rfl (by rw [hml]; rfl) (argsL := [(.int p1.toInt32)]) (rest := [(.int (32 : Int32))]) (lenOf pd_d7 rfl) rfl (W := 1) (by show 2 * 0 + _ ≤ _; exact Nat.le_of_eq rfl) (Jvm.hb hby d6_14) (by decide) (by decide) (by decide) (by decide)
    obtain ⟨r1, rfl, hr1, Nq1, e1⟩ := hQ1
    have N1 := Fr.app N0 Nq1
    refine own_go (t' := T1.setTop (mkF m 17 #[.val (.long p1), .second, .val (.int hi)] [(.int r1), (.int (32 : Int32))])) st1 ?_
    refine own_go (t' := T1.setTop (mkF m 18 #[.val (.long p1), .second, .val (.int hi)] [(.int ((32 : Int32) + r1))])) (fun _ k_ => XS.iadd X1.here hx rfl (Jvm.hb hby d6_17) rfl k_) ?_
    refine own_go (t' := T1.setTop (mkF m 25 #[.val (.long p1), .second, .val (.int hi)] [(.int ((32 : Int32) + r1))])) (fun _ k_ => XS.goto X1.here hx rfl (pc0 := 18) (pc' := 25) rfl (Jvm.hb hby d6_18) (by decide) (by decide) k_) ?_
    exact own_retI X1 hx Bd.returns (BodyLoose.notSynchronized Bd) (Jvm.hb hby d6_25) (by decide) (by decide) ⟨_, rfl, own_nlz_lo hb (by rw [← hh, hz]; rfl) hr1, N1, e1⟩
  ·
    refine own_go (t' := s₁.setTop (mkF m 21 #[.val (.long p1), .second, .val (.int hi)] [])) (fun _ k_ => XS.ifYes X0.here hx rfl (pc0 := 7) (pc' := 21) rfl (Jvm.hb hby d6_7) rfl ((if0 _ _).trans (feq hz).2) (by decide) (by decide) k_) ?_
    refine own_go (t' := s₁.setTop (mkF m 22 #[.val (.long p1), .second, .val (.int hi)] [(.int hi)])) (fun _ k_ => XS.iloadN X0.here hx rfl (Jvm.hb hby d6_21) rfl k_) ?_
    obtain ⟨T2, L2, v2, X2, hQ2, st2⟩ := own_static X0 hx hZ hown (hw _ (List.mem_of_getElem? (i := 33) rfl)) (hw _ (List.mem_of_getElem? (i := 34) rfl)) (hw _ (List.mem_of_getElem? (i := 35) rfl)) (hw _ (List.mem_of_getElem? (i := 36) rfl)) (by decide) (rm_nlzI l Z a0 hw [] hi h0 n0 Z0) e0 (g := (mkF m 22 #[.val (.long p1), .second, .val (.int hi)] [(.int hi)])) rfl (by rw [hml]; rfl) (argsL := [(.int hi)]) (rest := []) (lenOf pd_d7 rfl) rfl (W := 0) (by show 2 * 0 + _ ≤ _; exact Nat.le_of_eq rfl) (Jvm.hb hby d6_22) (by decide) (by decide) (by decide) (by decide)
    obtain ⟨r1, rfl, hr1, Nq2, e2⟩ := hQ2
    have N2 := Fr.app N0 Nq2
    refine own_go (t' := T2.setTop (mkF m 25 #[.val (.long p1), .second, .val (.int hi)] [(.int r1)])) st2 ?_
    exact own_retI X2 hx Bd.returns (BodyLoose.notSynchronized Bd) (Jvm.hb hby d6_25) (by decide) (by decide) ⟨_, rfl, own_nlz_hi hb (fun q => hz (Int32.toInt_inj.mp (hh.trans q))) (hh ▸ hr1), N2, e2⟩
theorem ef_rm_init (m : MethodId) (x0 : Addr) (x1 : Int32) (x2 : Int64) (x3 : Int64) : entryFrame m #[(.ref x0), (.int x1), (.long x2), (.long x3)] 6 = mkF m 0 #[.val (.ref x0), .val (.int x1), .val (.long x2), .second, .val (.long x3), .second] [] := by first | (simp [entryFrame, mkF, argsToLocals, Value.category]; done) | rfl
set_option maxRecDepth 65536 in
set_option maxHeartbeats 40000000 in
theorem rm_init (l : Launch) (Z : State) (a0 : Array Value) (hw : ∀ d ∈ tables_1, d.before a0 Z = true) (ws : List Jvm.Cond) (a1 : Addr) (p2 : Int32) (p3 p4 : Int64) (u1 u2 u3 : Value) (h0 : Heap) (n0 : Nat) (Z0 : n0 ≤ h0.size) (E0 : Exa Z h0 a1 "com/example/tombsweep/tombsweep/Retries") (F1 : Fld Z h0 a1 "com/example/tombsweep/tombsweep/Retries" "maxAttempts" "I" u1) (F2 : Fld Z h0 a1 "com/example/tombsweep/tombsweep/Retries" "baseMs" "J" u2) (F3 : Fld Z h0 a1 "com/example/tombsweep/tombsweep/Retries" "maxMs" "J" u3) (g1 : n0 ≤ a1) (c1 : ¬ p2 < 1) (c2 : 1 ≤ p3.toInt) (c3 : 1 ≤ p4.toInt) :
    own_Ctr l Z (⟨"com/example/tombsweep/tombsweep/Retries", "<init>", "(IJJ)V"⟩ : MethodName) prog_5_method_1_code 6 none ws ({ frames := 1, cells := 0, slots := 0, locals := 12 } : Room) #[(.ref a1), (.int p2), (.long p3), (.long p4)] h0 (fun v h L => v = none ∧ Fr n0 L ∧ Keep h0 h [a1] ∧ Exa Z h a1 "com/example/tombsweep/tombsweep/Retries" ∧ Fld Z h a1 "com/example/tombsweep/tombsweep/Retries" "baseMs" "J" (.long p3) ∧ Fld Z h a1 "com/example/tombsweep/tombsweep/Retries" "maxMs" "J" (.long p4)) := by
  refine own_enter (plainFor_of_name pn_d3) ?_
  intro p e s m below meth c s₁ Bd hZ hml X0 e0
  have hx := Bd.exec
  have hby := Bd.bytes
  have hown : s.vm.findClass "com/example/tombsweep/tombsweep/Retries" = some m.cls := findClass_of_methodNamed Bd.named
  have hnm := (name_of_methodNamed Bd.named Bd.method).1
  have N0 := Fr.nil n0
  refine own_go (t' := s₁.setTop (mkF m 0 #[.val (.ref a1), .val (.int p2), .val (.long p3), .second, .val (.long p4), .second] [])) (fun _ k_ => castTop (ef_rm_init m a1 p2 p3 p4) k_) ?_
  refine own_go (t' := s₁.setTop (mkF m 1 #[.val (.ref a1), .val (.int p2), .val (.long p3), .second, .val (.long p4), .second] [(.ref a1)])) (fun _ k_ => XS.aloadN X0.here hx rfl (Jvm.hb hby d3_0) rfl rfl k_) ?_
  obtain ⟨T1, X1, e1, st1⟩ := initO X0 hx hZ hown (hw _ (List.mem_of_getElem? (i := 15) rfl)) (hw _ (List.mem_of_getElem? (i := 16) rfl)) (hw _ (List.mem_of_getElem? (i := 17) rfl)) e0 (g := (mkF m 1 #[.val (.ref a1), .val (.int p2), .val (.long p3), .second, .val (.long p4), .second] [(.ref a1)])) rfl (by rw [hml]; rfl) rfl (Jvm.hb hby d3_1) (by decide) (W := 0) (by show 2 * 0 + _ ≤ _; exact Nat.le_of_eq rfl) (by decide)
  refine own_go (t' := T1.setTop (mkF m 4 #[.val (.ref a1), .val (.int p2), .val (.long p3), .second, .val (.long p4), .second] [])) st1 ?_
  refine own_go (t' := T1.setTop (mkF m 5 #[.val (.ref a1), .val (.int p2), .val (.long p3), .second, .val (.long p4), .second] [(.int p2)])) (fun _ k_ => XS.iloadN X1.here hx rfl (Jvm.hb hby d3_4) rfl k_) ?_
  refine own_go (t' := T1.setTop (mkF m 6 #[.val (.ref a1), .val (.int p2), .val (.long p3), .second, .val (.long p4), .second] [(.int (1 : Int32)), (.int p2)])) (fun _ k_ => XS.iconst X1.here hx rfl (Jvm.hb hby d3_5) k_) ?_
  refine own_go (t' := T1.setTop (mkF m 9 #[.val (.ref a1), .val (.int p2), .val (.long p3), .second, .val (.long p4), .second] [])) (fun _ k_ => XS.icmpNo X1.here hx rfl (Jvm.hb hby d3_6) rfl (flt c1).1 k_) ?_
  refine own_go (t' := T1.setTop (mkF m 10 #[.val (.ref a1), .val (.int p2), .val (.long p3), .second, .val (.long p4), .second] [(.long p3)])) (fun _ k_ => XS.lloadN X1.here hx rfl (Jvm.hb hby d3_9) rfl k_) ?_
  refine own_go (t' := T1.setTop (mkF m 11 #[.val (.ref a1), .val (.int p2), .val (.long p3), .second, .val (.long p4), .second] [(.long (1 : Int64)), (.long p3)])) (fun _ k_ => XS.lconst X1.here hx rfl (Jvm.hb hby d3_10) k_) ?_
  refine own_go (t' := T1.setTop (mkF m 12 #[.val (.ref a1), .val (.int p2), .val (.long p3), .second, .val (.long p4), .second] [(.int (lcmpW p3 (1 : Int64)))])) (fun _ k_ => XS.lcmp X1.here hx rfl (Jvm.hb hby d3_11) rfl k_) ?_
  refine own_go (t' := T1.setTop (mkF m 15 #[.val (.ref a1), .val (.int p2), .val (.long p3), .second, .val (.long p4), .second] [])) (fun _ k_ => XS.ifNo X1.here hx rfl (Jvm.hb hby d3_12) rfl ((if0 _ _).trans (flt (fun q => by have := Int64.lt_iff_toInt_lt.mp ((lw_lt _ _).mp q); rw [show (1 : Int64).toInt = 1 by decide] at this; omega)).1) k_) ?_
  refine own_go (t' := T1.setTop (mkF m 17 #[.val (.ref a1), .val (.int p2), .val (.long p3), .second, .val (.long p4), .second] [(.long p4)])) (fun _ k_ => XS.lload X1.here hx rfl (Jvm.hb hby d3_15) rfl k_) ?_
  refine own_go (t' := T1.setTop (mkF m 18 #[.val (.ref a1), .val (.int p2), .val (.long p3), .second, .val (.long p4), .second] [(.long (1 : Int64)), (.long p4)])) (fun _ k_ => XS.lconst X1.here hx rfl (Jvm.hb hby d3_17) k_) ?_
  refine own_go (t' := T1.setTop (mkF m 19 #[.val (.ref a1), .val (.int p2), .val (.long p3), .second, .val (.long p4), .second] [(.int (lcmpW p4 (1 : Int64)))])) (fun _ k_ => XS.lcmp X1.here hx rfl (Jvm.hb hby d3_18) rfl k_) ?_
  refine own_go (t' := T1.setTop (mkF m 39 #[.val (.ref a1), .val (.int p2), .val (.long p3), .second, .val (.long p4), .second] [])) (fun _ k_ => XS.ifYes X1.here hx rfl (pc0 := 19) (pc' := 39) rfl (Jvm.hb hby d3_19) rfl ((if0 _ _).trans (flt (fun q => by have := Int64.lt_iff_toInt_lt.mp ((lw_lt _ _).mp q); rw [show (1 : Int64).toInt = 1 by decide] at this; omega)).2.1) (by decide) (by decide) k_) ?_
  refine own_go (t' := T1.setTop (mkF m 40 #[.val (.ref a1), .val (.int p2), .val (.long p3), .second, .val (.long p4), .second] [(.ref a1)])) (fun _ k_ => XS.aloadN X1.here hx rfl (Jvm.hb hby d3_39) rfl rfl k_) ?_
  refine own_go (t' := T1.setTop (mkF m 41 #[.val (.ref a1), .val (.int p2), .val (.long p3), .second, .val (.long p4), .second] [(.int p2), (.ref a1)])) (fun _ k_ => XS.iloadN X1.here hx rfl (Jvm.hb hby d3_40) rfl k_) ?_
  have sne : Jvm.RoadKit.slotOf Z "com/example/tombsweep/tombsweep/Retries" "baseMs" "J" ≠ Jvm.RoadKit.slotOf Z "com/example/tombsweep/tombsweep/Retries" "maxMs" "J" := slot_ne (C := "com/example/tombsweep/tombsweep/Retries") (Or.inr (hw _ (List.mem_of_getElem? (i := 21) rfl))) (Or.inr (hw _ (List.mem_of_getElem? (i := 23) rfl))) (by decide) (t := .long) (t' := .long) (by decide) (by decide)
  obtain ⟨T2, h2, X2, e2, W2, st2⟩ := putF X1 hx hZ hown (host := "") (Or.inl (hw _ (List.mem_of_getElem? (i := 18) rfl))) Via.refl e1 F1 E0 (Or.inr ⟨(hw _ (List.mem_of_getElem? (i := 19) rfl)), rfl, hnm⟩) (hw _ (List.mem_of_getElem? (i := 10) rfl)) (ty := .int) (by decide) rfl rfl (g := (mkF m 41 #[.val (.ref a1), .val (.int p2), .val (.long p3), .second, .val (.long p4), .second] [(.int p2), (.ref a1)])) rfl rfl (Jvm.hb hby d3_41)
  refine own_go (t' := T2.setTop (mkF m 44 #[.val (.ref a1), .val (.int p2), .val (.long p3), .second, .val (.long p4), .second] [])) st2 ?_
  have N2 := Fr.snoc X2 N0 g1
  obtain ⟨v2, F2a⟩ := own_any W2 F2
  obtain ⟨v3, F3a⟩ := own_any W2 F3
  refine own_go (t' := T2.setTop (mkF m 45 #[.val (.ref a1), .val (.int p2), .val (.long p3), .second, .val (.long p4), .second] [(.ref a1)])) (fun _ k_ => XS.aloadN X2.here hx rfl (Jvm.hb hby d3_44) rfl rfl k_) ?_
  refine own_go (t' := T2.setTop (mkF m 46 #[.val (.ref a1), .val (.int p2), .val (.long p3), .second, .val (.long p4), .second] [(.long p3), (.ref a1)])) (fun _ k_ => XS.lloadN X2.here hx rfl (Jvm.hb hby d3_45) rfl k_) ?_
  obtain ⟨T3, h3, X3, e3, W3, st3⟩ := putF X2 hx hZ hown (host := "") (Or.inl (hw _ (List.mem_of_getElem? (i := 20) rfl))) Via.refl e2 F2a (E0.wr W2) (Or.inr ⟨(hw _ (List.mem_of_getElem? (i := 21) rfl)), rfl, hnm⟩) (hw _ (List.mem_of_getElem? (i := 10) rfl)) (ty := .long) (by decide) rfl rfl (g := (mkF m 46 #[.val (.ref a1), .val (.int p2), .val (.long p3), .second, .val (.long p4), .second] [(.long p3), (.ref a1)])) rfl rfl (Jvm.hb hby d3_46)
  refine own_go (t' := T3.setTop (mkF m 49 #[.val (.ref a1), .val (.int p2), .val (.long p3), .second, .val (.long p4), .second] [])) st3 ?_
  have N3 := Fr.snoc X3 N2 g1
  have F2b : Fld Z h3 a1 "com/example/tombsweep/tombsweep/Retries" "baseMs" "J" (.long p3) := F2a.same W3
  obtain ⟨v4, F3b⟩ := own_any W3 F3a
  refine own_go (t' := T3.setTop (mkF m 50 #[.val (.ref a1), .val (.int p2), .val (.long p3), .second, .val (.long p4), .second] [(.ref a1)])) (fun _ k_ => XS.aloadN X3.here hx rfl (Jvm.hb hby d3_49) rfl rfl k_) ?_
  refine own_go (t' := T3.setTop (mkF m 52 #[.val (.ref a1), .val (.int p2), .val (.long p3), .second, .val (.long p4), .second] [(.long p4), (.ref a1)])) (fun _ k_ => XS.lload X3.here hx rfl (Jvm.hb hby d3_50) rfl k_) ?_
  obtain ⟨T4, h4, X4, e4, W4, st4⟩ := putF X3 hx hZ hown (host := "") (Or.inl (hw _ (List.mem_of_getElem? (i := 22) rfl))) Via.refl e3 F3b ((E0.wr W2).wr W3) (Or.inr ⟨(hw _ (List.mem_of_getElem? (i := 23) rfl)), rfl, hnm⟩) (hw _ (List.mem_of_getElem? (i := 10) rfl)) (ty := .long) (by decide) rfl rfl (g := (mkF m 52 #[.val (.ref a1), .val (.int p2), .val (.long p3), .second, .val (.long p4), .second] [(.long p4), (.ref a1)])) rfl rfl (Jvm.hb hby d3_52)
  refine own_go (t' := T4.setTop (mkF m 55 #[.val (.ref a1), .val (.int p2), .val (.long p3), .second, .val (.long p4), .second] [])) st4 ?_
  have N4 := Fr.snoc X4 N3 g1
  have F2c : Fld Z h4 a1 "com/example/tombsweep/tombsweep/Retries" "baseMs" "J" (.long p3) := F2b.other W4 (Or.inr sne)
  have F3c : Fld Z h4 a1 "com/example/tombsweep/tombsweep/Retries" "maxMs" "J" (.long p4) := F3b.same W4
  have K : Keep h0 h4 [a1] := (((Keep.refl _ _).wr W2 (Or.inl (List.mem_of_getElem? (i := 0) rfl))).wr W3 (Or.inl (List.mem_of_getElem? (i := 0) rfl))).wr W4 (Or.inl (List.mem_of_getElem? (i := 0) rfl))
  exact own_retV X4 hx Bd.returns (BodyLoose.notSynchronized Bd) (Jvm.hb hby d3_55) (by decide) (by decide) ⟨rfl, N4, by rw [e4]; exact K, by rw [e4]; exact ((E0.wr W2).wr W3).wr W4, by rw [e4]; exact F2c, by rw [e4]; exact F3c⟩
theorem ef_rm_ref (m : MethodId) (x0 : Int64) (x1 : Int64) (x2 : Int32) : entryFrame m #[(.long x0), (.long x1), (.int x2)] 5 = mkF m 0 #[.val (.long x0), .second, .val (.long x1), .second, .val (.int x2)] [] := by first | (simp [entryFrame, mkF, argsToLocals, Value.category]; done) | rfl
set_option maxRecDepth 65536 in
set_option maxHeartbeats 40000000 in
theorem rm_ref (l : Launch) (Z : State) (a0 : Array Value) (hw : ∀ d ∈ tables_1, d.before a0 Z = true) (ws : List Jvm.Cond) (p0 p1 : Int64) (p2 : Int32) (h0 : Heap) (n0 : Nat) (Z0 : n0 ≤ h0.size)  :
    own_Ctr l Z (⟨"com/example/tombsweep/tombsweep/RetriesWaitMsPinLaw", "refDelay", "(JJI)J"⟩ : MethodName) method_3_code 5 (some .long) ws ({ frames := 1, cells := 0, slots := 0, locals := 15 } : Room) #[(.long p0), (.long p1), (.int p2)] h0 (fun v h L => v = some (.long (own_ref p0 p1 p2)) ∧ Fr n0 L ∧ h = h0) := by
  refine own_enter (plainFor_of_name pn_d9) ?_
  intro p e s m below meth c s₁ Bd hZ hml X0 e0
  have hx := Bd.exec
  have hby := Bd.bytes
  have hown : s.vm.findClass "com/example/tombsweep/tombsweep/RetriesWaitMsPinLaw" = some m.cls := findClass_of_methodNamed Bd.named
  have hnm := (name_of_methodNamed Bd.named Bd.method).1
  have N0 := Fr.nil n0
  refine own_go (t' := s₁.setTop (mkF m 0 #[.val (.long p0), .second, .val (.long p1), .second, .val (.int p2)] [])) (fun _ k_ => castTop (ef_rm_ref m p0 p1 p2) k_) ?_
  refine own_go (t' := s₁.setTop (mkF m 2 #[.val (.long p0), .second, .val (.long p1), .second, .val (.int p2)] [(.int p2)])) (fun _ k_ => XS.iload X0.here hx rfl (Jvm.hb hby d9_0) rfl k_) ?_
  refine own_go (t' := s₁.setTop (mkF m 4 #[.val (.long p0), .second, .val (.long p1), .second, .val (.int p2)] [(.int (63 : Int32)), (.int p2)])) (fun _ k_ => XS.bipush X0.here hx rfl (Jvm.hb hby d9_2) k_) ?_
  by_cases h63 : p2 < (63 : Int32)
  ·
    refine own_go (t' := s₁.setTop (mkF m 9 #[.val (.long p0), .second, .val (.long p1), .second, .val (.int p2)] [])) (fun _ k_ => XS.icmpYes X0.here hx rfl (pc0 := 4) (pc' := 9) rfl (Jvm.hb hby d9_4) rfl (tlt h63).1 (by decide) (by decide) k_) ?_
    refine own_go (t' := s₁.setTop (mkF m 10 #[.val (.long p0), .second, .val (.long p1), .second, .val (.int p2)] [(.long p0)])) (fun _ k_ => XS.lloadN X0.here hx rfl (Jvm.hb hby d9_9) rfl k_) ?_
    refine own_go (t' := s₁.setTop (mkF m 13 #[.val (.long p0), .second, .val (.long p1), .second, .val (.int p2)] [(.long (9223372036854775807 : Int64)), (.long p0)])) (fun _ k_ => X0.ldc2J (own := "com/example/tombsweep/tombsweep/RetriesWaitMsPinLaw") (index := 9) (v := (9223372036854775807 : Int64)) hx hown (mvT hZ (hw _ (List.mem_of_getElem? (i := 0) rfl))) rfl (Jvm.hb hby d9_10) k_) ?_
    refine own_go (t' := s₁.setTop (mkF m 15 #[.val (.long p0), .second, .val (.long p1), .second, .val (.int p2)] [(.int p2), (.long (9223372036854775807 : Int64)), (.long p0)])) (fun _ k_ => XS.iload X0.here hx rfl (Jvm.hb hby d9_13) rfl k_) ?_
    refine own_go (t' := s₁.setTop (mkF m 16 #[.val (.long p0), .second, .val (.long p1), .second, .val (.int p2)] [(.long ((9223372036854775807 : Int64) >>> (p2 &&& 0x3f).toInt64)), (.long p0)])) (fun _ k_ => XS.lshr X0.here hx rfl (Jvm.hb hby d9_15) rfl k_) ?_
    refine own_go (t' := s₁.setTop (mkF m 17 #[.val (.long p0), .second, .val (.long p1), .second, .val (.int p2)] [(.int (lcmpW p0 ((9223372036854775807 : Int64) >>> (p2 &&& 0x3f).toInt64)))])) (fun _ k_ => XS.lcmp X0.here hx rfl (Jvm.hb hby d9_16) rfl k_) ?_
    by_cases hs : ((9223372036854775807 : Int64) >>> (p2 &&& 0x3f).toInt64) < p0
    ·
      refine own_go (t' := s₁.setTop (mkF m 20 #[.val (.long p0), .second, .val (.long p1), .second, .val (.int p2)] [])) (fun _ k_ => XS.ifNo X0.here hx rfl (Jvm.hb hby d9_17) rfl ((if0 _ _).trans (tlt ((lw_gt _ _).mpr hs)).2.2.2) k_) ?_
      refine own_go (t' := s₁.setTop (mkF m 21 #[.val (.long p0), .second, .val (.long p1), .second, .val (.int p2)] [(.long p1)])) (fun _ k_ => XS.lloadN X0.here hx rfl (Jvm.hb hby d9_20) rfl k_) ?_
      exact own_retJ X0 hx Bd.returns (BodyLoose.notSynchronized Bd) (Jvm.hb hby d9_21) (by decide) (by decide) ⟨by unfold own_ref; rw [if_pos h63, if_pos hs], N0, e0⟩
    ·
      refine own_go (t' := s₁.setTop (mkF m 22 #[.val (.long p0), .second, .val (.long p1), .second, .val (.int p2)] [])) (fun _ k_ => XS.ifYes X0.here hx rfl (pc0 := 17) (pc' := 22) rfl (Jvm.hb hby d9_17) rfl ((if0 _ _).trans (flt (fun q => hs ((lw_gt _ _).mp q))).2.2.2) (by decide) (by decide) k_) ?_
      refine own_go (t' := s₁.setTop (mkF m 23 #[.val (.long p0), .second, .val (.long p1), .second, .val (.int p2)] [(.long p1)])) (fun _ k_ => XS.lloadN X0.here hx rfl (Jvm.hb hby d9_22) rfl k_) ?_
      refine own_go (t' := s₁.setTop (mkF m 24 #[.val (.long p0), .second, .val (.long p1), .second, .val (.int p2)] [(.long p0), (.long p1)])) (fun _ k_ => XS.lloadN X0.here hx rfl (Jvm.hb hby d9_23) rfl k_) ?_
      refine own_go (t' := s₁.setTop (mkF m 26 #[.val (.long p0), .second, .val (.long p1), .second, .val (.int p2)] [(.int p2), (.long p0), (.long p1)])) (fun _ k_ => XS.iload X0.here hx rfl (Jvm.hb hby d9_24) rfl k_) ?_
      refine own_go (t' := s₁.setTop (mkF m 27 #[.val (.long p0), .second, .val (.long p1), .second, .val (.int p2)] [(.long (p0 <<< (p2 &&& 0x3f).toInt64)), (.long p1)])) (fun _ k_ => XS.lshl X0.here hx rfl (Jvm.hb hby d9_26) rfl k_) ?_
      obtain ⟨T1, L1, v1, X1, hQ1, st1⟩ := own_static X0 hx hZ hown (hw _ (List.mem_of_getElem? (i := 46) rfl)) (hw _ (List.mem_of_getElem? (i := 39) rfl)) (hw _ (List.mem_of_getElem? (i := 3) rfl)) (hw _ (List.mem_of_getElem? (i := 40) rfl)) (by decide) (rm_minJ l Z a0 hw [] _ _ h0 n0 Z0) e0 (g := (mkF m 27 #[.val (.long p0), .second, .val (.long p1), .second, .val (.int p2)] [(.long (p0 <<< (p2 &&& 0x3f).toInt64)), (.long p1)])) rfl (by rw [hml]; rfl) (argsL := [(.long p1), (.long (p0 <<< (p2 &&& 0x3f).toInt64))]) (rest := []) (lenOf pd_d8 rfl) rfl (W := 0) (by show 2 * 0 + _ ≤ _; exact Nat.le_of_eq rfl) (Jvm.hb hby d9_27) (by decide) (by decide) (by decide) (by decide)
      obtain ⟨rfl, Nq1, e1⟩ := hQ1
      have N1 := Fr.app N0 Nq1
      refine own_go (t' := T1.setTop (mkF m 30 #[.val (.long p0), .second, .val (.long p1), .second, .val (.int p2)] [(.long (own_min p1 (p0 <<< (p2 &&& 0x3f).toInt64)))])) st1 ?_
      exact own_retJ X1 hx Bd.returns (BodyLoose.notSynchronized Bd) (Jvm.hb hby d9_30) (by decide) (by decide) ⟨by unfold own_ref; rw [if_pos h63, if_neg hs], N1, e1⟩
  ·
    refine own_go (t' := s₁.setTop (mkF m 7 #[.val (.long p0), .second, .val (.long p1), .second, .val (.int p2)] [])) (fun _ k_ => XS.icmpNo X0.here hx rfl (Jvm.hb hby d9_4) rfl (flt h63).1 k_) ?_
    refine own_go (t' := s₁.setTop (mkF m 8 #[.val (.long p0), .second, .val (.long p1), .second, .val (.int p2)] [(.long p1)])) (fun _ k_ => XS.lloadN X0.here hx rfl (Jvm.hb hby d9_7) rfl k_) ?_
    exact own_retJ X0 hx Bd.returns (BodyLoose.notSynchronized Bd) (Jvm.hb hby d9_8) (by decide) (by decide) ⟨by unfold own_ref; rw [if_neg h63], N0, e0⟩
theorem ef_rm_wait (m : MethodId) (x0 : Addr) (x1 : Int32) (x2 : UInt64) : entryFrame m #[(.ref x0), (.int x1), (.double x2)] 7 = mkF m 0 #[.val (.ref x0), .val (.int x1), .val (.double x2), .second, .unset, .unset, .unset] [] := by first | (simp [entryFrame, mkF, argsToLocals, Value.category]; done) | rfl
set_option maxRecDepth 65536 in
set_option maxHeartbeats 40000000 in
theorem rm_wait (l : Launch) (Z : State) (a0 : Array Value) (hw : ∀ d ∈ tables_1, d.before a0 Z = true) (ws : List Jvm.Cond) (a1 : Addr) (p1 : Int32) (p2 : UInt64) (p3 p4 : Int64) (h0 : Heap) (n0 : Nat) (Z0 : n0 ≤ h0.size) (F2 : Fld Z h0 a1 "com/example/tombsweep/tombsweep/Retries" "baseMs" "J" (.long p3)) (F3 : Fld Z h0 a1 "com/example/tombsweep/tombsweep/Retries" "maxMs" "J" (.long p4)) (hb : 1 ≤ p3.toInt) (hd : 0 ≤ (p1 - (1 : Int32)).toInt) (n1 : Jvm.Free.Fl.NoNaN64 (FP.ddiv (FP.l2d (own_ref p3 p4 (p1 - (1 : Int32)))) (4616189618054758400 : UInt64))) (n2 : Jvm.Free.Fl.NoNaN64 (FP.dmul (FP.ddiv (FP.l2d (own_ref p3 p4 (p1 - (1 : Int32)))) (4616189618054758400 : UInt64)) p2)) :
    own_Ctr l Z (⟨"com/example/tombsweep/tombsweep/Retries", "waitMs", "(ID)J"⟩ : MethodName) prog_5_method_5_code 7 (some .long) ws ({ frames := 2, cells := 0, slots := 0, locals := 40 } : Room) #[(.ref a1), (.int p1), (.double p2)] h0 (fun v h L => v = some (.long ((own_ref p3 p4 (p1 - (1 : Int32))) + (FP.d2l (FP.dmul (FP.ddiv (FP.l2d (own_ref p3 p4 (p1 - (1 : Int32)))) (4616189618054758400 : UInt64)) p2)))) ∧ Fr n0 L ∧ h = h0) := by
  refine own_enter (plainFor_of_name pn_d5) ?_
  intro p e s m below meth c s₁ Bd hZ hml X0 e0
  have hx := Bd.exec
  have hby := Bd.bytes
  have hown : s.vm.findClass "com/example/tombsweep/tombsweep/Retries" = some m.cls := findClass_of_methodNamed Bd.named
  have hnm := (name_of_methodNamed Bd.named Bd.method).1
  have N0 := Fr.nil n0
  refine own_go (t' := s₁.setTop (mkF m 0 #[.val (.ref a1), .val (.int p1), .val (.double p2), .second, .unset, .unset, .unset] [])) (fun _ k_ => castTop (ef_rm_wait m a1 p1 p2) k_) ?_
  refine own_go (t' := s₁.setTop (mkF m 1 #[.val (.ref a1), .val (.int p1), .val (.double p2), .second, .unset, .unset, .unset] [(.int p1)])) (fun _ k_ => XS.iloadN X0.here hx rfl (Jvm.hb hby d5_0) rfl k_) ?_
  refine own_go (t' := s₁.setTop (mkF m 2 #[.val (.ref a1), .val (.int p1), .val (.double p2), .second, .unset, .unset, .unset] [(.int (1 : Int32)), (.int p1)])) (fun _ k_ => XS.iconst X0.here hx rfl (Jvm.hb hby d5_1) k_) ?_
  refine own_go (t' := s₁.setTop (mkF m 3 #[.val (.ref a1), .val (.int p1), .val (.double p2), .second, .unset, .unset, .unset] [(.int (p1 - (1 : Int32)))])) (fun _ k_ => XS.isub X0.here hx rfl (Jvm.hb hby d5_2) rfl k_) ?_
  refine own_go (t' := s₁.setTop (mkF m 5 #[.val (.ref a1), .val (.int p1), .val (.double p2), .second, .val (.int (p1 - (1 : Int32))), .unset, .unset] [])) (fun _ k_ => XS.istore X0.here hx rfl (Jvm.hb hby d5_3) rfl (l' := #[.val (.ref a1), .val (.int p1), .val (.double p2), .second, .val (.int (p1 - (1 : Int32))), .unset, .unset]) rfl k_) ?_
  have J38 : ∀ (Tj1 : State) (lj1 : List Loc) (D : Int64), Stand p l e ({ frames := 2, cells := 0, slots := 0, locals := 40 } : Room) s m #[(.ref a1), (.int p1), (.double p2)] below meth c Tj1 lj1 0 0 → Tj1.heap = h0 → Fr n0 lj1 → (D = (own_ref p3 p4 (p1 - (1 : Int32)))) → own_Ends p.tables e below (own_F s (fun v h L => v = some (.long ((own_ref p3 p4 (p1 - (1 : Int32))) + (FP.d2l (FP.dmul (FP.ddiv (FP.l2d (own_ref p3 p4 (p1 - (1 : Int32)))) (4616189618054758400 : UInt64)) p2)))) ∧ Fr n0 L ∧ h = h0) ({ frames := 2, cells := 0, slots := 0, locals := 40 } : Room).cells ({ frames := 2, cells := 0, slots := 0, locals := 40 } : Room).slots) (Tj1.setTop (mkF m 38 #[.val (.ref a1), .val (.int p1), .val (.double p2), .second, .val (.int (p1 - (1 : Int32))), .unset, .unset] [(.long D)])) := by
    intro Tj1 lj1 D Xj1 ej1 Nj1 hD 
    subst hD
    refine own_go (t' := Tj1.setTop (mkF m 40 #[.val (.ref a1), .val (.int p1), .val (.double p2), .second, .val (.int (p1 - (1 : Int32))), .val (.long (own_ref p3 p4 (p1 - (1 : Int32)))), .second] [])) (fun _ k_ => XS.lstore Xj1.here hx rfl (Jvm.hb hby d5_38) rfl (l' := #[.val (.ref a1), .val (.int p1), .val (.double p2), .second, .val (.int (p1 - (1 : Int32))), .val (.long (own_ref p3 p4 (p1 - (1 : Int32)))), .second]) rfl k_) ?_
    refine own_go (t' := Tj1.setTop (mkF m 42 #[.val (.ref a1), .val (.int p1), .val (.double p2), .second, .val (.int (p1 - (1 : Int32))), .val (.long (own_ref p3 p4 (p1 - (1 : Int32)))), .second] [(.long (own_ref p3 p4 (p1 - (1 : Int32))))])) (fun _ k_ => XS.lload Xj1.here hx rfl (Jvm.hb hby d5_40) rfl k_) ?_
    refine own_go (t' := Tj1.setTop (mkF m 44 #[.val (.ref a1), .val (.int p1), .val (.double p2), .second, .val (.int (p1 - (1 : Int32))), .val (.long (own_ref p3 p4 (p1 - (1 : Int32)))), .second] [(.long (own_ref p3 p4 (p1 - (1 : Int32)))), (.long (own_ref p3 p4 (p1 - (1 : Int32))))])) (fun _ k_ => XS.lload Xj1.here hx rfl (Jvm.hb hby d5_42) rfl k_) ?_
    refine own_go (t' := Tj1.setTop (mkF m 45 #[.val (.ref a1), .val (.int p1), .val (.double p2), .second, .val (.int (p1 - (1 : Int32))), .val (.long (own_ref p3 p4 (p1 - (1 : Int32)))), .second] [(.double (FP.l2d (own_ref p3 p4 (p1 - (1 : Int32))))), (.long (own_ref p3 p4 (p1 - (1 : Int32))))])) (fun _ k_ => XS.l2dS Xj1.here hx rfl (Jvm.hb hby d5_44) rfl rfl k_) ?_
    refine own_go (t' := Tj1.setTop (mkF m 48 #[.val (.ref a1), .val (.int p1), .val (.double p2), .second, .val (.int (p1 - (1 : Int32))), .val (.long (own_ref p3 p4 (p1 - (1 : Int32)))), .second] [(.double (4616189618054758400 : UInt64)), (.double (FP.l2d (own_ref p3 p4 (p1 - (1 : Int32))))), (.long (own_ref p3 p4 (p1 - (1 : Int32))))])) (Xj1.ldc2DoubleC hx (own := "com/example/tombsweep/tombsweep/Retries") (index := 41) (b := (4616189618054758400 : UInt64)) hown (mvT hZ (hw _ (List.mem_of_getElem? (i := 41) rfl))) (g := (mkF m 45 #[.val (.ref a1), .val (.int p1), .val (.double p2), .second, .val (.int (p1 - (1 : Int32))), .val (.long (own_ref p3 p4 (p1 - (1 : Int32)))), .second] [(.double (FP.l2d (own_ref p3 p4 (p1 - (1 : Int32))))), (.long (own_ref p3 p4 (p1 - (1 : Int32))))])) rfl (Jvm.hb hby d5_45)) ?_
    refine own_go (t' := Tj1.setTop (mkF m 49 #[.val (.ref a1), .val (.int p1), .val (.double p2), .second, .val (.int (p1 - (1 : Int32))), .val (.long (own_ref p3 p4 (p1 - (1 : Int32)))), .second] [(.double (FP.ddiv (FP.l2d (own_ref p3 p4 (p1 - (1 : Int32)))) (4616189618054758400 : UInt64))), (.long (own_ref p3 p4 (p1 - (1 : Int32))))])) (fun _ k_ => XS.ddivS Xj1.here hx rfl (Jvm.hb hby d5_48) rfl n1 rfl k_) ?_
    refine own_go (t' := Tj1.setTop (mkF m 50 #[.val (.ref a1), .val (.int p1), .val (.double p2), .second, .val (.int (p1 - (1 : Int32))), .val (.long (own_ref p3 p4 (p1 - (1 : Int32)))), .second] [(.double p2), (.double (FP.ddiv (FP.l2d (own_ref p3 p4 (p1 - (1 : Int32)))) (4616189618054758400 : UInt64))), (.long (own_ref p3 p4 (p1 - (1 : Int32))))])) (fun _ k_ => XS.dloadN Xj1.here hx rfl (Jvm.hb hby d5_49) rfl k_) ?_
    refine own_go (t' := Tj1.setTop (mkF m 51 #[.val (.ref a1), .val (.int p1), .val (.double p2), .second, .val (.int (p1 - (1 : Int32))), .val (.long (own_ref p3 p4 (p1 - (1 : Int32)))), .second] [(.double (FP.dmul (FP.ddiv (FP.l2d (own_ref p3 p4 (p1 - (1 : Int32)))) (4616189618054758400 : UInt64)) p2)), (.long (own_ref p3 p4 (p1 - (1 : Int32))))])) (fun _ k_ => XS.dmulS Xj1.here hx rfl (Jvm.hb hby d5_50) rfl n2 rfl k_) ?_
    refine own_go (t' := Tj1.setTop (mkF m 52 #[.val (.ref a1), .val (.int p1), .val (.double p2), .second, .val (.int (p1 - (1 : Int32))), .val (.long (own_ref p3 p4 (p1 - (1 : Int32)))), .second] [(.long (FP.d2l (FP.dmul (FP.ddiv (FP.l2d (own_ref p3 p4 (p1 - (1 : Int32)))) (4616189618054758400 : UInt64)) p2))), (.long (own_ref p3 p4 (p1 - (1 : Int32))))])) (fun _ k_ => XS.d2lS Xj1.here hx rfl (Jvm.hb hby d5_51) rfl rfl k_) ?_
    refine own_go (t' := Tj1.setTop (mkF m 53 #[.val (.ref a1), .val (.int p1), .val (.double p2), .second, .val (.int (p1 - (1 : Int32))), .val (.long (own_ref p3 p4 (p1 - (1 : Int32)))), .second] [(.long ((own_ref p3 p4 (p1 - (1 : Int32))) + (FP.d2l (FP.dmul (FP.ddiv (FP.l2d (own_ref p3 p4 (p1 - (1 : Int32)))) (4616189618054758400 : UInt64)) p2))))])) (fun _ k_ => XS.ladd Xj1.here hx rfl (Jvm.hb hby d5_52) rfl k_) ?_
    exact own_retJ Xj1 hx Bd.returns (BodyLoose.notSynchronized Bd) (Jvm.hb hby d5_53) (by decide) (by decide) ⟨rfl, Nj1, ej1⟩
  refine own_go (t' := s₁.setTop (mkF m 7 #[.val (.ref a1), .val (.int p1), .val (.double p2), .second, .val (.int (p1 - (1 : Int32))), .unset, .unset] [(.int (p1 - (1 : Int32)))])) (fun _ k_ => XS.iload X0.here hx rfl (Jvm.hb hby d5_5) rfl k_) ?_
  refine own_go (t' := s₁.setTop (mkF m 8 #[.val (.ref a1), .val (.int p1), .val (.double p2), .second, .val (.int (p1 - (1 : Int32))), .unset, .unset] [(.ref a1), (.int (p1 - (1 : Int32)))])) (fun _ k_ => XS.aloadN X0.here hx rfl (Jvm.hb hby d5_7) rfl rfl k_) ?_
  obtain ⟨T2, X2, e2, st2⟩ := getF X0 hx hZ hown (host := "") (Or.inl (hw _ (List.mem_of_getElem? (i := 20) rfl))) Via.refl e0 F2 (g := (mkF m 8 #[.val (.ref a1), .val (.int p1), .val (.double p2), .second, .val (.int (p1 - (1 : Int32))), .unset, .unset] [(.ref a1), (.int (p1 - (1 : Int32)))])) rfl rfl (Jvm.hb hby d5_8)
  refine own_go (t' := T2.setTop (mkF m 11 #[.val (.ref a1), .val (.int p1), .val (.double p2), .second, .val (.int (p1 - (1 : Int32))), .unset, .unset] [(.long p3), (.int (p1 - (1 : Int32)))])) st2 ?_
  obtain ⟨T3, L3, v3, X3, hQ3, st3⟩ := own_static X2 hx hZ hown (hw _ (List.mem_of_getElem? (i := 29) rfl)) (hw _ (List.mem_of_getElem? (i := 30) rfl)) (hw _ (List.mem_of_getElem? (i := 31) rfl)) (hw _ (List.mem_of_getElem? (i := 32) rfl)) (by decide) (rm_nlzL l Z a0 hw [] p3 h0 n0 Z0 hb) e2 (g := (mkF m 11 #[.val (.ref a1), .val (.int p1), .val (.double p2), .second, .val (.int (p1 - (1 : Int32))), .unset, .unset] [(.long p3), (.int (p1 - (1 : Int32)))])) rfl (by rw [hml]; rfl) (argsL := [(.long p3)]) (rest := [(.int (p1 - (1 : Int32)))]) (lenOf pd_d6 rfl) rfl (W := 1) (by show 2 * 0 + _ ≤ _; exact Nat.le_of_eq rfl) (Jvm.hb hby d5_11) (by decide) (by decide) (by decide) (by decide)
  obtain ⟨r1, rfl, hr1, Nq3, e3⟩ := hQ3
  have N3 := Fr.app N0 Nq3
  refine own_go (t' := T3.setTop (mkF m 14 #[.val (.ref a1), .val (.int p1), .val (.double p2), .second, .val (.int (p1 - (1 : Int32))), .unset, .unset] [(.int r1), (.int (p1 - (1 : Int32)))])) st3 ?_
  have hdl := own_delay (mx := p4) hb hd hr1
  by_cases hc : (p1 - (1 : Int32)) < r1
  ·
    rw [if_pos hc] at hdl
    refine own_go (t' := T3.setTop (mkF m 24 #[.val (.ref a1), .val (.int p1), .val (.double p2), .second, .val (.int (p1 - (1 : Int32))), .unset, .unset] [])) (fun _ k_ => XS.icmpYes X3.here hx rfl (pc0 := 14) (pc' := 24) rfl (Jvm.hb hby d5_14) rfl (tlt hc).1 (by decide) (by decide) k_) ?_
    refine own_go (t' := T3.setTop (mkF m 25 #[.val (.ref a1), .val (.int p1), .val (.double p2), .second, .val (.int (p1 - (1 : Int32))), .unset, .unset] [(.ref a1)])) (fun _ k_ => XS.aloadN X3.here hx rfl (Jvm.hb hby d5_24) rfl rfl k_) ?_
    obtain ⟨T4, X4, e4, st4⟩ := getF X3 hx hZ hown (host := "") (Or.inl (hw _ (List.mem_of_getElem? (i := 22) rfl))) Via.refl e3 F3 (g := (mkF m 25 #[.val (.ref a1), .val (.int p1), .val (.double p2), .second, .val (.int (p1 - (1 : Int32))), .unset, .unset] [(.ref a1)])) rfl rfl (Jvm.hb hby d5_25)
    refine own_go (t' := T4.setTop (mkF m 28 #[.val (.ref a1), .val (.int p1), .val (.double p2), .second, .val (.int (p1 - (1 : Int32))), .unset, .unset] [(.long p4)])) st4 ?_
    refine own_go (t' := T4.setTop (mkF m 29 #[.val (.ref a1), .val (.int p1), .val (.double p2), .second, .val (.int (p1 - (1 : Int32))), .unset, .unset] [(.ref a1), (.long p4)])) (fun _ k_ => XS.aloadN X4.here hx rfl (Jvm.hb hby d5_28) rfl rfl k_) ?_
    obtain ⟨T5, X5, e5, st5⟩ := getF X4 hx hZ hown (host := "") (Or.inl (hw _ (List.mem_of_getElem? (i := 20) rfl))) Via.refl e4 F2 (g := (mkF m 29 #[.val (.ref a1), .val (.int p1), .val (.double p2), .second, .val (.int (p1 - (1 : Int32))), .unset, .unset] [(.ref a1), (.long p4)])) rfl rfl (Jvm.hb hby d5_29)
    refine own_go (t' := T5.setTop (mkF m 32 #[.val (.ref a1), .val (.int p1), .val (.double p2), .second, .val (.int (p1 - (1 : Int32))), .unset, .unset] [(.long p3), (.long p4)])) st5 ?_
    refine own_go (t' := T5.setTop (mkF m 34 #[.val (.ref a1), .val (.int p1), .val (.double p2), .second, .val (.int (p1 - (1 : Int32))), .unset, .unset] [(.int (p1 - (1 : Int32))), (.long p3), (.long p4)])) (fun _ k_ => XS.iload X5.here hx rfl (Jvm.hb hby d5_32) rfl k_) ?_
    refine own_go (t' := T5.setTop (mkF m 35 #[.val (.ref a1), .val (.int p1), .val (.double p2), .second, .val (.int (p1 - (1 : Int32))), .unset, .unset] [(.long (p3 <<< ((p1 - (1 : Int32)) &&& 0x3f).toInt64)), (.long p4)])) (fun _ k_ => XS.lshl X5.here hx rfl (Jvm.hb hby d5_34) rfl k_) ?_
    obtain ⟨T6, L6, v6, X6, hQ6, st6⟩ := own_static X5 hx hZ hown (hw _ (List.mem_of_getElem? (i := 38) rfl)) (hw _ (List.mem_of_getElem? (i := 39) rfl)) (hw _ (List.mem_of_getElem? (i := 3) rfl)) (hw _ (List.mem_of_getElem? (i := 40) rfl)) (by decide) (rm_minJ l Z a0 hw [] _ _ h0 n0 Z0) e5 (g := (mkF m 35 #[.val (.ref a1), .val (.int p1), .val (.double p2), .second, .val (.int (p1 - (1 : Int32))), .unset, .unset] [(.long (p3 <<< ((p1 - (1 : Int32)) &&& 0x3f).toInt64)), (.long p4)])) rfl (by rw [hml]; rfl) (argsL := [(.long p4), (.long (p3 <<< ((p1 - (1 : Int32)) &&& 0x3f).toInt64))]) (rest := []) (lenOf pd_d8 rfl) rfl (W := 0) (by show 2 * 0 + _ ≤ _; exact Nat.le_of_eq rfl) (Jvm.hb hby d5_35) (by decide) (by decide) (by decide) (by decide)
    obtain ⟨rfl, Nq6, e6⟩ := hQ6
    have N6 := Fr.app N3 Nq6
    refine own_go (t' := T6.setTop (mkF m 38 #[.val (.ref a1), .val (.int p1), .val (.double p2), .second, .val (.int (p1 - (1 : Int32))), .unset, .unset] [(.long (own_min p4 (p3 <<< ((p1 - (1 : Int32)) &&& 0x3f).toInt64)))])) st6 ?_
    exact J38 T6 _ _ X6 e6 N6 hdl
  ·
    rw [if_neg hc] at hdl
    refine own_go (t' := T3.setTop (mkF m 17 #[.val (.ref a1), .val (.int p1), .val (.double p2), .second, .val (.int (p1 - (1 : Int32))), .unset, .unset] [])) (fun _ k_ => XS.icmpNo X3.here hx rfl (Jvm.hb hby d5_14) rfl (flt hc).1 k_) ?_
    refine own_go (t' := T3.setTop (mkF m 18 #[.val (.ref a1), .val (.int p1), .val (.double p2), .second, .val (.int (p1 - (1 : Int32))), .unset, .unset] [(.ref a1)])) (fun _ k_ => XS.aloadN X3.here hx rfl (Jvm.hb hby d5_17) rfl rfl k_) ?_
    obtain ⟨T7, X7, e7, st7⟩ := getF X3 hx hZ hown (host := "") (Or.inl (hw _ (List.mem_of_getElem? (i := 22) rfl))) Via.refl e3 F3 (g := (mkF m 18 #[.val (.ref a1), .val (.int p1), .val (.double p2), .second, .val (.int (p1 - (1 : Int32))), .unset, .unset] [(.ref a1)])) rfl rfl (Jvm.hb hby d5_18)
    refine own_go (t' := T7.setTop (mkF m 21 #[.val (.ref a1), .val (.int p1), .val (.double p2), .second, .val (.int (p1 - (1 : Int32))), .unset, .unset] [(.long p4)])) st7 ?_
    refine own_go (t' := T7.setTop (mkF m 38 #[.val (.ref a1), .val (.int p1), .val (.double p2), .second, .val (.int (p1 - (1 : Int32))), .unset, .unset] [(.long p4)])) (fun _ k_ => XS.goto X7.here hx rfl (pc0 := 21) (pc' := 38) rfl (Jvm.hb hby d5_21) (by decide) (by decide) k_) ?_
    exact J38 T7 _ _ X7 e7 N3 hdl
theorem own_back (D X : Int64) : D + X - D = X := by grind
theorem own_pred {t : Int32} (h : 1 ≤ t.toInt) : 0 ≤ (t - (1 : Int32)).toInt := by
  have e := c_isub t 1
  rw [show (1 : Int32).toInt = 1 by decide] at e
  have r := rng32 (t - (1 : Int32))
  have r2 := rng32 t
  omega
theorem ef_rm_law (m : MethodId) (x0 : Int64) (x1 : Int64) (x2 : Int32) (x3 : Int32) : entryFrame m #[(.long x0), (.long x1), (.int x2), (.int x3)] maxLocals = mkF m 0 #[.val (.long x0), .second, .val (.long x1), .second, .val (.int x2), .val (.int x3), .unset, .unset, .unset, .unset, .unset, .unset, .unset, .unset, .unset, .unset, .unset, .unset, .unset, .unset, .unset, .unset, .unset, .unset] [] := by first | (simp [entryFrame, mkF, argsToLocals, Value.category, maxLocals]; done) | rfl
set_option maxRecDepth 65536 in
set_option maxHeartbeats 40000000 in
theorem rm_law (l : Launch) (Z : State) (a0 : Array Value) (hw : ∀ d ∈ tables_1, d.before a0 Z = true) (ws : List Jvm.Cond) (p0 p1 : Int64) (p2 p3 : Int32) (h0 : Heap) (n0 : Nat) (Z0 : n0 ≤ h0.size)  :
    own_Ctr l Z x code maxLocals ret ws room_1 #[(.long p0), (.long p1), (.int p2), (.int p3)] h0 (fun v h L => v = some (.int 1) ∧ Fr n0 L) := by
  refine own_enter (plainFor_of_name pn_at) ?_
  intro p e s m below meth c s₁ Bd hZ hml X0 e0
  have hx := Bd.exec
  have hby := Bd.bytes
  have hown : s.vm.findClass "com/example/tombsweep/tombsweep/RetriesWaitMsPinLaw" = some m.cls := findClass_of_methodNamed Bd.named
  have hnm := (name_of_methodNamed Bd.named Bd.method).1
  have N0 := Fr.nil n0
  refine own_go (t' := s₁.setTop (mkF m 0 #[.val (.long p0), .second, .val (.long p1), .second, .val (.int p2), .val (.int p3), .unset, .unset, .unset, .unset, .unset, .unset, .unset, .unset, .unset, .unset, .unset, .unset, .unset, .unset, .unset, .unset, .unset, .unset] [])) (fun _ k_ => castTop (ef_rm_law m p0 p1 p2 p3) k_) ?_
  refine own_go (t' := s₁.setTop (mkF m 1 #[.val (.long p0), .second, .val (.long p1), .second, .val (.int p2), .val (.int p3), .unset, .unset, .unset, .unset, .unset, .unset, .unset, .unset, .unset, .unset, .unset, .unset, .unset, .unset, .unset, .unset, .unset, .unset] [(.long (1 : Int64))])) (fun _ k_ => XS.lconst X0.here hx rfl (Jvm.hb hby at_0) k_) ?_
  refine own_go (t' := s₁.setTop (mkF m 2 #[.val (.long p0), .second, .val (.long p1), .second, .val (.int p2), .val (.int p3), .unset, .unset, .unset, .unset, .unset, .unset, .unset, .unset, .unset, .unset, .unset, .unset, .unset, .unset, .unset, .unset, .unset, .unset] [(.long p0), (.long (1 : Int64))])) (fun _ k_ => XS.lloadN X0.here hx rfl (Jvm.hb hby at_1) rfl k_) ?_
  refine own_go (t' := s₁.setTop (mkF m 5 #[.val (.long p0), .second, .val (.long p1), .second, .val (.int p2), .val (.int p3), .unset, .unset, .unset, .unset, .unset, .unset, .unset, .unset, .unset, .unset, .unset, .unset, .unset, .unset, .unset, .unset, .unset, .unset] [(.long (9223372036854775807 : Int64)), (.long p0), (.long (1 : Int64))])) (fun _ k_ => X0.ldc2J (own := "com/example/tombsweep/tombsweep/RetriesWaitMsPinLaw") (index := 9) (v := (9223372036854775807 : Int64)) hx hown (mvT hZ (hw _ (List.mem_of_getElem? (i := 0) rfl))) rfl (Jvm.hb hby at_2) k_) ?_
  refine own_go (t' := s₁.setTop (mkF m 6 #[.val (.long p0), .second, .val (.long p1), .second, .val (.int p2), .val (.int p3), .unset, .unset, .unset, .unset, .unset, .unset, .unset, .unset, .unset, .unset, .unset, .unset, .unset, .unset, .unset, .unset, .unset, .unset] [(.long (p0 &&& (9223372036854775807 : Int64))), (.long (1 : Int64))])) (fun _ k_ => XS.land X0.here hx rfl (Jvm.hb hby at_5) rfl k_) ?_
  obtain ⟨T1, L1, v1, X1, hQ1, st1⟩ := own_static X0 hx hZ hown (hw _ (List.mem_of_getElem? (i := 1) rfl)) (hw _ (List.mem_of_getElem? (i := 2) rfl)) (hw _ (List.mem_of_getElem? (i := 3) rfl)) (hw _ (List.mem_of_getElem? (i := 4) rfl)) (by decide) (rm_maxJ l Z a0 hw [] _ _ h0 n0 Z0) e0 (g := (mkF m 6 #[.val (.long p0), .second, .val (.long p1), .second, .val (.int p2), .val (.int p3), .unset, .unset, .unset, .unset, .unset, .unset, .unset, .unset, .unset, .unset, .unset, .unset, .unset, .unset, .unset, .unset, .unset, .unset] [(.long (p0 &&& (9223372036854775807 : Int64))), (.long (1 : Int64))])) rfl (by rw [hml]; rfl) (argsL := [(.long (1 : Int64)), (.long (p0 &&& (9223372036854775807 : Int64)))]) (rest := []) (lenOf pd_d1 rfl) rfl (W := 0) (by show 2 * 0 + _ ≤ _; exact Nat.le_of_eq rfl) (Jvm.hb hby at_6) (by decide) (by decide) (by decide) (by decide)
  obtain ⟨rfl, Nq1, e1⟩ := hQ1
  have N1 := Fr.app N0 Nq1
  refine own_go (t' := T1.setTop (mkF m 9 #[.val (.long p0), .second, .val (.long p1), .second, .val (.int p2), .val (.int p3), .unset, .unset, .unset, .unset, .unset, .unset, .unset, .unset, .unset, .unset, .unset, .unset, .unset, .unset, .unset, .unset, .unset, .unset] [(.long (if (1 : Int64) < (p0 &&& (9223372036854775807 : Int64)) then (p0 &&& (9223372036854775807 : Int64)) else (1 : Int64)))])) st1 ?_
  have hB := own_atleast p0
  generalize (if (1 : Int64) < (p0 &&& (9223372036854775807 : Int64)) then (p0 &&& (9223372036854775807 : Int64)) else (1 : Int64)) = B at hB ⊢
  refine own_go (t' := T1.setTop (mkF m 11 #[.val (.long p0), .second, .val (.long p1), .second, .val (.int p2), .val (.int p3), .val (.long B), .second, .unset, .unset, .unset, .unset, .unset, .unset, .unset, .unset, .unset, .unset, .unset, .unset, .unset, .unset, .unset, .unset] [])) (fun _ k_ => XS.lstore X1.here hx rfl (Jvm.hb hby at_9) rfl (l' := #[.val (.long p0), .second, .val (.long p1), .second, .val (.int p2), .val (.int p3), .val (.long B), .second, .unset, .unset, .unset, .unset, .unset, .unset, .unset, .unset, .unset, .unset, .unset, .unset, .unset, .unset, .unset, .unset]) rfl k_) ?_
  refine own_go (t' := T1.setTop (mkF m 12 #[.val (.long p0), .second, .val (.long p1), .second, .val (.int p2), .val (.int p3), .val (.long B), .second, .unset, .unset, .unset, .unset, .unset, .unset, .unset, .unset, .unset, .unset, .unset, .unset, .unset, .unset, .unset, .unset] [(.long (1 : Int64))])) (fun _ k_ => XS.lconst X1.here hx rfl (Jvm.hb hby at_11) k_) ?_
  refine own_go (t' := T1.setTop (mkF m 13 #[.val (.long p0), .second, .val (.long p1), .second, .val (.int p2), .val (.int p3), .val (.long B), .second, .unset, .unset, .unset, .unset, .unset, .unset, .unset, .unset, .unset, .unset, .unset, .unset, .unset, .unset, .unset, .unset] [(.long p1), (.long (1 : Int64))])) (fun _ k_ => XS.lloadN X1.here hx rfl (Jvm.hb hby at_12) rfl k_) ?_
  refine own_go (t' := T1.setTop (mkF m 16 #[.val (.long p0), .second, .val (.long p1), .second, .val (.int p2), .val (.int p3), .val (.long B), .second, .unset, .unset, .unset, .unset, .unset, .unset, .unset, .unset, .unset, .unset, .unset, .unset, .unset, .unset, .unset, .unset] [(.long (9223372036854775807 : Int64)), (.long p1), (.long (1 : Int64))])) (fun _ k_ => X1.ldc2J (own := "com/example/tombsweep/tombsweep/RetriesWaitMsPinLaw") (index := 9) (v := (9223372036854775807 : Int64)) hx hown (mvT hZ (hw _ (List.mem_of_getElem? (i := 0) rfl))) rfl (Jvm.hb hby at_13) k_) ?_
  refine own_go (t' := T1.setTop (mkF m 17 #[.val (.long p0), .second, .val (.long p1), .second, .val (.int p2), .val (.int p3), .val (.long B), .second, .unset, .unset, .unset, .unset, .unset, .unset, .unset, .unset, .unset, .unset, .unset, .unset, .unset, .unset, .unset, .unset] [(.long (p1 &&& (9223372036854775807 : Int64))), (.long (1 : Int64))])) (fun _ k_ => XS.land X1.here hx rfl (Jvm.hb hby at_16) rfl k_) ?_
  obtain ⟨T2, L2, v2, X2, hQ2, st2⟩ := own_static X1 hx hZ hown (hw _ (List.mem_of_getElem? (i := 1) rfl)) (hw _ (List.mem_of_getElem? (i := 2) rfl)) (hw _ (List.mem_of_getElem? (i := 3) rfl)) (hw _ (List.mem_of_getElem? (i := 4) rfl)) (by decide) (rm_maxJ l Z a0 hw [] _ _ h0 n0 Z0) e1 (g := (mkF m 17 #[.val (.long p0), .second, .val (.long p1), .second, .val (.int p2), .val (.int p3), .val (.long B), .second, .unset, .unset, .unset, .unset, .unset, .unset, .unset, .unset, .unset, .unset, .unset, .unset, .unset, .unset, .unset, .unset] [(.long (p1 &&& (9223372036854775807 : Int64))), (.long (1 : Int64))])) rfl (by rw [hml]; rfl) (argsL := [(.long (1 : Int64)), (.long (p1 &&& (9223372036854775807 : Int64)))]) (rest := []) (lenOf pd_d1 rfl) rfl (W := 0) (by show 2 * 0 + _ ≤ _; exact Nat.le_of_eq rfl) (Jvm.hb hby at_17) (by decide) (by decide) (by decide) (by decide)
  obtain ⟨rfl, Nq2, e2⟩ := hQ2
  have N2 := Fr.app N1 Nq2
  refine own_go (t' := T2.setTop (mkF m 20 #[.val (.long p0), .second, .val (.long p1), .second, .val (.int p2), .val (.int p3), .val (.long B), .second, .unset, .unset, .unset, .unset, .unset, .unset, .unset, .unset, .unset, .unset, .unset, .unset, .unset, .unset, .unset, .unset] [(.long (if (1 : Int64) < (p1 &&& (9223372036854775807 : Int64)) then (p1 &&& (9223372036854775807 : Int64)) else (1 : Int64)))])) st2 ?_
  have hM := own_atleast p1
  generalize (if (1 : Int64) < (p1 &&& (9223372036854775807 : Int64)) then (p1 &&& (9223372036854775807 : Int64)) else (1 : Int64)) = M at hM ⊢
  refine own_go (t' := T2.setTop (mkF m 22 #[.val (.long p0), .second, .val (.long p1), .second, .val (.int p2), .val (.int p3), .val (.long B), .second, .val (.long M), .second, .unset, .unset, .unset, .unset, .unset, .unset, .unset, .unset, .unset, .unset, .unset, .unset, .unset, .unset] [])) (fun _ k_ => XS.lstore X2.here hx rfl (Jvm.hb hby at_20) rfl (l' := #[.val (.long p0), .second, .val (.long p1), .second, .val (.int p2), .val (.int p3), .val (.long B), .second, .val (.long M), .second, .unset, .unset, .unset, .unset, .unset, .unset, .unset, .unset, .unset, .unset, .unset, .unset, .unset, .unset]) rfl k_) ?_
  refine own_go (t' := T2.setTop (mkF m 23 #[.val (.long p0), .second, .val (.long p1), .second, .val (.int p2), .val (.int p3), .val (.long B), .second, .val (.long M), .second, .unset, .unset, .unset, .unset, .unset, .unset, .unset, .unset, .unset, .unset, .unset, .unset, .unset, .unset] [(.int (1 : Int32))])) (fun _ k_ => XS.iconst X2.here hx rfl (Jvm.hb hby at_22) k_) ?_
  refine own_go (t' := T2.setTop (mkF m 25 #[.val (.long p0), .second, .val (.long p1), .second, .val (.int p2), .val (.int p3), .val (.long B), .second, .val (.long M), .second, .unset, .unset, .unset, .unset, .unset, .unset, .unset, .unset, .unset, .unset, .unset, .unset, .unset, .unset] [(.int p2), (.int (1 : Int32))])) (fun _ k_ => XS.iload X2.here hx rfl (Jvm.hb hby at_23) rfl k_) ?_
  refine own_go (t' := T2.setTop (mkF m 27 #[.val (.long p0), .second, .val (.long p1), .second, .val (.int p2), .val (.int p3), .val (.long B), .second, .val (.long M), .second, .unset, .unset, .unset, .unset, .unset, .unset, .unset, .unset, .unset, .unset, .unset, .unset, .unset, .unset] [(.int (2147483647 : Int32)), (.int p2), (.int (1 : Int32))])) (fun _ k_ => X2.ldcI (own := "com/example/tombsweep/tombsweep/RetriesWaitMsPinLaw") (index := 17) (v := (2147483647 : Int32)) hx hown (mvT hZ (hw _ (List.mem_of_getElem? (i := 5) rfl))) rfl (Jvm.hb hby at_25) k_) ?_
  refine own_go (t' := T2.setTop (mkF m 28 #[.val (.long p0), .second, .val (.long p1), .second, .val (.int p2), .val (.int p3), .val (.long B), .second, .val (.long M), .second, .unset, .unset, .unset, .unset, .unset, .unset, .unset, .unset, .unset, .unset, .unset, .unset, .unset, .unset] [(.int (p2 &&& (2147483647 : Int32))), (.int (1 : Int32))])) (fun _ k_ => XS.iand X2.here hx rfl (Jvm.hb hby at_27) rfl k_) ?_
  obtain ⟨T3, L3, v3, X3, hQ3, st3⟩ := own_static X2 hx hZ hown (hw _ (List.mem_of_getElem? (i := 6) rfl)) (hw _ (List.mem_of_getElem? (i := 7) rfl)) (hw _ (List.mem_of_getElem? (i := 3) rfl)) (hw _ (List.mem_of_getElem? (i := 8) rfl)) (by decide) (rm_maxI l Z a0 hw [] _ _ h0 n0 Z0) e2 (g := (mkF m 28 #[.val (.long p0), .second, .val (.long p1), .second, .val (.int p2), .val (.int p3), .val (.long B), .second, .val (.long M), .second, .unset, .unset, .unset, .unset, .unset, .unset, .unset, .unset, .unset, .unset, .unset, .unset, .unset, .unset] [(.int (p2 &&& (2147483647 : Int32))), (.int (1 : Int32))])) rfl (by rw [hml]; rfl) (argsL := [(.int (1 : Int32)), (.int (p2 &&& (2147483647 : Int32)))]) (rest := []) (lenOf pd_d2 rfl) rfl (W := 0) (by show 2 * 0 + _ ≤ _; exact Nat.le_of_eq rfl) (Jvm.hb hby at_28) (by decide) (by decide) (by decide) (by decide)
  obtain ⟨rfl, Nq3, e3⟩ := hQ3
  have N3 := Fr.app N2 Nq3
  refine own_go (t' := T3.setTop (mkF m 31 #[.val (.long p0), .second, .val (.long p1), .second, .val (.int p2), .val (.int p3), .val (.long B), .second, .val (.long M), .second, .unset, .unset, .unset, .unset, .unset, .unset, .unset, .unset, .unset, .unset, .unset, .unset, .unset, .unset] [(.int (if (1 : Int32) < (p2 &&& (2147483647 : Int32)) then (p2 &&& (2147483647 : Int32)) else (1 : Int32)))])) st3 ?_
  have hU := own_atleastI p2
  generalize (if (1 : Int32) < (p2 &&& (2147483647 : Int32)) then (p2 &&& (2147483647 : Int32)) else (1 : Int32)) = U at hU ⊢
  have hd := own_pred hU
  refine own_go (t' := T3.setTop (mkF m 33 #[.val (.long p0), .second, .val (.long p1), .second, .val (.int p2), .val (.int p3), .val (.long B), .second, .val (.long M), .second, .val (.int U), .unset, .unset, .unset, .unset, .unset, .unset, .unset, .unset, .unset, .unset, .unset, .unset, .unset] [])) (fun _ k_ => XS.istore X3.here hx rfl (Jvm.hb hby at_31) rfl (l' := #[.val (.long p0), .second, .val (.long p1), .second, .val (.int p2), .val (.int p3), .val (.long B), .second, .val (.long M), .second, .val (.int U), .unset, .unset, .unset, .unset, .unset, .unset, .unset, .unset, .unset, .unset, .unset, .unset, .unset]) rfl k_) ?_
  refine own_go (t' := T3.setTop (mkF m 35 #[.val (.long p0), .second, .val (.long p1), .second, .val (.int p2), .val (.int p3), .val (.long B), .second, .val (.long M), .second, .val (.int U), .unset, .unset, .unset, .unset, .unset, .unset, .unset, .unset, .unset, .unset, .unset, .unset, .unset] [(.int p3)])) (fun _ k_ => XS.iload X3.here hx rfl (Jvm.hb hby at_33) rfl k_) ?_
  refine own_go (t' := T3.setTop (mkF m 36 #[.val (.long p0), .second, .val (.long p1), .second, .val (.int p2), .val (.int p3), .val (.long B), .second, .val (.long M), .second, .val (.int U), .unset, .unset, .unset, .unset, .unset, .unset, .unset, .unset, .unset, .unset, .unset, .unset, .unset] [(.int (3 : Int32)), (.int p3)])) (fun _ k_ => XS.iconst X3.here hx rfl (Jvm.hb hby at_35) k_) ?_
  refine own_go (t' := T3.setTop (mkF m 37 #[.val (.long p0), .second, .val (.long p1), .second, .val (.int p2), .val (.int p3), .val (.long B), .second, .val (.long M), .second, .val (.int U), .unset, .unset, .unset, .unset, .unset, .unset, .unset, .unset, .unset, .unset, .unset, .unset, .unset] [(.int (p3 &&& (3 : Int32)))])) (fun _ k_ => XS.iand X3.here hx rfl (Jvm.hb hby at_36) rfl k_) ?_
  refine own_go (t' := T3.setTop (mkF m 39 #[.val (.long p0), .second, .val (.long p1), .second, .val (.int p2), .val (.int p3), .val (.long B), .second, .val (.long M), .second, .val (.int U), .val (.int (p3 &&& (3 : Int32))), .unset, .unset, .unset, .unset, .unset, .unset, .unset, .unset, .unset, .unset, .unset, .unset] [])) (fun _ k_ => XS.istore X3.here hx rfl (Jvm.hb hby at_37) rfl (l' := #[.val (.long p0), .second, .val (.long p1), .second, .val (.int p2), .val (.int p3), .val (.long B), .second, .val (.long M), .second, .val (.int U), .val (.int (p3 &&& (3 : Int32))), .unset, .unset, .unset, .unset, .unset, .unset, .unset, .unset, .unset, .unset, .unset, .unset]) rfl k_) ?_
  refine own_go (t' := T3.setTop (mkF m 41 #[.val (.long p0), .second, .val (.long p1), .second, .val (.int p2), .val (.int p3), .val (.long B), .second, .val (.long M), .second, .val (.int U), .val (.int (p3 &&& (3 : Int32))), .unset, .unset, .unset, .unset, .unset, .unset, .unset, .unset, .unset, .unset, .unset, .unset] [(.int (p3 &&& (3 : Int32)))])) (fun _ k_ => XS.iload X3.here hx rfl (Jvm.hb hby at_39) rfl k_) ?_
  have J93 : ∀ (j : UInt64) (k : Int32), own_sel j k → own_Ends p.tables e below (own_F s (fun v h L => v = some (.int 1) ∧ Fr n0 L) room_1.cells room_1.slots) (T3.setTop (mkF m 93 #[.val (.long p0), .second, .val (.long p1), .second, .val (.int p2), .val (.int p3), .val (.long B), .second, .val (.long M), .second, .val (.int U), .val (.int (p3 &&& (3 : Int32))), .val (.double j), .second, .val (.int k), .unset, .unset, .unset, .unset, .unset, .unset, .unset, .unset, .unset] [])) := by
    intro j k hs
    have hR := own_ref_pos hB hM hd
    obtain ⟨n1, n2, hX⟩ := own_wait hR hs
    obtain ⟨T4, h4, X4, e4, E4, A4, D4, -, st4⟩ := newO X3 hx hZ hown (hw _ (List.mem_of_getElem? (i := 9) rfl)) (hw _ (List.mem_of_getElem? (i := 10) rfl)) (hw _ (List.mem_of_getElem? (i := 11) rfl)) e3 (g := (mkF m 93 #[.val (.long p0), .second, .val (.long p1), .second, .val (.int p2), .val (.int p3), .val (.long B), .second, .val (.long M), .second, .val (.int U), .val (.int (p3 &&& (3 : Int32))), .val (.double j), .second, .val (.int k), .unset, .unset, .unset, .unset, .unset, .unset, .unset, .unset, .unset] [])) rfl (Jvm.hb hby at_93) (by decide) (by decide)
    obtain ⟨a3, g4⟩ : ∃ z, z = h0.size := ⟨_, rfl⟩
    rw [← g4] at A4 D4 st4
    refine own_go (t' := T4.setTop (mkF m 96 #[.val (.long p0), .second, .val (.long p1), .second, .val (.int p2), .val (.int p3), .val (.long B), .second, .val (.long M), .second, .val (.int U), .val (.int (p3 &&& (3 : Int32))), .val (.double j), .second, .val (.int k), .unset, .unset, .unset, .unset, .unset, .unset, .unset, .unset, .unset] [(.ref a3)])) st4 ?_
    have Z1 : n0 ≤ h4.size := Nat.le_trans Z0 E4.1
    refine own_go (t' := T4.setTop (mkF m 97 #[.val (.long p0), .second, .val (.long p1), .second, .val (.int p2), .val (.int p3), .val (.long B), .second, .val (.long M), .second, .val (.int U), .val (.int (p3 &&& (3 : Int32))), .val (.double j), .second, .val (.int k), .unset, .unset, .unset, .unset, .unset, .unset, .unset, .unset, .unset] [(.ref a3), (.ref a3)])) (fun _ k_ => XS.dup X4.here hx rfl (Jvm.hb hby at_96) rfl rfl k_) ?_
    refine own_go (t' := T4.setTop (mkF m 98 #[.val (.long p0), .second, .val (.long p1), .second, .val (.int p2), .val (.int p3), .val (.long B), .second, .val (.long M), .second, .val (.int U), .val (.int (p3 &&& (3 : Int32))), .val (.double j), .second, .val (.int k), .unset, .unset, .unset, .unset, .unset, .unset, .unset, .unset, .unset] [(.int (5 : Int32)), (.ref a3), (.ref a3)])) (fun _ k_ => XS.iconst X4.here hx rfl (Jvm.hb hby at_97) k_) ?_
    refine own_go (t' := T4.setTop (mkF m 100 #[.val (.long p0), .second, .val (.long p1), .second, .val (.int p2), .val (.int p3), .val (.long B), .second, .val (.long M), .second, .val (.int U), .val (.int (p3 &&& (3 : Int32))), .val (.double j), .second, .val (.int k), .unset, .unset, .unset, .unset, .unset, .unset, .unset, .unset, .unset] [(.long B), (.int (5 : Int32)), (.ref a3), (.ref a3)])) (fun _ k_ => XS.lload X4.here hx rfl (Jvm.hb hby at_98) rfl k_) ?_
    refine own_go (t' := T4.setTop (mkF m 102 #[.val (.long p0), .second, .val (.long p1), .second, .val (.int p2), .val (.int p3), .val (.long B), .second, .val (.long M), .second, .val (.int U), .val (.int (p3 &&& (3 : Int32))), .val (.double j), .second, .val (.int k), .unset, .unset, .unset, .unset, .unset, .unset, .unset, .unset, .unset] [(.long M), (.long B), (.int (5 : Int32)), (.ref a3), (.ref a3)])) (fun _ k_ => XS.lload X4.here hx rfl (Jvm.hb hby at_100) rfl k_) ?_
    obtain ⟨T5, L5, v5, X5, hQ5, st5⟩ := own_special X4 hx hZ (y := (⟨"com/example/tombsweep/tombsweep/Retries", "<init>", "(IJJ)V"⟩ : MethodName)) rfl hown (hw _ (List.mem_of_getElem? (i := 12) rfl)) (hw _ (List.mem_of_getElem? (i := 13) rfl)) (hw _ (List.mem_of_getElem? (i := 14) rfl)) (hw _ (List.mem_of_getElem? (i := 11) rfl)) (by decide) (rm_init l Z a0 hw [] a3 5 B M _ _ _ h4 n0 Z1 A4 (D4 (Or.inr (hw _ (List.mem_of_getElem? (i := 19) rfl))) (ty := .int) (by decide)) (D4 (Or.inr (hw _ (List.mem_of_getElem? (i := 21) rfl))) (ty := .long) (by decide)) (D4 (Or.inr (hw _ (List.mem_of_getElem? (i := 23) rfl))) (ty := .long) (by decide)) (Nat.le_trans Z0 (Nat.le_of_eq g4.symm)) (by decide) hB hM) e4 (g := (mkF m 102 #[.val (.long p0), .second, .val (.long p1), .second, .val (.int p2), .val (.int p3), .val (.long B), .second, .val (.long M), .second, .val (.int U), .val (.int (p3 &&& (3 : Int32))), .val (.double j), .second, .val (.int k), .unset, .unset, .unset, .unset, .unset, .unset, .unset, .unset, .unset] [(.long M), (.long B), (.int (5 : Int32)), (.ref a3), (.ref a3)])) rfl (by rw [hml]; rfl) (argsL := [(.int (5 : Int32)), (.long B), (.long M)]) (rest := [(.ref a3)]) (lenOf pd_d3 rfl) rfl (W := 1) (by show 2 * 0 + _ ≤ _; exact Nat.le_of_eq rfl) (Jvm.hb hby at_102) (by decide) (by decide) (by decide) (by decide)
    obtain ⟨rfl, Nq5, K2, E2, G2, G3⟩ := hQ5
    have N5 := Fr.app N3 Nq5
    refine own_go (t' := T5.setTop (mkF m 105 #[.val (.long p0), .second, .val (.long p1), .second, .val (.int p2), .val (.int p3), .val (.long B), .second, .val (.long M), .second, .val (.int U), .val (.int (p3 &&& (3 : Int32))), .val (.double j), .second, .val (.int k), .unset, .unset, .unset, .unset, .unset, .unset, .unset, .unset, .unset] [(.ref a3)])) st5 ?_
    have Z2 : n0 ≤ T5.heap.size := Nat.le_trans Z1 K2.1
    refine own_go (t' := T5.setTop (mkF m 107 #[.val (.long p0), .second, .val (.long p1), .second, .val (.int p2), .val (.int p3), .val (.long B), .second, .val (.long M), .second, .val (.int U), .val (.int (p3 &&& (3 : Int32))), .val (.double j), .second, .val (.int k), .val (.ref a3), .unset, .unset, .unset, .unset, .unset, .unset, .unset, .unset] [])) (fun _ k_ => XS.astore X5.here hx rfl (Jvm.hb hby at_105) rfl rfl (l' := #[.val (.long p0), .second, .val (.long p1), .second, .val (.int p2), .val (.int p3), .val (.long B), .second, .val (.long M), .second, .val (.int U), .val (.int (p3 &&& (3 : Int32))), .val (.double j), .second, .val (.int k), .val (.ref a3), .unset, .unset, .unset, .unset, .unset, .unset, .unset, .unset]) rfl k_) ?_
    refine own_go (t' := T5.setTop (mkF m 109 #[.val (.long p0), .second, .val (.long p1), .second, .val (.int p2), .val (.int p3), .val (.long B), .second, .val (.long M), .second, .val (.int U), .val (.int (p3 &&& (3 : Int32))), .val (.double j), .second, .val (.int k), .val (.ref a3), .unset, .unset, .unset, .unset, .unset, .unset, .unset, .unset] [(.ref a3)])) (fun _ k_ => XS.aload X5.here hx rfl (Jvm.hb hby at_107) rfl rfl k_) ?_
    refine own_go (t' := T5.setTop (mkF m 111 #[.val (.long p0), .second, .val (.long p1), .second, .val (.int p2), .val (.int p3), .val (.long B), .second, .val (.long M), .second, .val (.int U), .val (.int (p3 &&& (3 : Int32))), .val (.double j), .second, .val (.int k), .val (.ref a3), .unset, .unset, .unset, .unset, .unset, .unset, .unset, .unset] [(.int U), (.ref a3)])) (fun _ k_ => XS.iload X5.here hx rfl (Jvm.hb hby at_109) rfl k_) ?_
    refine own_go (t' := T5.setTop (mkF m 113 #[.val (.long p0), .second, .val (.long p1), .second, .val (.int p2), .val (.int p3), .val (.long B), .second, .val (.long M), .second, .val (.int U), .val (.int (p3 &&& (3 : Int32))), .val (.double j), .second, .val (.int k), .val (.ref a3), .unset, .unset, .unset, .unset, .unset, .unset, .unset, .unset] [(.double j), (.int U), (.ref a3)])) (fun _ k_ => XS.dload X5.here hx rfl (Jvm.hb hby at_111) rfl k_) ?_
    obtain ⟨T6, L6, v6, X6, hQ6, st6⟩ := own_virtual X5 hx hZ (y := (⟨"com/example/tombsweep/tombsweep/Retries", "waitMs", "(ID)J"⟩ : MethodName)) hown (hw _ (List.mem_of_getElem? (i := 24) rfl)) (hw _ (List.mem_of_getElem? (i := 25) rfl)) (hw _ (List.mem_of_getElem? (i := 27) rfl)) (hw _ (List.mem_of_getElem? (i := 26) rfl)) (hw _ (List.mem_of_getElem? (i := 28) rfl)) (hw _ (List.mem_of_getElem? (i := 11) rfl)) (by decide) E2 (rm_wait l Z a0 hw [] a3 U j B M T5.heap n0 Z2 G2 G3 hB hd n1 n2) (rfl : T5.heap = T5.heap) (g := (mkF m 113 #[.val (.long p0), .second, .val (.long p1), .second, .val (.int p2), .val (.int p3), .val (.long B), .second, .val (.long M), .second, .val (.int U), .val (.int (p3 &&& (3 : Int32))), .val (.double j), .second, .val (.int k), .val (.ref a3), .unset, .unset, .unset, .unset, .unset, .unset, .unset, .unset] [(.double j), (.int U), (.ref a3)])) rfl (by rw [hml]; rfl) (argsL := [(.int U), (.double j)]) (rest := []) (lenOf pd_d5 rfl) rfl (W := 0) (by show 2 * 0 + _ ≤ _; exact Nat.le_of_eq rfl) (Jvm.hb hby at_113) (by decide) (by decide) (by decide) (by decide)
    obtain ⟨rfl, Nq6, e6⟩ := hQ6
    have N6 := Fr.app N5 Nq6
    refine own_go (t' := T6.setTop (mkF m 116 #[.val (.long p0), .second, .val (.long p1), .second, .val (.int p2), .val (.int p3), .val (.long B), .second, .val (.long M), .second, .val (.int U), .val (.int (p3 &&& (3 : Int32))), .val (.double j), .second, .val (.int k), .val (.ref a3), .unset, .unset, .unset, .unset, .unset, .unset, .unset, .unset] [(.long ((own_ref B M (U - (1 : Int32))) + (FP.d2l (FP.dmul (FP.ddiv (FP.l2d (own_ref B M (U - (1 : Int32)))) (4616189618054758400 : UInt64)) j))))])) st6 ?_
    refine own_go (t' := T6.setTop (mkF m 118 #[.val (.long p0), .second, .val (.long p1), .second, .val (.int p2), .val (.int p3), .val (.long B), .second, .val (.long M), .second, .val (.int U), .val (.int (p3 &&& (3 : Int32))), .val (.double j), .second, .val (.int k), .val (.ref a3), .val (.long ((own_ref B M (U - (1 : Int32))) + (FP.d2l (FP.dmul (FP.ddiv (FP.l2d (own_ref B M (U - (1 : Int32)))) (4616189618054758400 : UInt64)) j)))), .second, .unset, .unset, .unset, .unset, .unset, .unset] [])) (fun _ k_ => XS.lstore X6.here hx rfl (Jvm.hb hby at_116) rfl (l' := #[.val (.long p0), .second, .val (.long p1), .second, .val (.int p2), .val (.int p3), .val (.long B), .second, .val (.long M), .second, .val (.int U), .val (.int (p3 &&& (3 : Int32))), .val (.double j), .second, .val (.int k), .val (.ref a3), .val (.long ((own_ref B M (U - (1 : Int32))) + (FP.d2l (FP.dmul (FP.ddiv (FP.l2d (own_ref B M (U - (1 : Int32)))) (4616189618054758400 : UInt64)) j)))), .second, .unset, .unset, .unset, .unset, .unset, .unset]) rfl k_) ?_
    refine own_go (t' := T6.setTop (mkF m 120 #[.val (.long p0), .second, .val (.long p1), .second, .val (.int p2), .val (.int p3), .val (.long B), .second, .val (.long M), .second, .val (.int U), .val (.int (p3 &&& (3 : Int32))), .val (.double j), .second, .val (.int k), .val (.ref a3), .val (.long ((own_ref B M (U - (1 : Int32))) + (FP.d2l (FP.dmul (FP.ddiv (FP.l2d (own_ref B M (U - (1 : Int32)))) (4616189618054758400 : UInt64)) j)))), .second, .unset, .unset, .unset, .unset, .unset, .unset] [(.long B)])) (fun _ k_ => XS.lload X6.here hx rfl (Jvm.hb hby at_118) rfl k_) ?_
    refine own_go (t' := T6.setTop (mkF m 122 #[.val (.long p0), .second, .val (.long p1), .second, .val (.int p2), .val (.int p3), .val (.long B), .second, .val (.long M), .second, .val (.int U), .val (.int (p3 &&& (3 : Int32))), .val (.double j), .second, .val (.int k), .val (.ref a3), .val (.long ((own_ref B M (U - (1 : Int32))) + (FP.d2l (FP.dmul (FP.ddiv (FP.l2d (own_ref B M (U - (1 : Int32)))) (4616189618054758400 : UInt64)) j)))), .second, .unset, .unset, .unset, .unset, .unset, .unset] [(.long M), (.long B)])) (fun _ k_ => XS.lload X6.here hx rfl (Jvm.hb hby at_120) rfl k_) ?_
    refine own_go (t' := T6.setTop (mkF m 124 #[.val (.long p0), .second, .val (.long p1), .second, .val (.int p2), .val (.int p3), .val (.long B), .second, .val (.long M), .second, .val (.int U), .val (.int (p3 &&& (3 : Int32))), .val (.double j), .second, .val (.int k), .val (.ref a3), .val (.long ((own_ref B M (U - (1 : Int32))) + (FP.d2l (FP.dmul (FP.ddiv (FP.l2d (own_ref B M (U - (1 : Int32)))) (4616189618054758400 : UInt64)) j)))), .second, .unset, .unset, .unset, .unset, .unset, .unset] [(.int U), (.long M), (.long B)])) (fun _ k_ => XS.iload X6.here hx rfl (Jvm.hb hby at_122) rfl k_) ?_
    refine own_go (t' := T6.setTop (mkF m 125 #[.val (.long p0), .second, .val (.long p1), .second, .val (.int p2), .val (.int p3), .val (.long B), .second, .val (.long M), .second, .val (.int U), .val (.int (p3 &&& (3 : Int32))), .val (.double j), .second, .val (.int k), .val (.ref a3), .val (.long ((own_ref B M (U - (1 : Int32))) + (FP.d2l (FP.dmul (FP.ddiv (FP.l2d (own_ref B M (U - (1 : Int32)))) (4616189618054758400 : UInt64)) j)))), .second, .unset, .unset, .unset, .unset, .unset, .unset] [(.int (1 : Int32)), (.int U), (.long M), (.long B)])) (fun _ k_ => XS.iconst X6.here hx rfl (Jvm.hb hby at_124) k_) ?_
    refine own_go (t' := T6.setTop (mkF m 126 #[.val (.long p0), .second, .val (.long p1), .second, .val (.int p2), .val (.int p3), .val (.long B), .second, .val (.long M), .second, .val (.int U), .val (.int (p3 &&& (3 : Int32))), .val (.double j), .second, .val (.int k), .val (.ref a3), .val (.long ((own_ref B M (U - (1 : Int32))) + (FP.d2l (FP.dmul (FP.ddiv (FP.l2d (own_ref B M (U - (1 : Int32)))) (4616189618054758400 : UInt64)) j)))), .second, .unset, .unset, .unset, .unset, .unset, .unset] [(.int (U - (1 : Int32))), (.long M), (.long B)])) (fun _ k_ => XS.isub X6.here hx rfl (Jvm.hb hby at_125) rfl k_) ?_
    obtain ⟨T7, L7, v7, X7, hQ7, st7⟩ := own_static X6 hx hZ hown (hw _ (List.mem_of_getElem? (i := 42) rfl)) (hw _ (List.mem_of_getElem? (i := 43) rfl)) (hw _ (List.mem_of_getElem? (i := 44) rfl)) (hw _ (List.mem_of_getElem? (i := 45) rfl)) (by decide) (rm_ref l Z a0 hw [] B M _ T5.heap n0 Z2) e6 (g := (mkF m 126 #[.val (.long p0), .second, .val (.long p1), .second, .val (.int p2), .val (.int p3), .val (.long B), .second, .val (.long M), .second, .val (.int U), .val (.int (p3 &&& (3 : Int32))), .val (.double j), .second, .val (.int k), .val (.ref a3), .val (.long ((own_ref B M (U - (1 : Int32))) + (FP.d2l (FP.dmul (FP.ddiv (FP.l2d (own_ref B M (U - (1 : Int32)))) (4616189618054758400 : UInt64)) j)))), .second, .unset, .unset, .unset, .unset, .unset, .unset] [(.int (U - (1 : Int32))), (.long M), (.long B)])) rfl (by rw [hml]; rfl) (argsL := [(.long B), (.long M), (.int (U - (1 : Int32)))]) (rest := []) (lenOf pd_d9 rfl) rfl (W := 0) (by show 2 * 0 + _ ≤ _; exact Nat.le_of_eq rfl) (Jvm.hb hby at_126) (by decide) (by decide) (by decide) (by decide)
    obtain ⟨rfl, Nq7, e7⟩ := hQ7
    have N7 := Fr.app N6 Nq7
    refine own_go (t' := T7.setTop (mkF m 129 #[.val (.long p0), .second, .val (.long p1), .second, .val (.int p2), .val (.int p3), .val (.long B), .second, .val (.long M), .second, .val (.int U), .val (.int (p3 &&& (3 : Int32))), .val (.double j), .second, .val (.int k), .val (.ref a3), .val (.long ((own_ref B M (U - (1 : Int32))) + (FP.d2l (FP.dmul (FP.ddiv (FP.l2d (own_ref B M (U - (1 : Int32)))) (4616189618054758400 : UInt64)) j)))), .second, .unset, .unset, .unset, .unset, .unset, .unset] [(.long (own_ref B M (U - (1 : Int32))))])) st7 ?_
    refine own_go (t' := T7.setTop (mkF m 131 #[.val (.long p0), .second, .val (.long p1), .second, .val (.int p2), .val (.int p3), .val (.long B), .second, .val (.long M), .second, .val (.int U), .val (.int (p3 &&& (3 : Int32))), .val (.double j), .second, .val (.int k), .val (.ref a3), .val (.long ((own_ref B M (U - (1 : Int32))) + (FP.d2l (FP.dmul (FP.ddiv (FP.l2d (own_ref B M (U - (1 : Int32)))) (4616189618054758400 : UInt64)) j)))), .second, .val (.long (own_ref B M (U - (1 : Int32)))), .second, .unset, .unset, .unset, .unset] [])) (fun _ k_ => XS.lstore X7.here hx rfl (Jvm.hb hby at_129) rfl (l' := #[.val (.long p0), .second, .val (.long p1), .second, .val (.int p2), .val (.int p3), .val (.long B), .second, .val (.long M), .second, .val (.int U), .val (.int (p3 &&& (3 : Int32))), .val (.double j), .second, .val (.int k), .val (.ref a3), .val (.long ((own_ref B M (U - (1 : Int32))) + (FP.d2l (FP.dmul (FP.ddiv (FP.l2d (own_ref B M (U - (1 : Int32)))) (4616189618054758400 : UInt64)) j)))), .second, .val (.long (own_ref B M (U - (1 : Int32)))), .second, .unset, .unset, .unset, .unset]) rfl k_) ?_
    refine own_go (t' := T7.setTop (mkF m 133 #[.val (.long p0), .second, .val (.long p1), .second, .val (.int p2), .val (.int p3), .val (.long B), .second, .val (.long M), .second, .val (.int U), .val (.int (p3 &&& (3 : Int32))), .val (.double j), .second, .val (.int k), .val (.ref a3), .val (.long ((own_ref B M (U - (1 : Int32))) + (FP.d2l (FP.dmul (FP.ddiv (FP.l2d (own_ref B M (U - (1 : Int32)))) (4616189618054758400 : UInt64)) j)))), .second, .val (.long (own_ref B M (U - (1 : Int32)))), .second, .unset, .unset, .unset, .unset] [(.long ((own_ref B M (U - (1 : Int32))) + (FP.d2l (FP.dmul (FP.ddiv (FP.l2d (own_ref B M (U - (1 : Int32)))) (4616189618054758400 : UInt64)) j))))])) (fun _ k_ => XS.lload X7.here hx rfl (Jvm.hb hby at_131) rfl k_) ?_
    refine own_go (t' := T7.setTop (mkF m 135 #[.val (.long p0), .second, .val (.long p1), .second, .val (.int p2), .val (.int p3), .val (.long B), .second, .val (.long M), .second, .val (.int U), .val (.int (p3 &&& (3 : Int32))), .val (.double j), .second, .val (.int k), .val (.ref a3), .val (.long ((own_ref B M (U - (1 : Int32))) + (FP.d2l (FP.dmul (FP.ddiv (FP.l2d (own_ref B M (U - (1 : Int32)))) (4616189618054758400 : UInt64)) j)))), .second, .val (.long (own_ref B M (U - (1 : Int32)))), .second, .unset, .unset, .unset, .unset] [(.long (own_ref B M (U - (1 : Int32)))), (.long ((own_ref B M (U - (1 : Int32))) + (FP.d2l (FP.dmul (FP.ddiv (FP.l2d (own_ref B M (U - (1 : Int32)))) (4616189618054758400 : UInt64)) j))))])) (fun _ k_ => XS.lload X7.here hx rfl (Jvm.hb hby at_133) rfl k_) ?_
    refine own_go (t' := T7.setTop (mkF m 136 #[.val (.long p0), .second, .val (.long p1), .second, .val (.int p2), .val (.int p3), .val (.long B), .second, .val (.long M), .second, .val (.int U), .val (.int (p3 &&& (3 : Int32))), .val (.double j), .second, .val (.int k), .val (.ref a3), .val (.long ((own_ref B M (U - (1 : Int32))) + (FP.d2l (FP.dmul (FP.ddiv (FP.l2d (own_ref B M (U - (1 : Int32)))) (4616189618054758400 : UInt64)) j)))), .second, .val (.long (own_ref B M (U - (1 : Int32)))), .second, .unset, .unset, .unset, .unset] [(.long (((own_ref B M (U - (1 : Int32))) + (FP.d2l (FP.dmul (FP.ddiv (FP.l2d (own_ref B M (U - (1 : Int32)))) (4616189618054758400 : UInt64)) j))) - (own_ref B M (U - (1 : Int32)))))])) (fun _ k_ => XS.lsub X7.here hx rfl (Jvm.hb hby at_135) rfl k_) ?_
    rw [own_back]
    have eX : (FP.d2l (FP.dmul (FP.ddiv (FP.l2d (own_ref B M (U - (1 : Int32)))) (4616189618054758400 : UInt64)) j)) = own_X (own_ref B M (U - (1 : Int32))) j := rfl
    rw [eX]
    generalize own_X (own_ref B M (U - (1 : Int32))) j = X at hX ⊢
    generalize (own_ref B M (U - (1 : Int32))) = D at hR hX ⊢
    refine own_go (t' := T7.setTop (mkF m 138 #[.val (.long p0), .second, .val (.long p1), .second, .val (.int p2), .val (.int p3), .val (.long B), .second, .val (.long M), .second, .val (.int U), .val (.int (p3 &&& (3 : Int32))), .val (.double j), .second, .val (.int k), .val (.ref a3), .val (.long (D + X)), .second, .val (.long D), .second, .val (.long X), .second, .unset, .unset] [])) (fun _ k_ => XS.lstore X7.here hx rfl (Jvm.hb hby at_136) rfl (l' := #[.val (.long p0), .second, .val (.long p1), .second, .val (.int p2), .val (.int p3), .val (.long B), .second, .val (.long M), .second, .val (.int U), .val (.int (p3 &&& (3 : Int32))), .val (.double j), .second, .val (.int k), .val (.ref a3), .val (.long (D + X)), .second, .val (.long D), .second, .val (.long X), .second, .unset, .unset]) rfl k_) ?_
    refine own_go (t' := T7.setTop (mkF m 140 #[.val (.long p0), .second, .val (.long p1), .second, .val (.int p2), .val (.int p3), .val (.long B), .second, .val (.long M), .second, .val (.int U), .val (.int (p3 &&& (3 : Int32))), .val (.double j), .second, .val (.int k), .val (.ref a3), .val (.long (D + X)), .second, .val (.long D), .second, .val (.long X), .second, .unset, .unset] [(.int k)])) (fun _ k_ => XS.iload X7.here hx rfl (Jvm.hb hby at_138) rfl k_) ?_
    rcases hX with ⟨hk, hX⟩ | ⟨hk, hs1, hs2, hs3⟩
    ·
      refine own_go (t' := T7.setTop (mkF m 143 #[.val (.long p0), .second, .val (.long p1), .second, .val (.int p2), .val (.int p3), .val (.long B), .second, .val (.long M), .second, .val (.int U), .val (.int (p3 &&& (3 : Int32))), .val (.double j), .second, .val (.int k), .val (.ref a3), .val (.long (D + X)), .second, .val (.long D), .second, .val (.long X), .second, .unset, .unset] [])) (fun _ k_ => XS.ifNo X7.here hx rfl (Jvm.hb hby at_140) rfl ((if0 _ _).trans (tlt hk).2.1) k_) ?_
      refine own_go (t' := T7.setTop (mkF m 145 #[.val (.long p0), .second, .val (.long p1), .second, .val (.int p2), .val (.int p3), .val (.long B), .second, .val (.long M), .second, .val (.int U), .val (.int (p3 &&& (3 : Int32))), .val (.double j), .second, .val (.int k), .val (.ref a3), .val (.long (D + X)), .second, .val (.long D), .second, .val (.long X), .second, .unset, .unset] [(.long X)])) (fun _ k_ => XS.lload X7.here hx rfl (Jvm.hb hby at_143) rfl k_) ?_
      refine own_go (t' := T7.setTop (mkF m 146 #[.val (.long p0), .second, .val (.long p1), .second, .val (.int p2), .val (.int p3), .val (.long B), .second, .val (.long M), .second, .val (.int U), .val (.int (p3 &&& (3 : Int32))), .val (.double j), .second, .val (.int k), .val (.ref a3), .val (.long (D + X)), .second, .val (.long D), .second, .val (.long X), .second, .unset, .unset] [(.long (0 : Int64)), (.long X)])) (fun _ k_ => XS.lconst X7.here hx rfl (Jvm.hb hby at_145) k_) ?_
      refine own_go (t' := T7.setTop (mkF m 147 #[.val (.long p0), .second, .val (.long p1), .second, .val (.int p2), .val (.int p3), .val (.long B), .second, .val (.long M), .second, .val (.int U), .val (.int (p3 &&& (3 : Int32))), .val (.double j), .second, .val (.int k), .val (.ref a3), .val (.long (D + X)), .second, .val (.long D), .second, .val (.long X), .second, .unset, .unset] [(.int (lcmpW X (0 : Int64)))])) (fun _ k_ => XS.lcmp X7.here hx rfl (Jvm.hb hby at_146) rfl k_) ?_
      refine own_go (t' := T7.setTop (mkF m 150 #[.val (.long p0), .second, .val (.long p1), .second, .val (.int p2), .val (.int p3), .val (.long B), .second, .val (.long M), .second, .val (.int U), .val (.int (p3 &&& (3 : Int32))), .val (.double j), .second, .val (.int k), .val (.ref a3), .val (.long (D + X)), .second, .val (.long D), .second, .val (.long X), .second, .unset, .unset] [])) (fun _ k_ => XS.ifNo X7.here hx rfl (Jvm.hb hby at_147) rfl ((if0 _ _).trans (teq ((lw_eq _ _).mpr hX)).2) k_) ?_
      refine own_go (t' := T7.setTop (mkF m 151 #[.val (.long p0), .second, .val (.long p1), .second, .val (.int p2), .val (.int p3), .val (.long B), .second, .val (.long M), .second, .val (.int U), .val (.int (p3 &&& (3 : Int32))), .val (.double j), .second, .val (.int k), .val (.ref a3), .val (.long (D + X)), .second, .val (.long D), .second, .val (.long X), .second, .unset, .unset] [(.int (1 : Int32))])) (fun _ k_ => XS.iconst X7.here hx rfl (Jvm.hb hby at_150) k_) ?_
      refine own_go (t' := T7.setTop (mkF m 155 #[.val (.long p0), .second, .val (.long p1), .second, .val (.int p2), .val (.int p3), .val (.long B), .second, .val (.long M), .second, .val (.int U), .val (.int (p3 &&& (3 : Int32))), .val (.double j), .second, .val (.int k), .val (.ref a3), .val (.long (D + X)), .second, .val (.long D), .second, .val (.long X), .second, .unset, .unset] [(.int (1 : Int32))])) (fun _ k_ => XS.goto X7.here hx rfl (pc0 := 151) (pc' := 155) rfl (Jvm.hb hby at_151) (by decide) (by decide) k_) ?_
      exact own_retZ X7 hx Bd.returns (BodyLoose.notSynchronized Bd) rfl (Jvm.hb hby at_155) (by decide) (by decide) ⟨rfl, N7⟩
    ·
      refine own_go (t' := T7.setTop (mkF m 156 #[.val (.long p0), .second, .val (.long p1), .second, .val (.int p2), .val (.int p3), .val (.long B), .second, .val (.long M), .second, .val (.int U), .val (.int (p3 &&& (3 : Int32))), .val (.double j), .second, .val (.int k), .val (.ref a3), .val (.long (D + X)), .second, .val (.long D), .second, .val (.long X), .second, .unset, .unset] [])) (fun _ k_ => XS.ifYes X7.here hx rfl (pc0 := 140) (pc' := 156) rfl (Jvm.hb hby at_140) rfl ((if0 _ _).trans (flt hk).2.1) (by decide) (by decide) k_) ?_
      refine own_go (t' := T7.setTop (mkF m 158 #[.val (.long p0), .second, .val (.long p1), .second, .val (.int p2), .val (.int p3), .val (.long B), .second, .val (.long M), .second, .val (.int U), .val (.int (p3 &&& (3 : Int32))), .val (.double j), .second, .val (.int k), .val (.ref a3), .val (.long (D + X)), .second, .val (.long D), .second, .val (.long X), .second, .unset, .unset] [(.long D)])) (fun _ k_ => XS.lload X7.here hx rfl (Jvm.hb hby at_156) rfl k_) ?_
      refine own_go (t' := T7.setTop (mkF m 160 #[.val (.long p0), .second, .val (.long p1), .second, .val (.int p2), .val (.int p3), .val (.long B), .second, .val (.long M), .second, .val (.int U), .val (.int (p3 &&& (3 : Int32))), .val (.double j), .second, .val (.int k), .val (.ref a3), .val (.long (D + X)), .second, .val (.long D), .second, .val (.long X), .second, .unset, .unset] [(.int k), (.long D)])) (fun _ k_ => XS.iload X7.here hx rfl (Jvm.hb hby at_158) rfl k_) ?_
      refine own_go (t' := T7.setTop (mkF m 161 #[.val (.long p0), .second, .val (.long p1), .second, .val (.int p2), .val (.int p3), .val (.long B), .second, .val (.long M), .second, .val (.int U), .val (.int (p3 &&& (3 : Int32))), .val (.double j), .second, .val (.int k), .val (.ref a3), .val (.long (D + X)), .second, .val (.long D), .second, .val (.long X), .second, .unset, .unset] [(.long (D >>> (k &&& 0x3f).toInt64))])) (fun _ k_ => XS.lshr X7.here hx rfl (Jvm.hb hby at_160) rfl k_) ?_
      refine own_go (t' := T7.setTop (mkF m 163 #[.val (.long p0), .second, .val (.long p1), .second, .val (.int p2), .val (.int p3), .val (.long B), .second, .val (.long M), .second, .val (.int U), .val (.int (p3 &&& (3 : Int32))), .val (.double j), .second, .val (.int k), .val (.ref a3), .val (.long (D + X)), .second, .val (.long D), .second, .val (.long X), .second, .val (.long (D >>> (k &&& 0x3f).toInt64)), .second] [])) (fun _ k_ => XS.lstore X7.here hx rfl (Jvm.hb hby at_161) rfl (l' := #[.val (.long p0), .second, .val (.long p1), .second, .val (.int p2), .val (.int p3), .val (.long B), .second, .val (.long M), .second, .val (.int U), .val (.int (p3 &&& (3 : Int32))), .val (.double j), .second, .val (.int k), .val (.ref a3), .val (.long (D + X)), .second, .val (.long D), .second, .val (.long X), .second, .val (.long (D >>> (k &&& 0x3f).toInt64)), .second]) rfl k_) ?_
      refine own_go (t' := T7.setTop (mkF m 165 #[.val (.long p0), .second, .val (.long p1), .second, .val (.int p2), .val (.int p3), .val (.long B), .second, .val (.long M), .second, .val (.int U), .val (.int (p3 &&& (3 : Int32))), .val (.double j), .second, .val (.int k), .val (.ref a3), .val (.long (D + X)), .second, .val (.long D), .second, .val (.long X), .second, .val (.long (D >>> (k &&& 0x3f).toInt64)), .second] [(.long D)])) (fun _ k_ => XS.lload X7.here hx rfl (Jvm.hb hby at_163) rfl k_) ?_
      refine own_go (t' := T7.setTop (mkF m 168 #[.val (.long p0), .second, .val (.long p1), .second, .val (.int p2), .val (.int p3), .val (.long B), .second, .val (.long M), .second, .val (.int U), .val (.int (p3 &&& (3 : Int32))), .val (.double j), .second, .val (.int k), .val (.ref a3), .val (.long (D + X)), .second, .val (.long D), .second, .val (.long X), .second, .val (.long (D >>> (k &&& 0x3f).toInt64)), .second] [(.long (9007199254740992 : Int64)), (.long D)])) (fun _ k_ => X7.ldc2J (own := "com/example/tombsweep/tombsweep/RetriesWaitMsPinLaw") (index := 40) (v := (9007199254740992 : Int64)) hx hown (mvT hZ (hw _ (List.mem_of_getElem? (i := 47) rfl))) rfl (Jvm.hb hby at_165) k_) ?_
      refine own_go (t' := T7.setTop (mkF m 169 #[.val (.long p0), .second, .val (.long p1), .second, .val (.int p2), .val (.int p3), .val (.long B), .second, .val (.long M), .second, .val (.int U), .val (.int (p3 &&& (3 : Int32))), .val (.double j), .second, .val (.int k), .val (.ref a3), .val (.long (D + X)), .second, .val (.long D), .second, .val (.long X), .second, .val (.long (D >>> (k &&& 0x3f).toInt64)), .second] [(.int (lcmpW D (9007199254740992 : Int64)))])) (fun _ k_ => XS.lcmp X7.here hx rfl (Jvm.hb hby at_168) rfl k_) ?_
      by_cases hg : (9007199254740992 : Int64) < D
      ·
        refine own_go (t' := T7.setTop (mkF m 186 #[.val (.long p0), .second, .val (.long p1), .second, .val (.int p2), .val (.int p3), .val (.long B), .second, .val (.long M), .second, .val (.int U), .val (.int (p3 &&& (3 : Int32))), .val (.double j), .second, .val (.int k), .val (.ref a3), .val (.long (D + X)), .second, .val (.long D), .second, .val (.long X), .second, .val (.long (D >>> (k &&& 0x3f).toInt64)), .second] [])) (fun _ k_ => XS.ifYes X7.here hx rfl (pc0 := 169) (pc' := 186) rfl (Jvm.hb hby at_169) rfl ((if0 _ _).trans (tlt ((lw_gt _ _).mpr hg)).2.2.1) (by decide) (by decide) k_) ?_
        refine own_go (t' := T7.setTop (mkF m 188 #[.val (.long p0), .second, .val (.long p1), .second, .val (.int p2), .val (.int p3), .val (.long B), .second, .val (.long M), .second, .val (.int U), .val (.int (p3 &&& (3 : Int32))), .val (.double j), .second, .val (.int k), .val (.ref a3), .val (.long (D + X)), .second, .val (.long D), .second, .val (.long X), .second, .val (.long (D >>> (k &&& 0x3f).toInt64)), .second] [(.long X)])) (fun _ k_ => XS.lload X7.here hx rfl (Jvm.hb hby at_186) rfl k_) ?_
        refine own_go (t' := T7.setTop (mkF m 190 #[.val (.long p0), .second, .val (.long p1), .second, .val (.int p2), .val (.int p3), .val (.long B), .second, .val (.long M), .second, .val (.int U), .val (.int (p3 &&& (3 : Int32))), .val (.double j), .second, .val (.int k), .val (.ref a3), .val (.long (D + X)), .second, .val (.long D), .second, .val (.long X), .second, .val (.long (D >>> (k &&& 0x3f).toInt64)), .second] [(.long (D >>> (k &&& 0x3f).toInt64)), (.long X)])) (fun _ k_ => XS.lload X7.here hx rfl (Jvm.hb hby at_188) rfl k_) ?_
        refine own_go (t' := T7.setTop (mkF m 193 #[.val (.long p0), .second, .val (.long p1), .second, .val (.int p2), .val (.int p3), .val (.long B), .second, .val (.long M), .second, .val (.int U), .val (.int (p3 &&& (3 : Int32))), .val (.double j), .second, .val (.int k), .val (.ref a3), .val (.long (D + X)), .second, .val (.long D), .second, .val (.long X), .second, .val (.long (D >>> (k &&& 0x3f).toInt64)), .second] [(.long (128 : Int64)), (.long (D >>> (k &&& 0x3f).toInt64)), (.long X)])) (fun _ k_ => X7.ldc2J (own := "com/example/tombsweep/tombsweep/RetriesWaitMsPinLaw") (index := 42) (v := (128 : Int64)) hx hown (mvT hZ (hw _ (List.mem_of_getElem? (i := 49) rfl))) rfl (Jvm.hb hby at_190) k_) ?_
        refine own_go (t' := T7.setTop (mkF m 194 #[.val (.long p0), .second, .val (.long p1), .second, .val (.int p2), .val (.int p3), .val (.long B), .second, .val (.long M), .second, .val (.int U), .val (.int (p3 &&& (3 : Int32))), .val (.double j), .second, .val (.int k), .val (.ref a3), .val (.long (D + X)), .second, .val (.long D), .second, .val (.long X), .second, .val (.long (D >>> (k &&& 0x3f).toInt64)), .second] [(.long ((D >>> (k &&& 0x3f).toInt64) - (128 : Int64))), (.long X)])) (fun _ k_ => XS.lsub X7.here hx rfl (Jvm.hb hby at_193) rfl k_) ?_
        refine own_go (t' := T7.setTop (mkF m 195 #[.val (.long p0), .second, .val (.long p1), .second, .val (.int p2), .val (.int p3), .val (.long B), .second, .val (.long M), .second, .val (.int U), .val (.int (p3 &&& (3 : Int32))), .val (.double j), .second, .val (.int k), .val (.ref a3), .val (.long (D + X)), .second, .val (.long D), .second, .val (.long X), .second, .val (.long (D >>> (k &&& 0x3f).toInt64)), .second] [(.int (lcmpW X ((D >>> (k &&& 0x3f).toInt64) - (128 : Int64))))])) (fun _ k_ => XS.lcmp X7.here hx rfl (Jvm.hb hby at_194) rfl k_) ?_
        refine own_go (t' := T7.setTop (mkF m 198 #[.val (.long p0), .second, .val (.long p1), .second, .val (.int p2), .val (.int p3), .val (.long B), .second, .val (.long M), .second, .val (.int U), .val (.int (p3 &&& (3 : Int32))), .val (.double j), .second, .val (.int k), .val (.ref a3), .val (.long (D + X)), .second, .val (.long D), .second, .val (.long X), .second, .val (.long (D >>> (k &&& 0x3f).toInt64)), .second] [])) (fun _ k_ => XS.ifNo X7.here hx rfl (Jvm.hb hby at_195) rfl ((if0 _ _).trans (flt hs2).1) k_) ?_
        refine own_go (t' := T7.setTop (mkF m 200 #[.val (.long p0), .second, .val (.long p1), .second, .val (.int p2), .val (.int p3), .val (.long B), .second, .val (.long M), .second, .val (.int U), .val (.int (p3 &&& (3 : Int32))), .val (.double j), .second, .val (.int k), .val (.ref a3), .val (.long (D + X)), .second, .val (.long D), .second, .val (.long X), .second, .val (.long (D >>> (k &&& 0x3f).toInt64)), .second] [(.long X)])) (fun _ k_ => XS.lload X7.here hx rfl (Jvm.hb hby at_198) rfl k_) ?_
        refine own_go (t' := T7.setTop (mkF m 202 #[.val (.long p0), .second, .val (.long p1), .second, .val (.int p2), .val (.int p3), .val (.long B), .second, .val (.long M), .second, .val (.int U), .val (.int (p3 &&& (3 : Int32))), .val (.double j), .second, .val (.int k), .val (.ref a3), .val (.long (D + X)), .second, .val (.long D), .second, .val (.long X), .second, .val (.long (D >>> (k &&& 0x3f).toInt64)), .second] [(.long (D >>> (k &&& 0x3f).toInt64)), (.long X)])) (fun _ k_ => XS.lload X7.here hx rfl (Jvm.hb hby at_200) rfl k_) ?_
        refine own_go (t' := T7.setTop (mkF m 205 #[.val (.long p0), .second, .val (.long p1), .second, .val (.int p2), .val (.int p3), .val (.long B), .second, .val (.long M), .second, .val (.int U), .val (.int (p3 &&& (3 : Int32))), .val (.double j), .second, .val (.int k), .val (.ref a3), .val (.long (D + X)), .second, .val (.long D), .second, .val (.long X), .second, .val (.long (D >>> (k &&& 0x3f).toInt64)), .second] [(.long (128 : Int64)), (.long (D >>> (k &&& 0x3f).toInt64)), (.long X)])) (fun _ k_ => X7.ldc2J (own := "com/example/tombsweep/tombsweep/RetriesWaitMsPinLaw") (index := 42) (v := (128 : Int64)) hx hown (mvT hZ (hw _ (List.mem_of_getElem? (i := 49) rfl))) rfl (Jvm.hb hby at_202) k_) ?_
        refine own_go (t' := T7.setTop (mkF m 206 #[.val (.long p0), .second, .val (.long p1), .second, .val (.int p2), .val (.int p3), .val (.long B), .second, .val (.long M), .second, .val (.int U), .val (.int (p3 &&& (3 : Int32))), .val (.double j), .second, .val (.int k), .val (.ref a3), .val (.long (D + X)), .second, .val (.long D), .second, .val (.long X), .second, .val (.long (D >>> (k &&& 0x3f).toInt64)), .second] [(.long ((D >>> (k &&& 0x3f).toInt64) + (128 : Int64))), (.long X)])) (fun _ k_ => XS.ladd X7.here hx rfl (Jvm.hb hby at_205) rfl k_) ?_
        refine own_go (t' := T7.setTop (mkF m 207 #[.val (.long p0), .second, .val (.long p1), .second, .val (.int p2), .val (.int p3), .val (.long B), .second, .val (.long M), .second, .val (.int U), .val (.int (p3 &&& (3 : Int32))), .val (.double j), .second, .val (.int k), .val (.ref a3), .val (.long (D + X)), .second, .val (.long D), .second, .val (.long X), .second, .val (.long (D >>> (k &&& 0x3f).toInt64)), .second] [(.int (lcmpW X ((D >>> (k &&& 0x3f).toInt64) + (128 : Int64))))])) (fun _ k_ => XS.lcmp X7.here hx rfl (Jvm.hb hby at_206) rfl k_) ?_
        refine own_go (t' := T7.setTop (mkF m 210 #[.val (.long p0), .second, .val (.long p1), .second, .val (.int p2), .val (.int p3), .val (.long B), .second, .val (.long M), .second, .val (.int U), .val (.int (p3 &&& (3 : Int32))), .val (.double j), .second, .val (.int k), .val (.ref a3), .val (.long (D + X)), .second, .val (.long D), .second, .val (.long X), .second, .val (.long (D >>> (k &&& 0x3f).toInt64)), .second] [])) (fun _ k_ => XS.ifNo X7.here hx rfl (Jvm.hb hby at_207) rfl ((if0 _ _).trans (flt hs3).2.2.1) k_) ?_
        refine own_go (t' := T7.setTop (mkF m 211 #[.val (.long p0), .second, .val (.long p1), .second, .val (.int p2), .val (.int p3), .val (.long B), .second, .val (.long M), .second, .val (.int U), .val (.int (p3 &&& (3 : Int32))), .val (.double j), .second, .val (.int k), .val (.ref a3), .val (.long (D + X)), .second, .val (.long D), .second, .val (.long X), .second, .val (.long (D >>> (k &&& 0x3f).toInt64)), .second] [(.int (1 : Int32))])) (fun _ k_ => XS.iconst X7.here hx rfl (Jvm.hb hby at_210) k_) ?_
        refine own_go (t' := T7.setTop (mkF m 215 #[.val (.long p0), .second, .val (.long p1), .second, .val (.int p2), .val (.int p3), .val (.long B), .second, .val (.long M), .second, .val (.int U), .val (.int (p3 &&& (3 : Int32))), .val (.double j), .second, .val (.int k), .val (.ref a3), .val (.long (D + X)), .second, .val (.long D), .second, .val (.long X), .second, .val (.long (D >>> (k &&& 0x3f).toInt64)), .second] [(.int (1 : Int32))])) (fun _ k_ => XS.goto X7.here hx rfl (pc0 := 211) (pc' := 215) rfl (Jvm.hb hby at_211) (by decide) (by decide) k_) ?_
        exact own_retZ X7 hx Bd.returns (BodyLoose.notSynchronized Bd) rfl (Jvm.hb hby at_215) (by decide) (by decide) ⟨rfl, N7⟩
      ·
        have hle : D.toInt ≤ 9007199254740992 := by have := mt Int64.lt_iff_toInt_lt.mpr hg; rw [show (9007199254740992 : Int64).toInt = 9007199254740992 by decide] at this; omega
        refine own_go (t' := T7.setTop (mkF m 172 #[.val (.long p0), .second, .val (.long p1), .second, .val (.int p2), .val (.int p3), .val (.long B), .second, .val (.long M), .second, .val (.int U), .val (.int (p3 &&& (3 : Int32))), .val (.double j), .second, .val (.int k), .val (.ref a3), .val (.long (D + X)), .second, .val (.long D), .second, .val (.long X), .second, .val (.long (D >>> (k &&& 0x3f).toInt64)), .second] [])) (fun _ k_ => XS.ifNo X7.here hx rfl (Jvm.hb hby at_169) rfl ((if0 _ _).trans (flt (fun q => hg ((lw_gt _ _).mp q))).2.2.1) k_) ?_
        refine own_go (t' := T7.setTop (mkF m 174 #[.val (.long p0), .second, .val (.long p1), .second, .val (.int p2), .val (.int p3), .val (.long B), .second, .val (.long M), .second, .val (.int U), .val (.int (p3 &&& (3 : Int32))), .val (.double j), .second, .val (.int k), .val (.ref a3), .val (.long (D + X)), .second, .val (.long D), .second, .val (.long X), .second, .val (.long (D >>> (k &&& 0x3f).toInt64)), .second] [(.long X)])) (fun _ k_ => XS.lload X7.here hx rfl (Jvm.hb hby at_172) rfl k_) ?_
        refine own_go (t' := T7.setTop (mkF m 176 #[.val (.long p0), .second, .val (.long p1), .second, .val (.int p2), .val (.int p3), .val (.long B), .second, .val (.long M), .second, .val (.int U), .val (.int (p3 &&& (3 : Int32))), .val (.double j), .second, .val (.int k), .val (.ref a3), .val (.long (D + X)), .second, .val (.long D), .second, .val (.long X), .second, .val (.long (D >>> (k &&& 0x3f).toInt64)), .second] [(.long (D >>> (k &&& 0x3f).toInt64)), (.long X)])) (fun _ k_ => XS.lload X7.here hx rfl (Jvm.hb hby at_174) rfl k_) ?_
        refine own_go (t' := T7.setTop (mkF m 177 #[.val (.long p0), .second, .val (.long p1), .second, .val (.int p2), .val (.int p3), .val (.long B), .second, .val (.long M), .second, .val (.int U), .val (.int (p3 &&& (3 : Int32))), .val (.double j), .second, .val (.int k), .val (.ref a3), .val (.long (D + X)), .second, .val (.long D), .second, .val (.long X), .second, .val (.long (D >>> (k &&& 0x3f).toInt64)), .second] [(.int (lcmpW X (D >>> (k &&& 0x3f).toInt64)))])) (fun _ k_ => XS.lcmp X7.here hx rfl (Jvm.hb hby at_176) rfl k_) ?_
        refine own_go (t' := T7.setTop (mkF m 180 #[.val (.long p0), .second, .val (.long p1), .second, .val (.int p2), .val (.int p3), .val (.long B), .second, .val (.long M), .second, .val (.int U), .val (.int (p3 &&& (3 : Int32))), .val (.double j), .second, .val (.int k), .val (.ref a3), .val (.long (D + X)), .second, .val (.long D), .second, .val (.long X), .second, .val (.long (D >>> (k &&& 0x3f).toInt64)), .second] [])) (fun _ k_ => XS.ifNo X7.here hx rfl (Jvm.hb hby at_177) rfl ((if0 _ _).trans (teq ((lw_eq _ _).mpr (hs1 hle))).2) k_) ?_
        refine own_go (t' := T7.setTop (mkF m 181 #[.val (.long p0), .second, .val (.long p1), .second, .val (.int p2), .val (.int p3), .val (.long B), .second, .val (.long M), .second, .val (.int U), .val (.int (p3 &&& (3 : Int32))), .val (.double j), .second, .val (.int k), .val (.ref a3), .val (.long (D + X)), .second, .val (.long D), .second, .val (.long X), .second, .val (.long (D >>> (k &&& 0x3f).toInt64)), .second] [(.int (1 : Int32))])) (fun _ k_ => XS.iconst X7.here hx rfl (Jvm.hb hby at_180) k_) ?_
        refine own_go (t' := T7.setTop (mkF m 185 #[.val (.long p0), .second, .val (.long p1), .second, .val (.int p2), .val (.int p3), .val (.long B), .second, .val (.long M), .second, .val (.int U), .val (.int (p3 &&& (3 : Int32))), .val (.double j), .second, .val (.int k), .val (.ref a3), .val (.long (D + X)), .second, .val (.long D), .second, .val (.long X), .second, .val (.long (D >>> (k &&& 0x3f).toInt64)), .second] [(.int (1 : Int32))])) (fun _ k_ => XS.goto X7.here hx rfl (pc0 := 181) (pc' := 185) rfl (Jvm.hb hby at_181) (by decide) (by decide) k_) ?_
        exact own_retZ X7 hx Bd.returns (BodyLoose.notSynchronized Bd) rfl (Jvm.hb hby at_185) (by decide) (by decide) ⟨rfl, N7⟩
  by_cases q0 : (p3 &&& (3 : Int32)) = 0
  ·
    refine own_go (t' := T3.setTop (mkF m 44 #[.val (.long p0), .second, .val (.long p1), .second, .val (.int p2), .val (.int p3), .val (.long B), .second, .val (.long M), .second, .val (.int U), .val (.int (p3 &&& (3 : Int32))), .unset, .unset, .unset, .unset, .unset, .unset, .unset, .unset, .unset, .unset, .unset, .unset] [])) (fun _ k_ => XS.ifNo X3.here hx rfl (Jvm.hb hby at_41) rfl ((if0 _ _).trans (teq q0).2) k_) ?_
    refine own_go (t' := T3.setTop (mkF m 45 #[.val (.long p0), .second, .val (.long p1), .second, .val (.int p2), .val (.int p3), .val (.long B), .second, .val (.long M), .second, .val (.int U), .val (.int (p3 &&& (3 : Int32))), .unset, .unset, .unset, .unset, .unset, .unset, .unset, .unset, .unset, .unset, .unset, .unset] [(.double (0 : UInt64))])) (fun _ k_ => XS.dconst0 X3.here hx rfl (Jvm.hb hby at_44) rfl k_) ?_
    refine own_go (t' := T3.setTop (mkF m 47 #[.val (.long p0), .second, .val (.long p1), .second, .val (.int p2), .val (.int p3), .val (.long B), .second, .val (.long M), .second, .val (.int U), .val (.int (p3 &&& (3 : Int32))), .val (.double (0 : UInt64)), .second, .unset, .unset, .unset, .unset, .unset, .unset, .unset, .unset, .unset, .unset] [])) (fun _ k_ => XS.dstore X3.here hx rfl (Jvm.hb hby at_45) rfl (l' := #[.val (.long p0), .second, .val (.long p1), .second, .val (.int p2), .val (.int p3), .val (.long B), .second, .val (.long M), .second, .val (.int U), .val (.int (p3 &&& (3 : Int32))), .val (.double (0 : UInt64)), .second, .unset, .unset, .unset, .unset, .unset, .unset, .unset, .unset, .unset, .unset]) rfl k_) ?_
    refine own_go (t' := T3.setTop (mkF m 48 #[.val (.long p0), .second, .val (.long p1), .second, .val (.int p2), .val (.int p3), .val (.long B), .second, .val (.long M), .second, .val (.int U), .val (.int (p3 &&& (3 : Int32))), .val (.double (0 : UInt64)), .second, .unset, .unset, .unset, .unset, .unset, .unset, .unset, .unset, .unset, .unset] [(.int (-1 : Int32))])) (fun _ k_ => XS.iconst X3.here hx rfl (Jvm.hb hby at_47) k_) ?_
    refine own_go (t' := T3.setTop (mkF m 50 #[.val (.long p0), .second, .val (.long p1), .second, .val (.int p2), .val (.int p3), .val (.long B), .second, .val (.long M), .second, .val (.int U), .val (.int (p3 &&& (3 : Int32))), .val (.double (0 : UInt64)), .second, .val (.int (-1 : Int32)), .unset, .unset, .unset, .unset, .unset, .unset, .unset, .unset, .unset] [])) (fun _ k_ => XS.istore X3.here hx rfl (Jvm.hb hby at_48) rfl (l' := #[.val (.long p0), .second, .val (.long p1), .second, .val (.int p2), .val (.int p3), .val (.long B), .second, .val (.long M), .second, .val (.int U), .val (.int (p3 &&& (3 : Int32))), .val (.double (0 : UInt64)), .second, .val (.int (-1 : Int32)), .unset, .unset, .unset, .unset, .unset, .unset, .unset, .unset, .unset]) rfl k_) ?_
    refine own_go (t' := T3.setTop (mkF m 93 #[.val (.long p0), .second, .val (.long p1), .second, .val (.int p2), .val (.int p3), .val (.long B), .second, .val (.long M), .second, .val (.int U), .val (.int (p3 &&& (3 : Int32))), .val (.double (0 : UInt64)), .second, .val (.int (-1 : Int32)), .unset, .unset, .unset, .unset, .unset, .unset, .unset, .unset, .unset] [])) (fun _ k_ => XS.goto X3.here hx rfl (pc0 := 50) (pc' := 93) rfl (Jvm.hb hby at_50) (by decide) (by decide) k_) ?_
    exact J93 _ _ (Or.inl ⟨rfl, rfl⟩)
  ·
    refine own_go (t' := T3.setTop (mkF m 53 #[.val (.long p0), .second, .val (.long p1), .second, .val (.int p2), .val (.int p3), .val (.long B), .second, .val (.long M), .second, .val (.int U), .val (.int (p3 &&& (3 : Int32))), .unset, .unset, .unset, .unset, .unset, .unset, .unset, .unset, .unset, .unset, .unset, .unset] [])) (fun _ k_ => XS.ifYes X3.here hx rfl (pc0 := 41) (pc' := 53) rfl (Jvm.hb hby at_41) rfl ((if0 _ _).trans (feq q0).2) (by decide) (by decide) k_) ?_
    refine own_go (t' := T3.setTop (mkF m 55 #[.val (.long p0), .second, .val (.long p1), .second, .val (.int p2), .val (.int p3), .val (.long B), .second, .val (.long M), .second, .val (.int U), .val (.int (p3 &&& (3 : Int32))), .unset, .unset, .unset, .unset, .unset, .unset, .unset, .unset, .unset, .unset, .unset, .unset] [(.int (p3 &&& (3 : Int32)))])) (fun _ k_ => XS.iload X3.here hx rfl (Jvm.hb hby at_53) rfl k_) ?_
    refine own_go (t' := T3.setTop (mkF m 56 #[.val (.long p0), .second, .val (.long p1), .second, .val (.int p2), .val (.int p3), .val (.long B), .second, .val (.long M), .second, .val (.int U), .val (.int (p3 &&& (3 : Int32))), .unset, .unset, .unset, .unset, .unset, .unset, .unset, .unset, .unset, .unset, .unset, .unset] [(.int (1 : Int32)), (.int (p3 &&& (3 : Int32)))])) (fun _ k_ => XS.iconst X3.here hx rfl (Jvm.hb hby at_55) k_) ?_
    by_cases q1 : (p3 &&& (3 : Int32)) = 1
    ·
      refine own_go (t' := T3.setTop (mkF m 59 #[.val (.long p0), .second, .val (.long p1), .second, .val (.int p2), .val (.int p3), .val (.long B), .second, .val (.long M), .second, .val (.int U), .val (.int (p3 &&& (3 : Int32))), .unset, .unset, .unset, .unset, .unset, .unset, .unset, .unset, .unset, .unset, .unset, .unset] [])) (fun _ k_ => XS.icmpNo X3.here hx rfl (Jvm.hb hby at_56) rfl (teq q1).2 k_) ?_
      refine own_go (t' := T3.setTop (mkF m 62 #[.val (.long p0), .second, .val (.long p1), .second, .val (.int p2), .val (.int p3), .val (.long B), .second, .val (.long M), .second, .val (.int U), .val (.int (p3 &&& (3 : Int32))), .unset, .unset, .unset, .unset, .unset, .unset, .unset, .unset, .unset, .unset, .unset, .unset] [(.double (4598175219545276416 : UInt64))])) (X3.ldc2DoubleC hx (own := "com/example/tombsweep/tombsweep/RetriesWaitMsPinLaw") (index := 21) (b := (4598175219545276416 : UInt64)) hown (mvT hZ (hw _ (List.mem_of_getElem? (i := 50) rfl))) (g := (mkF m 59 #[.val (.long p0), .second, .val (.long p1), .second, .val (.int p2), .val (.int p3), .val (.long B), .second, .val (.long M), .second, .val (.int U), .val (.int (p3 &&& (3 : Int32))), .unset, .unset, .unset, .unset, .unset, .unset, .unset, .unset, .unset, .unset, .unset, .unset] [])) rfl (Jvm.hb hby at_59)) ?_
      refine own_go (t' := T3.setTop (mkF m 64 #[.val (.long p0), .second, .val (.long p1), .second, .val (.int p2), .val (.int p3), .val (.long B), .second, .val (.long M), .second, .val (.int U), .val (.int (p3 &&& (3 : Int32))), .val (.double (4598175219545276416 : UInt64)), .second, .unset, .unset, .unset, .unset, .unset, .unset, .unset, .unset, .unset, .unset] [])) (fun _ k_ => XS.dstore X3.here hx rfl (Jvm.hb hby at_62) rfl (l' := #[.val (.long p0), .second, .val (.long p1), .second, .val (.int p2), .val (.int p3), .val (.long B), .second, .val (.long M), .second, .val (.int U), .val (.int (p3 &&& (3 : Int32))), .val (.double (4598175219545276416 : UInt64)), .second, .unset, .unset, .unset, .unset, .unset, .unset, .unset, .unset, .unset, .unset]) rfl k_) ?_
      refine own_go (t' := T3.setTop (mkF m 65 #[.val (.long p0), .second, .val (.long p1), .second, .val (.int p2), .val (.int p3), .val (.long B), .second, .val (.long M), .second, .val (.int U), .val (.int (p3 &&& (3 : Int32))), .val (.double (4598175219545276416 : UInt64)), .second, .unset, .unset, .unset, .unset, .unset, .unset, .unset, .unset, .unset, .unset] [(.int (4 : Int32))])) (fun _ k_ => XS.iconst X3.here hx rfl (Jvm.hb hby at_64) k_) ?_
      refine own_go (t' := T3.setTop (mkF m 67 #[.val (.long p0), .second, .val (.long p1), .second, .val (.int p2), .val (.int p3), .val (.long B), .second, .val (.long M), .second, .val (.int U), .val (.int (p3 &&& (3 : Int32))), .val (.double (4598175219545276416 : UInt64)), .second, .val (.int (4 : Int32)), .unset, .unset, .unset, .unset, .unset, .unset, .unset, .unset, .unset] [])) (fun _ k_ => XS.istore X3.here hx rfl (Jvm.hb hby at_65) rfl (l' := #[.val (.long p0), .second, .val (.long p1), .second, .val (.int p2), .val (.int p3), .val (.long B), .second, .val (.long M), .second, .val (.int U), .val (.int (p3 &&& (3 : Int32))), .val (.double (4598175219545276416 : UInt64)), .second, .val (.int (4 : Int32)), .unset, .unset, .unset, .unset, .unset, .unset, .unset, .unset, .unset]) rfl k_) ?_
      refine own_go (t' := T3.setTop (mkF m 93 #[.val (.long p0), .second, .val (.long p1), .second, .val (.int p2), .val (.int p3), .val (.long B), .second, .val (.long M), .second, .val (.int U), .val (.int (p3 &&& (3 : Int32))), .val (.double (4598175219545276416 : UInt64)), .second, .val (.int (4 : Int32)), .unset, .unset, .unset, .unset, .unset, .unset, .unset, .unset, .unset] [])) (fun _ k_ => XS.goto X3.here hx rfl (pc0 := 67) (pc' := 93) rfl (Jvm.hb hby at_67) (by decide) (by decide) k_) ?_
      exact J93 _ _ (Or.inr (Or.inl ⟨rfl, rfl⟩))
    ·
      refine own_go (t' := T3.setTop (mkF m 70 #[.val (.long p0), .second, .val (.long p1), .second, .val (.int p2), .val (.int p3), .val (.long B), .second, .val (.long M), .second, .val (.int U), .val (.int (p3 &&& (3 : Int32))), .unset, .unset, .unset, .unset, .unset, .unset, .unset, .unset, .unset, .unset, .unset, .unset] [])) (fun _ k_ => XS.icmpYes X3.here hx rfl (pc0 := 56) (pc' := 70) rfl (Jvm.hb hby at_56) rfl (feq q1).2 (by decide) (by decide) k_) ?_
      refine own_go (t' := T3.setTop (mkF m 72 #[.val (.long p0), .second, .val (.long p1), .second, .val (.int p2), .val (.int p3), .val (.long B), .second, .val (.long M), .second, .val (.int U), .val (.int (p3 &&& (3 : Int32))), .unset, .unset, .unset, .unset, .unset, .unset, .unset, .unset, .unset, .unset, .unset, .unset] [(.int (p3 &&& (3 : Int32)))])) (fun _ k_ => XS.iload X3.here hx rfl (Jvm.hb hby at_70) rfl k_) ?_
      refine own_go (t' := T3.setTop (mkF m 73 #[.val (.long p0), .second, .val (.long p1), .second, .val (.int p2), .val (.int p3), .val (.long B), .second, .val (.long M), .second, .val (.int U), .val (.int (p3 &&& (3 : Int32))), .unset, .unset, .unset, .unset, .unset, .unset, .unset, .unset, .unset, .unset, .unset, .unset] [(.int (2 : Int32)), (.int (p3 &&& (3 : Int32)))])) (fun _ k_ => XS.iconst X3.here hx rfl (Jvm.hb hby at_72) k_) ?_
      by_cases q2 : (p3 &&& (3 : Int32)) = 2
      ·
        refine own_go (t' := T3.setTop (mkF m 76 #[.val (.long p0), .second, .val (.long p1), .second, .val (.int p2), .val (.int p3), .val (.long B), .second, .val (.long M), .second, .val (.int U), .val (.int (p3 &&& (3 : Int32))), .unset, .unset, .unset, .unset, .unset, .unset, .unset, .unset, .unset, .unset, .unset, .unset] [])) (fun _ k_ => XS.icmpNo X3.here hx rfl (Jvm.hb hby at_73) rfl (teq q2).2 k_) ?_
        refine own_go (t' := T3.setTop (mkF m 79 #[.val (.long p0), .second, .val (.long p1), .second, .val (.int p2), .val (.int p3), .val (.long B), .second, .val (.long M), .second, .val (.int U), .val (.int (p3 &&& (3 : Int32))), .unset, .unset, .unset, .unset, .unset, .unset, .unset, .unset, .unset, .unset, .unset, .unset] [(.double (4602678819172646912 : UInt64))])) (X3.ldc2DoubleC hx (own := "com/example/tombsweep/tombsweep/RetriesWaitMsPinLaw") (index := 23) (b := (4602678819172646912 : UInt64)) hown (mvT hZ (hw _ (List.mem_of_getElem? (i := 48) rfl))) (g := (mkF m 76 #[.val (.long p0), .second, .val (.long p1), .second, .val (.int p2), .val (.int p3), .val (.long B), .second, .val (.long M), .second, .val (.int U), .val (.int (p3 &&& (3 : Int32))), .unset, .unset, .unset, .unset, .unset, .unset, .unset, .unset, .unset, .unset, .unset, .unset] [])) rfl (Jvm.hb hby at_76)) ?_
        refine own_go (t' := T3.setTop (mkF m 81 #[.val (.long p0), .second, .val (.long p1), .second, .val (.int p2), .val (.int p3), .val (.long B), .second, .val (.long M), .second, .val (.int U), .val (.int (p3 &&& (3 : Int32))), .val (.double (4602678819172646912 : UInt64)), .second, .unset, .unset, .unset, .unset, .unset, .unset, .unset, .unset, .unset, .unset] [])) (fun _ k_ => XS.dstore X3.here hx rfl (Jvm.hb hby at_79) rfl (l' := #[.val (.long p0), .second, .val (.long p1), .second, .val (.int p2), .val (.int p3), .val (.long B), .second, .val (.long M), .second, .val (.int U), .val (.int (p3 &&& (3 : Int32))), .val (.double (4602678819172646912 : UInt64)), .second, .unset, .unset, .unset, .unset, .unset, .unset, .unset, .unset, .unset, .unset]) rfl k_) ?_
        refine own_go (t' := T3.setTop (mkF m 82 #[.val (.long p0), .second, .val (.long p1), .second, .val (.int p2), .val (.int p3), .val (.long B), .second, .val (.long M), .second, .val (.int U), .val (.int (p3 &&& (3 : Int32))), .val (.double (4602678819172646912 : UInt64)), .second, .unset, .unset, .unset, .unset, .unset, .unset, .unset, .unset, .unset, .unset] [(.int (3 : Int32))])) (fun _ k_ => XS.iconst X3.here hx rfl (Jvm.hb hby at_81) k_) ?_
        refine own_go (t' := T3.setTop (mkF m 84 #[.val (.long p0), .second, .val (.long p1), .second, .val (.int p2), .val (.int p3), .val (.long B), .second, .val (.long M), .second, .val (.int U), .val (.int (p3 &&& (3 : Int32))), .val (.double (4602678819172646912 : UInt64)), .second, .val (.int (3 : Int32)), .unset, .unset, .unset, .unset, .unset, .unset, .unset, .unset, .unset] [])) (fun _ k_ => XS.istore X3.here hx rfl (Jvm.hb hby at_82) rfl (l' := #[.val (.long p0), .second, .val (.long p1), .second, .val (.int p2), .val (.int p3), .val (.long B), .second, .val (.long M), .second, .val (.int U), .val (.int (p3 &&& (3 : Int32))), .val (.double (4602678819172646912 : UInt64)), .second, .val (.int (3 : Int32)), .unset, .unset, .unset, .unset, .unset, .unset, .unset, .unset, .unset]) rfl k_) ?_
        refine own_go (t' := T3.setTop (mkF m 93 #[.val (.long p0), .second, .val (.long p1), .second, .val (.int p2), .val (.int p3), .val (.long B), .second, .val (.long M), .second, .val (.int U), .val (.int (p3 &&& (3 : Int32))), .val (.double (4602678819172646912 : UInt64)), .second, .val (.int (3 : Int32)), .unset, .unset, .unset, .unset, .unset, .unset, .unset, .unset, .unset] [])) (fun _ k_ => XS.goto X3.here hx rfl (pc0 := 84) (pc' := 93) rfl (Jvm.hb hby at_84) (by decide) (by decide) k_) ?_
        exact J93 _ _ (Or.inr (Or.inr (Or.inl ⟨rfl, rfl⟩)))
      ·
        refine own_go (t' := T3.setTop (mkF m 87 #[.val (.long p0), .second, .val (.long p1), .second, .val (.int p2), .val (.int p3), .val (.long B), .second, .val (.long M), .second, .val (.int U), .val (.int (p3 &&& (3 : Int32))), .unset, .unset, .unset, .unset, .unset, .unset, .unset, .unset, .unset, .unset, .unset, .unset] [])) (fun _ k_ => XS.icmpYes X3.here hx rfl (pc0 := 73) (pc' := 87) rfl (Jvm.hb hby at_73) rfl (feq q2).2 (by decide) (by decide) k_) ?_
        refine own_go (t' := T3.setTop (mkF m 88 #[.val (.long p0), .second, .val (.long p1), .second, .val (.int p2), .val (.int p3), .val (.long B), .second, .val (.long M), .second, .val (.int U), .val (.int (p3 &&& (3 : Int32))), .unset, .unset, .unset, .unset, .unset, .unset, .unset, .unset, .unset, .unset, .unset, .unset] [(.double (4607182418800017408 : UInt64))])) (fun _ k_ => XS.dconst1 X3.here hx rfl (Jvm.hb hby at_87) rfl k_) ?_
        refine own_go (t' := T3.setTop (mkF m 90 #[.val (.long p0), .second, .val (.long p1), .second, .val (.int p2), .val (.int p3), .val (.long B), .second, .val (.long M), .second, .val (.int U), .val (.int (p3 &&& (3 : Int32))), .val (.double (4607182418800017408 : UInt64)), .second, .unset, .unset, .unset, .unset, .unset, .unset, .unset, .unset, .unset, .unset] [])) (fun _ k_ => XS.dstore X3.here hx rfl (Jvm.hb hby at_88) rfl (l' := #[.val (.long p0), .second, .val (.long p1), .second, .val (.int p2), .val (.int p3), .val (.long B), .second, .val (.long M), .second, .val (.int U), .val (.int (p3 &&& (3 : Int32))), .val (.double (4607182418800017408 : UInt64)), .second, .unset, .unset, .unset, .unset, .unset, .unset, .unset, .unset, .unset, .unset]) rfl k_) ?_
        refine own_go (t' := T3.setTop (mkF m 91 #[.val (.long p0), .second, .val (.long p1), .second, .val (.int p2), .val (.int p3), .val (.long B), .second, .val (.long M), .second, .val (.int U), .val (.int (p3 &&& (3 : Int32))), .val (.double (4607182418800017408 : UInt64)), .second, .unset, .unset, .unset, .unset, .unset, .unset, .unset, .unset, .unset, .unset] [(.int (2 : Int32))])) (fun _ k_ => XS.iconst X3.here hx rfl (Jvm.hb hby at_90) k_) ?_
        refine own_go (t' := T3.setTop (mkF m 93 #[.val (.long p0), .second, .val (.long p1), .second, .val (.int p2), .val (.int p3), .val (.long B), .second, .val (.long M), .second, .val (.int U), .val (.int (p3 &&& (3 : Int32))), .val (.double (4607182418800017408 : UInt64)), .second, .val (.int (2 : Int32)), .unset, .unset, .unset, .unset, .unset, .unset, .unset, .unset, .unset] [])) (fun _ k_ => XS.istore X3.here hx rfl (Jvm.hb hby at_91) rfl (l' := #[.val (.long p0), .second, .val (.long p1), .second, .val (.int p2), .val (.int p3), .val (.long B), .second, .val (.long M), .second, .val (.int U), .val (.int (p3 &&& (3 : Int32))), .val (.double (4607182418800017408 : UInt64)), .second, .val (.int (2 : Int32)), .unset, .unset, .unset, .unset, .unset, .unset, .unset, .unset, .unset]) rfl k_) ?_
        exact J93 _ _ (Or.inr (Or.inr (Or.inr ⟨rfl, rfl⟩)))
set_option maxRecDepth 65536 in
set_option maxHeartbeats 40000000 in
theorem comes_1 {Post : Tables → Env → Array Value → State → Outcome → State → Prop} (hpost : ∀ tb e args s v u, (limb_1_1.after args s (.returned v) u = true ∧ limb_1_2.after args s (.returned v) u = true ∧ True) → FrameEnd s (.returned v) u (Jvm.fieldLocs frame_1_writes args s ++ Jvm.arrayLocs frame_1_arrays args s ++ Jvm.staticLocs frame_1_statics s) 16 128 → Post tb e args s (.returned v) u) :
    ArmFor flags0 classFile x code maxLocals ret World_1 tables_1 room_1 Calls_1 rest_1 Pre_1 Post := by
  intro l hfl _ _ p e ha hc hk s m args below hf hA hF happ hP
  obtain ⟨hcalls, hrest, hpre⟩ := hP
  obtain ⟨-, -, -, hnamed, -, -, -, hat⟩ := (Spec.applies_iff hf).mp happ
  obtain ⟨hg, hn⟩ := and_e (Cond.before_iff.mp (show (Jvm.Cond.and given_1 narrow_1).before args s = true from hpre))
  obtain ⟨h1, g0⟩ := and_e hg
  obtain ⟨k0, g1⟩ := and_e g0
  obtain ⟨k1, g2⟩ := and_e g1
  obtain ⟨k2, g3⟩ := and_e g2
  have k3 := g3
  obtain ⟨w0, w1, w2, w3, rfl⟩ : ∃ w0 w1 w2 w3 : Value, args = #[w0, w1, w2, w3] := by
    have hs : args.size = 4 := by simpa [Cond.value, given_1] using h1
    obtain ⟨L⟩ := args
    match L, hs with
    | [w0, w1, w2, w3], _ => exact ⟨w0, w1, w2, w3, rfl⟩
  have hw := fun d (hd : d ∈ tables_1) => atoms_spec (ws := Jvm.Cond.code x code maxLocals ret :: tables_1) hat d (List.mem_cons_of_mem _ hd)
  have hfit : Fit s := fun {y c} hc i hi => by
    obtain ⟨ha, rfl⟩ := Array.getElem?_eq_some_iff.mp hc
    have q := List.all_eq_true.mp ((Array.all_eq_true_iff_forall_mem.mp hF) _ (Array.getElem_mem ha)) i (List.mem_range.mpr hi)
    simpa [Array.getElem?_eq_getElem hi] using q
  obtain ⟨i0, e0⟩ := isL_v k0
  obtain rfl : w0 = (.long i0) := Option.some.inj e0
  obtain ⟨i1, e1⟩ := isL_v k1
  obtain rfl : w1 = (.long i1) := Option.some.inj e1
  obtain ⟨i2, e2⟩ := is_v k2
  obtain rfl : w2 = (.int i2) := Option.some.inj e2
  obtain ⟨i3, e3⟩ := is_v k3
  obtain rfl : w3 = (.int i3) := Option.some.inj e3
  obtain ⟨n, o, q1, q2, q3, _, L, rfl, ⟨rfl, N⟩, hq⟩ := rm_law l s _ hw tables_1 i0 i1 i2 i3 s.heap s.heap.size (Nat.le_refl _)  p e ha hc hk s m _ below hf ((Spec.applies_iff_loose hf).mp happ).1 ⟨rfl, State.Warmed39.refl s, rfl⟩ trivial
  refine ⟨n, _, q1, q2, q3, hpost _ _ _ _ _ _ ⟨Cond.after_iff.mpr rfl, Cond.after_iff.mpr (eq_i res_at (Term.int_eval (1)) rfl), trivial⟩ ⟨hq.1, hq.2.1, (hq.2.2.sift fun y hy => Or.inr (N y hy)).mono (by decide) (by decide)⟩⟩
theorem main_1_1 : Claimed_1_1 := comes_1 fun _ _ _ _ _ _ h hF => ⟨h.1, hF⟩
theorem main_1_2 : Claimed_1_2 := comes_1 fun _ _ _ _ _ _ h hF => ⟨h.2.1, hF⟩
end Jvm.Pilot.@@N@@
namespace Jvm.Pilot.@@N@@
open Jvm Jvm.ClassFile Sem Op Lib Jvm.Free Jvm.Stand Jvm.Pilot.@@N@@.Jvm.D
/-! MADE BY PROGRAM (witnessworld.py) out of the Statement's table words and the real class files: 16 classes; the members and pool entries that the words name. The judged class is class 1, her method 1. -/
namespace start1
open Jvm.ClassFile
def u (s : String) : CpInfo := .utf8 (stringToUtf16 s)
/-- a pool by its gaps: so many unusable entries, then the entry; so many at the end -/
def gap : Nat → List CpInfo → List CpInfo
  | 0, r => r
  | n + 1, r => .unusable :: gap n r
def poolList (es : List (Nat × CpInfo)) (last : Nat) : List CpInfo := es.foldr (fun e r => gap e.1 (e.2 :: r)) (gap last [])
def pool (es : List (Nat × CpInfo)) (last : Nat) : Array CpInfo := ⟨poolList es last⟩
def fileOf (pool : Array CpInfo) (this : Nat) (attrs : Array Attribute := #[]) (ms : Array MethodInfo := #[]) (fl : Nat := 33) (sup : Nat := 0) (ifs : Array Nat := #[]) (fds : Array FieldInfo := #[]) : ClassFile where
  minorVersion := 0
  majorVersion := 65
  constantPool := pool
  accessFlags := fl
  thisClass := this
  superClass := sup
  interfaces := ifs
  fields := fds
  methods := ms
  attributes := attrs
def plain (name : String) (sup : Option ClassId) : Class where
  name := name
  kind := .ordinary
  loader := none
  accessFlags := 33
  super := sup
  interfaces := #[]
  cf := none
  fields := #[]
  methods := #[]
  instanceTypes := #[]
  staticTypes := #[]
  resolved := #[]
  callSites := []
  init := .initialized
  statics := none
  mirror := none

def pool0 : Array CpInfo := pool [(5, u "<init>"), (0, u "()V"), (1, .class_ 10), (1, u "java/lang/Object")] 113

def k0c0 : Code := { maxStack := 0, maxLocals := 1, code := object_method_1_code, exceptionTable := #[], attributes := #[] }
def k0m0 : Method := { name := "<init>", desc := "()V", sig := { parameters := [], returnType := none }, accessFlags := 1, code := some k0c0 }
/-- java/lang/Object -/
def k0 : Class := { plain "java/lang/Object" none with
  accessFlags := 33
  interfaces := #[]
  cf := some (fileOf pool0 8 #[] #[{ accessFlags := 1, nameIndex := 5, descriptorIndex := 6, attributes := #[] }] 33 0 #[] #[])
  fields := #[]
  methods := #[k0m0]
  instanceTypes := #[]
  staticTypes := #[]
  resolved := Array.replicate 124 none
  statics := none }

def pool1 : Array CpInfo := pool [(2, .class_ 4), (1, u "java/lang/Object"), (0, u "<init>"), (0, u "()V"), (2, .long 9223372036854775807), (1, .methodref 12 13), (0, .class_ 14), (0, .nameAndType 15 16), (0, u "java/lang/Math"), (0, u "max"), (0, u "(JJ)J"), (0, .integer 2147483647), (0, .methodref 12 19), (0, .nameAndType 15 20), (0, u "(II)I"), (0, .double 4598175219545276416), (1, .double 4602678819172646912), (1, .class_ 26), (0, u "com/example/tombsweep/tombsweep/Retries"), (0, .methodref 25 28), (0, .nameAndType 5 29), (0, u "(IJJ)V"), (0, .methodref 25 31), (0, .nameAndType 32 33), (0, u "waitMs"), (0, u "(ID)J"), (0, .methodref 35 36), (0, .class_ 37), (0, .nameAndType 38 39), (0, u "com/example/tombsweep/tombsweep/RetriesWaitMsPinLaw"), (0, u "refDelay"), (0, u "(JJI)J"), (0, .long 9007199254740992), (1, .long 128), (1, .methodref 12 45), (0, .nameAndType 46 16), (0, u "min"), (2, u "law"), (0, u "(JJII)Z")] 3

def k1m0 : Method := { name := "<init>", desc := "()V", sig := { parameters := [], returnType := none }, accessFlags := 1, code := none }
def k1c1 : Code := { maxStack := 7, maxLocals := 24, code := code, exceptionTable := #[], attributes := #[] }
def k1m1 : Method := { name := "law", desc := "(JJII)Z", sig := { parameters := [.long, .long, .int, .int], returnType := some .boolean }, accessFlags := 9, code := some k1c1 }
def k1c2 : Code := { maxStack := 5, maxLocals := 5, code := method_3_code, exceptionTable := #[], attributes := #[] }
def k1m2 : Method := { name := "refDelay", desc := "(JJI)J", sig := { parameters := [.long, .long, .int], returnType := some .long }, accessFlags := 10, code := some k1c2 }
/-- com/example/tombsweep/tombsweep/RetriesWaitMsPinLaw -/
def k1 : Class := { plain "com/example/tombsweep/tombsweep/RetriesWaitMsPinLaw" (some 0) with
  accessFlags := 49
  interfaces := #[]
  cf := some (fileOf pool1 35 #[] #[{ accessFlags := 1, nameIndex := 5, descriptorIndex := 6, attributes := #[] }, { accessFlags := 9, nameIndex := 49, descriptorIndex := 50, attributes := #[] }, { accessFlags := 10, nameIndex := 38, descriptorIndex := 39, attributes := #[] }] 49 2 #[] #[])
  fields := #[]
  methods := #[k1m0, k1m1, k1m2]
  instanceTypes := #[]
  staticTypes := #[]
  resolved := Array.replicate 54 none
  statics := none }

def pool2 : Array CpInfo := pool [(1, .class_ 2), (0, u "java/lang/Math"), (1, .class_ 6), (1, u "java/lang/Object"), (0, u "<init>"), (0, u "()V"), (89, .class_ 100), (1, u "java/lang/Math$RandomNumberGeneratorHolder"), (20, u "(JJ)J"), (50, u "negativeZeroFloatBits"), (0, u "J"), (2, u "negativeZeroDoubleBits"), (21, u "max"), (2, u "min"), (43, u "$assertionsDisabled"), (0, u "Z"), (88, u "(II)I"), (2, u "twoToTheDoubleScaleDown"), (0, u "D"), (4, u "twoToTheDoubleScaleUp"), (9, u "E"), (3, u "PI"), (2, u "TAU"), (2, u "DEGREES_TO_RADIANS"), (0, u "RADIANS_TO_DEGREES")] 94

def k2m0 : Method := { name := "<init>", desc := "()V", sig := { parameters := [], returnType := none }, accessFlags := 2, code := none }
def k2c1 : Code := { maxStack := 2, maxLocals := 2, code := jdk_29_method_65_code, exceptionTable := #[], attributes := #[] }
def k2m1 : Method := { name := "max", desc := "(II)I", sig := { parameters := [.int, .int], returnType := some .int }, accessFlags := 9, code := some k2c1 }
def k2c2 : Code := { maxStack := 4, maxLocals := 4, code := jdk_29_method_66_code, exceptionTable := #[], attributes := #[] }
def k2m2 : Method := { name := "max", desc := "(JJ)J", sig := { parameters := [.long, .long], returnType := some .long }, accessFlags := 9, code := some k2c2 }
def k2c3 : Code := { maxStack := 4, maxLocals := 4, code := jdk_29_method_70_code, exceptionTable := #[], attributes := #[] }
def k2m3 : Method := { name := "min", desc := "(JJ)J", sig := { parameters := [.long, .long], returnType := some .long }, accessFlags := 9, code := some k2c3 }
/-- java/lang/Math -/
def k2 : Class := { plain "java/lang/Math" (some 0) with
  accessFlags := 49
  interfaces := #[]
  cf := some (fileOf pool2 1 #[.nestMembers #[98]] #[{ accessFlags := 2, nameIndex := 7, descriptorIndex := 8, attributes := #[] }, { accessFlags := 9, nameIndex := 198, descriptorIndex := 335, attributes := #[] }, { accessFlags := 9, nameIndex := 198, descriptorIndex := 121, attributes := #[] }, { accessFlags := 9, nameIndex := 201, descriptorIndex := 121, attributes := #[] }] 49 4 #[] #[{ accessFlags := 25, nameIndex := 354, descriptorIndex := 339, attributes := #[] }, { accessFlags := 25, nameIndex := 358, descriptorIndex := 339, attributes := #[] }, { accessFlags := 25, nameIndex := 361, descriptorIndex := 339, attributes := #[] }, { accessFlags := 26, nameIndex := 364, descriptorIndex := 339, attributes := #[] }, { accessFlags := 26, nameIndex := 365, descriptorIndex := 339, attributes := #[] }, { accessFlags := 26, nameIndex := 172, descriptorIndex := 173, attributes := #[] }, { accessFlags := 26, nameIndex := 176, descriptorIndex := 173, attributes := #[] }, { accessFlags := 8, nameIndex := 344, descriptorIndex := 339, attributes := #[] }, { accessFlags := 8, nameIndex := 338, descriptorIndex := 339, attributes := #[] }, { accessFlags := 4120, nameIndex := 245, descriptorIndex := 246, attributes := #[] }])
  fields := #[{ name := "E", type := .double, accessFlags := 25, slot := 0, constantValue := 0 }, { name := "PI", type := .double, accessFlags := 25, slot := 1, constantValue := 0 }, { name := "TAU", type := .double, accessFlags := 25, slot := 2, constantValue := 0 }, { name := "DEGREES_TO_RADIANS", type := .double, accessFlags := 26, slot := 3, constantValue := 0 }, { name := "RADIANS_TO_DEGREES", type := .double, accessFlags := 26, slot := 4, constantValue := 0 }, { name := "negativeZeroFloatBits", type := .long, accessFlags := 26, slot := 5, constantValue := 0 }, { name := "negativeZeroDoubleBits", type := .long, accessFlags := 26, slot := 6, constantValue := 0 }, { name := "twoToTheDoubleScaleUp", type := .double, accessFlags := 8, slot := 7, constantValue := 0 }, { name := "twoToTheDoubleScaleDown", type := .double, accessFlags := 8, slot := 8, constantValue := 0 }, { name := "$assertionsDisabled", type := .boolean, accessFlags := 4120, slot := 9, constantValue := 0 }]
  methods := #[k2m0, k2m1, k2m2, k2m3]
  instanceTypes := #[]
  staticTypes := #[.double, .double, .double, .double, .double, .long, .long, .double, .double, .boolean]
  resolved := Array.replicate 460 none
  statics := none }

def pool3 : Array CpInfo := pool [(1, .methodref 2 3), (0, .class_ 4), (0, .nameAndType 5 6), (0, u "java/lang/Object"), (0, u "<init>"), (0, u "()V"), (9, .fieldref 17 18), (0, .class_ 19), (0, .nameAndType 20 21), (0, u "com/example/tombsweep/tombsweep/Retries"), (0, u "maxAttempts"), (0, u "I"), (0, .fieldref 17 23), (0, .nameAndType 24 25), (0, u "baseMs"), (0, u "J"), (0, .fieldref 17 27), (0, .nameAndType 28 25), (0, u "maxMs"), (0, .methodref 30 31), (0, .class_ 32), (0, .nameAndType 33 34), (0, u "java/lang/Long"), (0, u "numberOfLeadingZeros"), (0, u "(J)I"), (0, .methodref 36 37), (0, .class_ 38), (0, .nameAndType 39 40), (0, u "java/lang/Math"), (0, u "min"), (0, u "(JJ)J"), (0, .double 4616189618054758400), (7, u "(IJJ)V"), (2, u "DEFAULT"), (0, u "Lcom/example/tombsweep/tombsweep/Retries;"), (5, u "waitMs"), (0, u "(ID)J")] 18

def k3c0 : Code := { maxStack := 7, maxLocals := 6, code := prog_5_method_1_code, exceptionTable := #[], attributes := #[] }
def k3m0 : Method := { name := "<init>", desc := "(IJJ)V", sig := { parameters := [.int, .long, .long], returnType := none }, accessFlags := 0, code := some k3c0 }
def k3c1 : Code := { maxStack := 6, maxLocals := 7, code := prog_5_method_5_code, exceptionTable := #[], attributes := #[] }
def k3m1 : Method := { name := "waitMs", desc := "(ID)J", sig := { parameters := [.int, .double], returnType := some .long }, accessFlags := 0, code := some k3c1 }
/-- com/example/tombsweep/tombsweep/Retries -/
def k3 : Class := { plain "com/example/tombsweep/tombsweep/Retries" (some 0) with
  accessFlags := 48
  interfaces := #[]
  cf := some (fileOf pool3 17 #[] #[{ accessFlags := 0, nameIndex := 5, descriptorIndex := 49, attributes := #[] }, { accessFlags := 0, nameIndex := 59, descriptorIndex := 60, attributes := #[] }] 48 2 #[] #[{ accessFlags := 24, nameIndex := 52, descriptorIndex := 53, attributes := #[] }, { accessFlags := 18, nameIndex := 20, descriptorIndex := 21, attributes := #[] }, { accessFlags := 18, nameIndex := 24, descriptorIndex := 25, attributes := #[] }, { accessFlags := 18, nameIndex := 28, descriptorIndex := 25, attributes := #[] }])
  fields := #[{ name := "DEFAULT", type := (.object "com/example/tombsweep/tombsweep/Retries"), accessFlags := 24, slot := 0, constantValue := 0 }, { name := "maxAttempts", type := .int, accessFlags := 18, slot := 0, constantValue := 0 }, { name := "baseMs", type := .long, accessFlags := 18, slot := 1, constantValue := 0 }, { name := "maxMs", type := .long, accessFlags := 18, slot := 2, constantValue := 0 }]
  methods := #[k3m0, k3m1]
  instanceTypes := #[.int, .long, .long]
  staticTypes := #[(.object "com/example/tombsweep/tombsweep/Retries")]
  resolved := Array.replicate 79 none
  statics := none }

def pool4 : Array CpInfo := pool [(1, .class_ 2), (0, u "java/io/Serializable"), (0, .class_ 4), (0, u "java/lang/Object")] 2

/-- java/io/Serializable -/
def k4 : Class := { plain "java/io/Serializable" (some 0) with
  accessFlags := 1537
  interfaces := #[]
  cf := some (fileOf pool4 1 #[] #[] 1537 3 #[] #[])
  fields := #[]
  methods := #[]
  instanceTypes := #[]
  staticTypes := #[]
  resolved := Array.replicate 7 none
  statics := none }

def pool5 : Array CpInfo := pool [(2, .class_ 4), (1, u "java/lang/Object"), (0, u "<init>"), (0, u "()V"), (1, .class_ 10), (1, u "java/lang/Number"), (2, .class_ 14), (0, u "java/io/Serializable"), (0, u "serialVersionUID"), (0, u "J")] 20

def k5m0 : Method := { name := "<init>", desc := "()V", sig := { parameters := [], returnType := none }, accessFlags := 1, code := none }
/-- java/lang/Number -/
def k5 : Class := { plain "java/lang/Number" (some 0) with
  accessFlags := 1057
  interfaces := #[4]
  cf := some (fileOf pool5 8 #[] #[{ accessFlags := 1, nameIndex := 5, descriptorIndex := 6, attributes := #[] }] 1057 2 #[13] #[{ accessFlags := 26, nameIndex := 15, descriptorIndex := 16, attributes := #[] }])
  fields := #[{ name := "serialVersionUID", type := .long, accessFlags := 26, slot := 0, constantValue := 0 }]
  methods := #[k5m0]
  instanceTypes := #[]
  staticTypes := #[.long]
  resolved := Array.replicate 37 none
  statics := none }

def pool6 : Array CpInfo := pool [(1, .class_ 2), (0, u "java/lang/Comparable"), (0, .class_ 4), (0, u "java/lang/Object")] 7

/-- java/lang/Comparable -/
def k6 : Class := { plain "java/lang/Comparable" (some 0) with
  accessFlags := 1537
  interfaces := #[]
  cf := some (fileOf pool6 1 #[] #[] 1537 3 #[] #[])
  fields := #[]
  methods := #[]
  instanceTypes := #[]
  staticTypes := #[]
  resolved := Array.replicate 12 none
  statics := none }

def pool7 : Array CpInfo := pool [(1, .class_ 2), (0, u "java/lang/constant/Constable"), (0, .class_ 4), (0, u "java/lang/Object")] 6

/-- java/lang/constant/Constable -/
def k7 : Class := { plain "java/lang/constant/Constable" (some 0) with
  accessFlags := 1537
  interfaces := #[]
  cf := some (fileOf pool7 1 #[] #[] 1537 3 #[] #[])
  fields := #[]
  methods := #[]
  instanceTypes := #[]
  staticTypes := #[]
  resolved := Array.replicate 11 none
  statics := none }

def pool8 : Array CpInfo := pool [(1, .class_ 2), (0, u "java/lang/constant/ConstantDesc"), (0, .class_ 4), (0, u "java/lang/Object")] 32

/-- java/lang/constant/ConstantDesc -/
def k8 : Class := { plain "java/lang/constant/ConstantDesc" (some 0) with
  accessFlags := 1537
  interfaces := #[]
  cf := some (fileOf pool8 1 #[] #[] 1537 3 #[] #[])
  fields := #[]
  methods := #[]
  instanceTypes := #[]
  staticTypes := #[]
  resolved := Array.replicate 37 none
  statics := none }

def pool9 : Array CpInfo := pool [(1, .class_ 2), (0, u "java/lang/Long"), (15, .class_ 20), (1, u "java/lang/Integer"), (79, u "numberOfLeadingZeros"), (0, u "(J)I"), (133, .class_ 237), (1, u "java/lang/Long$LongCache"), (33, .class_ 272), (0, u "java/lang/Number"), (2, u "value"), (0, u "J"), (31, .methodref 18 309), (0, .nameAndType 100 310), (0, u "(I)I"), (50, u "TYPE"), (0, u "Ljava/lang/Class;"), (0, .class_ 364), (0, u "java/lang/Comparable"), (0, .class_ 366), (0, u "java/lang/constant/Constable"), (0, .class_ 368), (0, u "java/lang/constant/ConstantDesc"), (0, u "MIN_VALUE"), (1, u "MAX_VALUE"), (4, u "SIZE"), (0, u "I"), (1, u "BYTES"), (1, u "serialVersionUID")] 142

def k9c0 : Code := { maxStack := 3, maxLocals := 3, code := jdk_35_method_48_code, exceptionTable := #[], attributes := #[] }
def k9m0 : Method := { name := "numberOfLeadingZeros", desc := "(J)I", sig := { parameters := [.long], returnType := some .int }, accessFlags := 9, code := some k9c0 }
/-- java/lang/Long -/
def k9 : Class := { plain "java/lang/Long" (some 5) with
  accessFlags := 49
  interfaces := #[6, 7, 8]
  cf := some (fileOf pool9 1 #[.nestMembers #[235]] #[{ accessFlags := 9, nameIndex := 100, descriptorIndex := 101, attributes := #[] }] 49 271 #[363, 365, 367] #[{ accessFlags := 25, nameIndex := 369, descriptorIndex := 276, attributes := #[] }, { accessFlags := 25, nameIndex := 371, descriptorIndex := 276, attributes := #[] }, { accessFlags := 25, nameIndex := 361, descriptorIndex := 362, attributes := #[] }, { accessFlags := 18, nameIndex := 275, descriptorIndex := 276, attributes := #[] }, { accessFlags := 25, nameIndex := 376, descriptorIndex := 377, attributes := #[] }, { accessFlags := 25, nameIndex := 379, descriptorIndex := 377, attributes := #[] }, { accessFlags := 26, nameIndex := 381, descriptorIndex := 276, attributes := #[] }])
  fields := #[{ name := "MIN_VALUE", type := .long, accessFlags := 25, slot := 0, constantValue := 0 }, { name := "MAX_VALUE", type := .long, accessFlags := 25, slot := 1, constantValue := 0 }, { name := "TYPE", type := (.object "java/lang/Class"), accessFlags := 25, slot := 2, constantValue := 0 }, { name := "value", type := .long, accessFlags := 18, slot := 0, constantValue := 0 }, { name := "SIZE", type := .int, accessFlags := 25, slot := 3, constantValue := 0 }, { name := "BYTES", type := .int, accessFlags := 25, slot := 4, constantValue := 0 }, { name := "serialVersionUID", type := .long, accessFlags := 26, slot := 5, constantValue := 0 }]
  methods := #[k9m0]
  instanceTypes := #[.long]
  staticTypes := #[.long, .long, (.object "java/lang/Class"), .int, .int, .long]
  resolved := Array.replicate 524 none
  statics := none }

def pool10 : Array CpInfo := pool [(1, .class_ 2), (0, u "java/lang/Integer"), (16, u "digits"), (0, u "[C"), (32, u "numberOfLeadingZeros"), (0, u "(I)I"), (30, u "DigitOnes"), (0, u "[B"), (2, u "DigitTens"), (99, .class_ 190), (0, u "java/lang/Integer$IntegerCache"), (3, u "I"), (8, .class_ 204), (0, u "java/lang/Number"), (2, u "value"), (56, .integer 65536), (37, u "TYPE"), (0, u "Ljava/lang/Class;"), (0, .class_ 305), (0, u "java/lang/Comparable"), (0, .class_ 307), (0, u "java/lang/constant/Constable"), (0, .class_ 309), (0, u "java/lang/constant/ConstantDesc"), (0, u "MIN_VALUE"), (1, u "MAX_VALUE"), (3, u "SIZE"), (1, u "BYTES"), (1, u "serialVersionUID"), (0, u "J")] 131

def k10c0 : Code := { maxStack := 3, maxLocals := 2, code := jdk_33_method_47_code, exceptionTable := #[], attributes := #[] }
def k10m0 : Method := { name := "numberOfLeadingZeros", desc := "(I)I", sig := { parameters := [.int], returnType := some .int }, accessFlags := 9, code := some k10c0 }
/-- java/lang/Integer -/
def k10 : Class := { plain "java/lang/Integer" (some 5) with
  accessFlags := 49
  interfaces := #[6, 7, 8]
  cf := some (fileOf pool10 1 #[.nestMembers #[189]] #[{ accessFlags := 9, nameIndex := 53, descriptorIndex := 54, attributes := #[] }] 49 203 #[304, 306, 308] #[{ accessFlags := 25, nameIndex := 310, descriptorIndex := 194, attributes := #[] }, { accessFlags := 25, nameIndex := 312, descriptorIndex := 194, attributes := #[] }, { accessFlags := 25, nameIndex := 302, descriptorIndex := 303, attributes := #[] }, { accessFlags := 24, nameIndex := 19, descriptorIndex := 20, attributes := #[] }, { accessFlags := 24, nameIndex := 89, descriptorIndex := 86, attributes := #[] }, { accessFlags := 24, nameIndex := 85, descriptorIndex := 86, attributes := #[] }, { accessFlags := 18, nameIndex := 207, descriptorIndex := 194, attributes := #[] }, { accessFlags := 25, nameIndex := 316, descriptorIndex := 194, attributes := #[] }, { accessFlags := 25, nameIndex := 318, descriptorIndex := 194, attributes := #[] }, { accessFlags := 26, nameIndex := 320, descriptorIndex := 321, attributes := #[] }])
  fields := #[{ name := "MIN_VALUE", type := .int, accessFlags := 25, slot := 0, constantValue := 0 }, { name := "MAX_VALUE", type := .int, accessFlags := 25, slot := 1, constantValue := 0 }, { name := "TYPE", type := (.object "java/lang/Class"), accessFlags := 25, slot := 2, constantValue := 0 }, { name := "digits", type := (.array .char), accessFlags := 24, slot := 3, constantValue := 0 }, { name := "DigitTens", type := (.array .byte), accessFlags := 24, slot := 4, constantValue := 0 }, { name := "DigitOnes", type := (.array .byte), accessFlags := 24, slot := 5, constantValue := 0 }, { name := "value", type := .int, accessFlags := 18, slot := 0, constantValue := 0 }, { name := "SIZE", type := .int, accessFlags := 25, slot := 6, constantValue := 0 }, { name := "BYTES", type := .int, accessFlags := 25, slot := 7, constantValue := 0 }, { name := "serialVersionUID", type := .long, accessFlags := 26, slot := 8, constantValue := 0 }]
  methods := #[k10m0]
  instanceTypes := #[.int]
  staticTypes := #[.int, .int, (.object "java/lang/Class"), (.array .char), (.array .byte), (.array .byte), .int, .int, .long]
  resolved := Array.replicate 453 none
  statics := none }

def pool11 : Array CpInfo := pool [(1, u "java/lang/Cloneable"), (0, .class_ 1), (0, u "java/lang/Object"), (0, .class_ 3)] 3

/-- java/lang/Cloneable -/
def k11 : Class := { plain "java/lang/Cloneable" (some 0) with
  accessFlags := 1537
  interfaces := #[]
  cf := some (fileOf pool11 2 #[] #[] 1537 4 #[] #[])
  fields := #[]
  methods := #[]
  instanceTypes := #[]
  staticTypes := #[]
  resolved := Array.replicate 8 none
  statics := none }

/-- the primitive byte -/
def k12 : Class := { plain "byte" none with kind := .primitive 'B', accessFlags := 0x411 }
/-- [B -/
def k13 : Class := { plain "[B" (some 0) with kind := .array 12 .byte, interfaces := #[11, 4], accessFlags := 1041 }

/-- the primitive int -/
def k14 : Class := { plain "int" none with kind := .primitive 'I', accessFlags := 0x411 }
/-- [I -/
def k15 : Class := { plain "[I" (some 0) with kind := .array 14 .int, interfaces := #[11, 4], accessFlags := 1041 }

def heap : Heap := #[]
def classes : Array Class := #[k0, k1, k2, k3, k4, k5, k6, k7, k8, k9, k10, k11, k12, k13, k14, k15]
def interned : List (Array UInt16 × Addr) := []
def slotsUsed : Nat := 0
def theMethod : MethodId := ⟨1, 1⟩
def args0 : Array Value := #[.long 5, .long 7, .int 3, .int 2]
def aboutOver (below : List Frame) : State where
  vm := { classes := classes, interned := interned.toArray }
  heap := heap
  slotsUsed := slotsUsed
  threads := #[{ frames := .invoking theMethod args0 :: below }]
def below0 : List Frame := [.native { method := ⟨0, 0⟩, args := #[] }]
def about1 : State := aboutOver below0
def p0 : Program := .bare "" "" ""
def e0 : Env := launch0.env 0 0 0
theorem w_frames : about1.frames = Frame.invoking theMethod args0 :: below0 := rfl
set_option maxRecDepth 65536 in
theorem w_args : argsFit about1.vm theMethod args0 = true := by decide +kernel
set_option maxRecDepth 65536 in
theorem w_heap : heapFits about1 = true := by decide +kernel
set_option maxRecDepth 65536 in
theorem w_runnable : about1.curStatus? = some .runnable := by decide +kernel
set_option maxRecDepth 65536 in
theorem w_alone : about1.alone = true := by decide +kernel
set_option maxRecDepth 65536 in
theorem w_named : about1.methodNamed? x = some theMethod := by decide +kernel
set_option maxRecDepth 65536 in
theorem w_hears : about1.hears theMethod below0 = true := by decide +kernel
set_option maxRecDepth 65536 in
theorem w_ripe : about1.ripe theMethod args0 below0 = true := by decide +kernel
theorem w_running : about1.status = .running := rfl
set_option maxRecDepth 65536 in
theorem w_room : about1.hasRoom e0.platform room_1 = true :=
  launch0.hasRoom_least _ room_1 (by decide +kernel) (by decide +kernel) (by decide +kernel) (by decide +kernel) (by decide +kernel) (by decide +kernel)
theorem allAtoms_all (ts : List Jvm.Cond) (a : Array Jvm.Value) (st : Jvm.State) : (allAtoms ts).before a st = ts.all (fun c => c.before a st) := by
  induction ts with
  | nil => rfl
  | cons c t ih =>
    show (Jvm.Cond.and c (allAtoms t)).before a st = _
    rw [Jvm.Cond.before_and, ih, List.all_cons]
def words1 : List Jvm.Cond := Jvm.Cond.code x code maxLocals ret :: tables_1
/-- a 'code' word, met by the world's own term for the bytes: nothing is compared byte by byte -/
theorem code_word {y : MethodName} {bytes : ByteArray} {mx : Nat} {rt : Option FieldType} {a : Array Value} {s : State} {m : MethodId} {meth : Method} {c : Code} (h1 : s.methodNamed? y = some m) (h2 : s.vm.method? m = some meth) (h3 : meth.code = some c) (h4 : c.code = bytes)
    (h5 : (c.maxLocals == mx && c.exceptionTable.isEmpty && decide (c.maxStack ≤ mostOperands) && decide (meth.sig.returnType = rt) && !meth.locks && decide (parseMethodDescriptor y.desc = some meth.sig)) = true) : (Jvm.Cond.code y bytes mx rt).before a s = true := by
  simp only [Bool.and_eq_true, beq_iff_eq, Bool.not_eq_true', decide_eq_true_eq] at h5
  obtain ⟨⟨⟨⟨⟨g1, g2⟩, g3⟩, g4⟩, g5⟩, g6⟩ := h5
  simp [Cond.before, Cond.holds, Cond.value, h1, h2, h3, h4, g1, g2, g3, g4, g5, g6]
def isCode : Jvm.Cond → Bool
  | .code _ _ _ _ => true
  | _ => false
theorem all_split {L : List Jvm.Cond} {P : Jvm.Cond → Bool} (h1 : L.all (fun c => isCode c || P c) = true) (h2 : ∀ c ∈ L.filter isCode, P c = true) : L.all P = true := by
  refine List.all_eq_true.mpr fun c hc => ?_
  have h := List.all_eq_true.mp h1 c hc
  rcases Bool.eq_false_or_eq_true (isCode c) with hi | hi
  · exact h2 c (List.mem_filter.mpr ⟨hc, hi⟩)
  · simpa [hi] using h
set_option maxRecDepth 65536 in
theorem w_c0 : (Jvm.Cond.code x code maxLocals ret).before args0 about1 = true := code_word (m := ⟨1, 1⟩) (meth := k1m1) (c := k1c1) (by decide +kernel) rfl rfl rfl (by decide +kernel)
set_option maxRecDepth 65536 in
theorem w_c1 : (Jvm.Cond.code ({ cls := "java/lang/Math", name := "max", desc := "(JJ)J" } : Jvm.MethodName) jdk_29_method_66_code (4 : Nat) (Option.some Jvm.ClassFile.FieldType.long)).before args0 about1 = true := code_word (m := ⟨2, 2⟩) (meth := k2m2) (c := k2c2) (by decide +kernel) rfl rfl rfl (by decide +kernel)
set_option maxRecDepth 65536 in
theorem w_c2 : (Jvm.Cond.code ({ cls := "java/lang/Math", name := "max", desc := "(II)I" } : Jvm.MethodName) jdk_29_method_65_code (2 : Nat) (Option.some Jvm.ClassFile.FieldType.int)).before args0 about1 = true := code_word (m := ⟨2, 1⟩) (meth := k2m1) (c := k2c1) (by decide +kernel) rfl rfl rfl (by decide +kernel)
set_option maxRecDepth 65536 in
theorem w_c3 : (Jvm.Cond.code ({ cls := "com/example/tombsweep/tombsweep/Retries", name := "<init>", desc := "(IJJ)V" } : Jvm.MethodName) prog_5_method_1_code (6 : Nat) (Option.none : Option Jvm.ClassFile.FieldType)).before args0 about1 = true := code_word (m := ⟨3, 0⟩) (meth := k3m0) (c := k3c0) (by decide +kernel) rfl rfl rfl (by decide +kernel)
set_option maxRecDepth 65536 in
theorem w_c4 : (Jvm.Cond.code ({ cls := "java/lang/Object", name := "<init>", desc := "()V" } : Jvm.MethodName) object_method_1_code (1 : Nat) (Option.none : Option Jvm.ClassFile.FieldType)).before args0 about1 = true := code_word (m := ⟨0, 0⟩) (meth := k0m0) (c := k0c0) (by decide +kernel) rfl rfl rfl (by decide +kernel)
set_option maxRecDepth 65536 in
theorem w_c5 : (Jvm.Cond.code ({ cls := "com/example/tombsweep/tombsweep/Retries", name := "waitMs", desc := "(ID)J" } : Jvm.MethodName) prog_5_method_5_code (7 : Nat) (Option.some Jvm.ClassFile.FieldType.long)).before args0 about1 = true := code_word (m := ⟨3, 1⟩) (meth := k3m1) (c := k3c1) (by decide +kernel) rfl rfl rfl (by decide +kernel)
set_option maxRecDepth 65536 in
theorem w_c6 : (Jvm.Cond.code ({ cls := "java/lang/Long", name := "numberOfLeadingZeros", desc := "(J)I" } : Jvm.MethodName) jdk_35_method_48_code (3 : Nat) (Option.some Jvm.ClassFile.FieldType.int)).before args0 about1 = true := code_word (m := ⟨9, 0⟩) (meth := k9m0) (c := k9c0) (by decide +kernel) rfl rfl rfl (by decide +kernel)
set_option maxRecDepth 65536 in
theorem w_c7 : (Jvm.Cond.code ({ cls := "java/lang/Integer", name := "numberOfLeadingZeros", desc := "(I)I" } : Jvm.MethodName) jdk_33_method_47_code (2 : Nat) (Option.some Jvm.ClassFile.FieldType.int)).before args0 about1 = true := code_word (m := ⟨10, 0⟩) (meth := k10m0) (c := k10c0) (by decide +kernel) rfl rfl rfl (by decide +kernel)
set_option maxRecDepth 65536 in
theorem w_c8 : (Jvm.Cond.code ({ cls := "java/lang/Math", name := "min", desc := "(JJ)J" } : Jvm.MethodName) jdk_29_method_70_code (4 : Nat) (Option.some Jvm.ClassFile.FieldType.long)).before args0 about1 = true := code_word (m := ⟨2, 3⟩) (meth := k2m3) (c := k2c3) (by decide +kernel) rfl rfl rfl (by decide +kernel)
set_option maxRecDepth 65536 in
theorem w_c9 : (Jvm.Cond.code ({ cls := "com/example/tombsweep/tombsweep/RetriesWaitMsPinLaw", name := "refDelay", desc := "(JJI)J" } : Jvm.MethodName) method_3_code (5 : Nat) (Option.some Jvm.ClassFile.FieldType.long)).before args0 about1 = true := code_word (m := ⟨1, 2⟩) (meth := k1m2) (c := k1c2) (by decide +kernel) rfl rfl rfl (by decide +kernel)
def codes1 : List Jvm.Cond := [Jvm.Cond.code x code maxLocals ret, Jvm.Cond.code ({ cls := "java/lang/Math", name := "max", desc := "(JJ)J" } : Jvm.MethodName) jdk_29_method_66_code (4 : Nat) (Option.some Jvm.ClassFile.FieldType.long), Jvm.Cond.code ({ cls := "java/lang/Math", name := "max", desc := "(II)I" } : Jvm.MethodName) jdk_29_method_65_code (2 : Nat) (Option.some Jvm.ClassFile.FieldType.int), Jvm.Cond.code ({ cls := "com/example/tombsweep/tombsweep/Retries", name := "<init>", desc := "(IJJ)V" } : Jvm.MethodName) prog_5_method_1_code (6 : Nat) (Option.none : Option Jvm.ClassFile.FieldType), Jvm.Cond.code ({ cls := "java/lang/Object", name := "<init>", desc := "()V" } : Jvm.MethodName) object_method_1_code (1 : Nat) (Option.none : Option Jvm.ClassFile.FieldType), Jvm.Cond.code ({ cls := "com/example/tombsweep/tombsweep/Retries", name := "waitMs", desc := "(ID)J" } : Jvm.MethodName) prog_5_method_5_code (7 : Nat) (Option.some Jvm.ClassFile.FieldType.long), Jvm.Cond.code ({ cls := "java/lang/Long", name := "numberOfLeadingZeros", desc := "(J)I" } : Jvm.MethodName) jdk_35_method_48_code (3 : Nat) (Option.some Jvm.ClassFile.FieldType.int), Jvm.Cond.code ({ cls := "java/lang/Integer", name := "numberOfLeadingZeros", desc := "(I)I" } : Jvm.MethodName) jdk_33_method_47_code (2 : Nat) (Option.some Jvm.ClassFile.FieldType.int), Jvm.Cond.code ({ cls := "java/lang/Math", name := "min", desc := "(JJ)J" } : Jvm.MethodName) jdk_29_method_70_code (4 : Nat) (Option.some Jvm.ClassFile.FieldType.long), Jvm.Cond.code ({ cls := "com/example/tombsweep/tombsweep/RetriesWaitMsPinLaw", name := "refDelay", desc := "(JJI)J" } : Jvm.MethodName) method_3_code (5 : Nat) (Option.some Jvm.ClassFile.FieldType.long)]
set_option maxRecDepth 65536 in
theorem codes_eq : words1.filter isCode = codes1 := rfl
theorem w_codes : ∀ c ∈ words1.filter isCode, c.before args0 about1 = true := by
  rw [codes_eq]
  intro c hc
  simp only [codes1, List.mem_cons, List.not_mem_nil, or_false] at hc
  rcases hc with rfl | rfl | rfl | rfl | rfl | rfl | rfl | rfl | rfl | rfl
  · exact w_c0
  · exact w_c1
  · exact w_c2
  · exact w_c3
  · exact w_c4
  · exact w_c5
  · exact w_c6
  · exact w_c7
  · exact w_c8
  · exact w_c9
set_option maxRecDepth 65536 in
theorem w_t1 : (words1.take 24).all (fun c => isCode c || c.before args0 about1) = true := by decide +kernel
set_option maxRecDepth 65536 in
theorem w_t2 : ((words1.drop 24).take 24).all (fun c => isCode c || c.before args0 about1) = true := by decide +kernel
set_option maxRecDepth 65536 in
theorem w_t3 : ((words1.drop 24).drop 24).all (fun c => isCode c || c.before args0 about1) = true := by decide +kernel
theorem w_tables : (allAtoms (Jvm.Cond.code x code maxLocals ret :: tables_1)).before args0 about1 = true := by
  rw [allAtoms_all]
  show words1.all (fun c => c.before args0 about1) = true
  refine all_split ?_ w_codes
  rw [← List.take_append_drop 24 words1, List.all_append, w_t1, ← List.take_append_drop 24 (words1.drop 24), List.all_append, w_t2, w_t3]
  rfl
set_option maxRecDepth 65536 in
theorem w_case : (Jvm.Cond.and given_1 narrow_1).before args0 about1 = true := by decide +kernel
theorem w_applies : (headSpec (Jvm.Cond.code x code maxLocals ret :: tables_1) room_1).applies x e0.platform about1 = true :=
  (Spec.applies_iff w_frames).mpr ⟨w_running, w_runnable, w_alone, w_named, w_hears, w_ripe, w_room, w_tables⟩
theorem atStart : AtStart classFile x code maxLocals ret World_1 tables_1 room_1 Calls_1 rest_1 Pre_1 launch0 p0 e0 about1 theMethod args0 below0 :=
  ⟨lists_1, trivial, launch0.admits_env _ _ _, launch0.least_env, fairChoices_fair.cas, fairChoices_fair.clock, w_frames, w_args, w_heap, w_applies, trivial, trivial, w_case⟩
end start1
theorem witness_1 : WitnessClaimed_1 := ⟨start1.p0, start1.e0, start1.about1, start1.theMethod, start1.args0, start1.below0, start1.atStart⟩
end Jvm.Pilot.@@N@@
