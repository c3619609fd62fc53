import JvmDerived
import JvmDerived.Pilot.@@N@@Statement
import JvmDerived.Pilot.@@N@@Code
set_option linter.unusedVariables false
set_option linter.unusedSimpArgs false
/-! own layer: doubles by their values in units of 2^-1074 (zval), over the library's float laws -/
namespace Jvm.Pilot.@@N@@.OwnFp
open Jvm.FP.Core
abbrev oz (x : UInt64) : Int := zval b64 (val64 x)
theorem one_pos : (0 : Int) < (one64 : Int) := by have := one64_pos; omega
theorem fin_nan {x : UInt64} (h : DFin x) : val64 x ≠ .nan := h.ne_nan
theorem signs_le {s sv : Bool} {A B zr zv : Nat} (h : signed s A ≤ signed sv B) (hle : A ≤ B → zr ≤ zv) (hge : B ≤ A → zv ≤ zr) (hz : B = 0 → zv = 0) : signed s zr ≤ signed sv zv := by
  cases s <;> cases sv <;> simp only [signed, if_true, Bool.false_eq_true, if_false] at h ⊢
  · have := hle (by omega); omega
  · have := hle (by omega); have := hz (by omega); omega
  · omega
  · have := hge (by omega); omega
theorem signs_ge {s sv : Bool} {A B zr zv : Nat} (h : signed sv B ≤ signed s A) (hle : A ≤ B → zr ≤ zv) (hge : B ≤ A → zv ≤ zr) (hz : B = 0 → zv = 0) : signed sv zv ≤ signed s zr := by
  cases s <;> cases sv <;> simp only [signed, if_true, Bool.false_eq_true, if_false] at h ⊢
  · have := hge (by omega); omega
  · omega
  · have := hle (by omega); have := hz (by omega); omega
  · have := hle (by omega); omega
/-- what a quotient by a positive divisor is, set against a number V of the format -/
theorem div_core {x y V : UInt64} (hx : DFin x) (hy : DFin y) (hp : 0 < oz y) (hV : val64 V ≠ .nan) :
    (oz x * (one64 : Int) ≤ oz V * oz y → oz (ddiv x y) ≤ oz V) ∧ (oz V * oz y ≤ oz x * (one64 : Int) → oz V ≤ oz (ddiv x y)) := by
  obtain ⟨s, c, q, ex⟩ := hx
  obtain ⟨t, d, r, ey⟩ := hy
  have fx := val64_fits x
  have fy := val64_fits y
  unfold oz at *
  rw [val64_ddiv, ex, ey]
  rw [ex] at fx
  rw [ey] at fy hp
  have ht : t = false := by
    cases t
    · rfl
    · exfalso
      simp only [zval, sgn, signed, if_true] at hp
      omega
  subst ht
  have hd : 0 < d := by
    rcases Nat.eq_zero_or_pos d with h0 | h0
    · subst h0
      exfalso
      simp [zval, zmag, inUnits, sgn, signed] at hp
    · exact h0
  have eq0 : quotient b64 (.fin s c q) (.fin false d r) = roundRatio b64 (s != false) c d (q - r) := by
    simp only [quotient, if_neg (Nat.ne_of_gt hd)]
  have es : (s != false) = s := by cases s <;> rfl
  rw [eq0, es]
  have hq1 := fx.2.1
  have hr1 := fy.2.1
  have hqn := qmin_neg good_b64
  have eA : inUnits c (q - r) (2 * b64.qmin - r) = zmag b64 (.fin s c q) * one64 := by
    show _ = inUnits c q b64.qmin * one64
    unfold inUnits
    rw [← pow_qmin64, Nat.mul_assoc, ← Nat.pow_add]
    congr 2
    omega
  have eB : 2 ^ (b64.qmin - (2 * b64.qmin - r)).toNat * d = zmag b64 (.fin false d r) := by
    show _ = inUnits d r b64.qmin
    unfold inUnits
    rw [Nat.mul_comm]
    congr 2
    omega
  have hle := zmag_roundRatio_le good_b64 (s := s) (A := c) (B := d) (e := q - r) (e0 := 2 * b64.qmin - r) hd (val64_fits V) hV (by omega) (by omega)
  have hge := zmag_roundRatio_ge good_b64 (s := s) (A := c) (B := d) (e := q - r) (e0 := 2 * b64.qmin - r) hd (val64_fits V) (by omega) (by omega)
  rw [eA, Nat.mul_assoc, eB] at hle hge
  have hy0 : 0 < zmag b64 (.fin false d r) := by
    show 0 < inUnits d r b64.qmin
    exact Nat.mul_pos hd (Nat.two_pow_pos _)
  have hz : zmag b64 (val64 V) * zmag b64 (.fin false d r) = 0 → zmag b64 (val64 V) = 0 := by
    intro h0
    rcases Nat.mul_eq_zero.mp h0 with h0 | h0 <;> omega
  unfold zval
  rw [sgn_roundRatio]
  have e1 : signed (sgn (.fin s c q)) (zmag b64 (.fin s c q)) * (one64 : Int) = signed s (zmag b64 (.fin s c q) * one64) := (signed_mul _ _ _).symm
  have e2 : signed (sgn (val64 V)) (zmag b64 (val64 V)) * signed (sgn (.fin false d r)) (zmag b64 (.fin false d r)) = signed (sgn (val64 V)) (zmag b64 (val64 V) * zmag b64 (.fin false d r)) := (signed_mul _ _ _).symm
  rw [e1, e2]
  exact ⟨fun h => signs_le h hle hge hz, fun h => signs_ge h hle hge hz⟩
theorem div_eq {x y V : UInt64} (hx : DFin x) (hy : DFin y) (hp : 0 < oz y) (hV : val64 V ≠ .nan) (h : oz x * (one64 : Int) = oz V * oz y) : oz (ddiv x y) = oz V :=
  Int.le_antisymm ((div_core hx hy hp hV).1 (Int.le_of_eq h)) ((div_core hx hy hp hV).2 (Int.le_of_eq h.symm))
theorem mul_core {x y V : UInt64} (hx : DFin x) (hy : DFin y) (hV : val64 V ≠ .nan) :
    (oz x * oz y ≤ oz V * (one64 : Int) → oz (dmul x y) ≤ oz V) ∧ (oz V * (one64 : Int) ≤ oz x * oz y → oz V ≤ oz (dmul x y)) := by
  obtain ⟨s, c, q, ex⟩ := hx
  obtain ⟨t, d, r, ey⟩ := hy
  have fx := val64_fits x
  have fy := val64_fits y
  unfold oz at *
  rw [val64_dmul, ex, ey]
  rw [ex] at fx
  rw [ey] at fy
  obtain ⟨h1, h2, h3⟩ := product_units fx fy
  have hqn := qmin_neg good_b64
  have e1 : signed (s != t) (inUnits (c * d) (q + r) (2 * b64.qmin)) = zval b64 (.fin s c q) * zval b64 (.fin t d r) := by
    rw [h3]; exact signed_xor _ _ _ _
  have e2 : ((2 ^ (b64.qmin - 2 * b64.qmin).toNat : Nat) : Int) = (one64 : Int) := by
    rw [show (b64.qmin - 2 * b64.qmin).toNat = (-b64.qmin).toNat by omega, pow_qmin64]
  rw [h1]
  refine ⟨fun h => ?_, fun h => ?_⟩
  · refine zval_round_le good_b64 (val64_fits V) hV (e0 := 2 * b64.qmin) (by omega) h2 ?_
    rw [e1, e2]; exact h
  · refine zval_round_ge good_b64 (val64_fits V) hV (e0 := 2 * b64.qmin) (by omega) h2 ?_
    rw [e1, e2]; exact h
theorem mul_eq {x y V : UInt64} (hx : DFin x) (hy : DFin y) (hV : val64 V ≠ .nan) (h : oz x * oz y = oz V * (one64 : Int)) : oz (dmul x y) = oz V :=
  Int.le_antisymm ((mul_core hx hy hV).1 (Int.le_of_eq h)) ((mul_core hx hy hV).2 (Int.le_of_eq h.symm))
theorem add_core {x y V : UInt64} (hx : DFin x) (hy : DFin y) (hV : val64 V ≠ .nan) :
    (oz x + oz y ≤ oz V → oz (dadd x y) ≤ oz V) ∧ (oz V ≤ oz x + oz y → oz V ≤ oz (dadd x y)) := by
  unfold oz
  rw [val64_dadd]
  exact ⟨sum_le good_b64 hx hy (val64_fits x) (val64_fits y) (val64_fits V) hV, sum_ge good_b64 hx hy (val64_fits x) (val64_fits y) (val64_fits V) hV⟩
theorem add_eq {x y V : UInt64} (hx : DFin x) (hy : DFin y) (hV : val64 V ≠ .nan) (h : oz x + oz y = oz V) : oz (dadd x y) = oz V :=
  Int.le_antisymm ((add_core hx hy hV).1 (Int.le_of_eq h)) ((add_core hx hy hV).2 (Int.le_of_eq h.symm))
theorem sub_core {x y V : UInt64} (hx : DFin x) (hy : DFin y) (hV : val64 V ≠ .nan) :
    (oz x - oz y ≤ oz V → oz (dsub x y) ≤ oz V) ∧ (oz V ≤ oz x - oz y → oz V ≤ oz (dsub x y)) := by
  unfold oz
  rw [val64_dsub]
  have hn : ∃ s c q, negate (val64 y) = .fin s c q := by
    obtain ⟨s, c, q, e⟩ := hy
    exact ⟨!s, c, q, by rw [e]; rfl⟩
  have ez : zval b64 (negate (val64 y)) = -zval b64 (val64 y) := zval_negate _ _
  refine ⟨fun h => sum_le good_b64 hx hn (val64_fits x) (negate_fits (val64_fits y)) (val64_fits V) hV ?_, fun h => sum_ge good_b64 hx hn (val64_fits x) (negate_fits (val64_fits y)) (val64_fits V) hV ?_⟩
  · rw [ez]; omega
  · rw [ez]; omega
theorem sub_eq {x y V : UInt64} (hx : DFin x) (hy : DFin y) (hV : val64 V ≠ .nan) (h : oz x - oz y = oz V) : oz (dsub x y) = oz V :=
  Int.le_antisymm ((sub_core hx hy hV).1 (Int.le_of_eq h)) ((sub_core hx hy hV).2 (Int.le_of_eq h.symm))
/-- n / 2^k is a double, for n of less than 53 digits -/
theorem rep (n : Int) (k : Nat) (hn : n.natAbs < 2 ^ 53) (hk : k ≤ 1074) : ∃ V : UInt64, DFin V ∧ oz V = n * ((2 ^ (1074 - k) : Nat) : Int) := by
  have hq : b64.qmin = -1074 := qmin_b64
  have hm : b64.qmax = 971 := by decide
  obtain ⟨c', q', h1, h2⟩ := round_exact good_b64 (decide (n < 0)) (c := n.natAbs) (q := -(k : Int)) hn (by omega) (by omega)
  refine ⟨of64 (round b64 (.fin (decide (n < 0)) n.natAbs (-(k : Int)))), ⟨_, c', q', by rw [val64_of64 (round_fits good_b64 _), h1]⟩, ?_⟩
  unfold oz
  rw [val64_of64 (round_fits good_b64 _), h1]
  show signed (decide (n < 0)) (inUnits c' q' b64.qmin) = _
  rw [h2]
  unfold inUnits
  rw [signed_mul, show (-(k : Int) - b64.qmin).toNat = 1074 - k by omega]
  congr 1
  unfold signed
  by_cases h : n < 0 <;> simp [h] <;> omega
/-- m * 2^k is a double, for m of less than 53 digits, k small -/
theorem repUp (m k : Nat) (hn : m < 2 ^ 53) (hk : k ≤ 900) : ∃ V : UInt64, DFin V ∧ oz V = ((m * 2 ^ k : Nat) : Int) * (one64 : Int) := by
  have hq : b64.qmin = -1074 := qmin_b64
  have hm : b64.qmax = 971 := by decide
  obtain ⟨c', q', h1, h2⟩ := round_exact good_b64 false (c := m) (q := (k : Int)) hn (by omega) (by omega)
  refine ⟨of64 (round b64 (.fin false m (k : Int))), ⟨_, c', q', by rw [val64_of64 (round_fits good_b64 _), h1]⟩, ?_⟩
  unfold oz
  rw [val64_of64 (round_fits good_b64 _), h1]
  show signed false (inUnits c' q' b64.qmin) = _
  rw [h2]
  unfold inUnits
  rw [show ((k : Int) - b64.qmin).toNat = k + (-b64.qmin).toNat by omega, Nat.pow_add, pow_qmin64, ← Nat.mul_assoc, Int.natCast_mul]
  simp [signed]
theorem fin_of_eq {x V : UInt64} (hn : val64 x ≠ .nan) (hV : DFin V) (h : oz x = oz V) : DFin x := by
  have hl := hV.zval_lt
  cases e : val64 x with
  | nan => exact absurd e hn
  | inf s =>
    exfalso
    unfold oz at h
    rw [e] at h
    have h2 : zval b64 (.inf s) = signed s (b64.tails * 2 ^ (b64.exps - 2)) := rfl
    rw [h2] at h
    have h3 := congrArg Int.natAbs h
    unfold zval at h3
    rw [natAbs_signed, natAbs_signed] at h3
    omega
  | fin s c q => exact ⟨s, c, q, e⟩
/-- the comparison's int, by the values -/
theorem cmp_val {x y : UInt64} (hx : val64 x ≠ .nan) (hy : val64 y ≠ .nan) (o : ClassFile.CmpOp) : Op.cmpValue (Jvm.FP.dcmp x y) o = if oz x < oz y then -1 else if oz x = oz y then 0 else 1 := by
  have h : Jvm.FP.dcmp x y = some (compare (oz x) (oz y)) := dcmp_zval hx hy
  rw [h, compare_ite]
  by_cases h1 : oz x < oz y
  · rw [if_pos h1, if_pos h1]; cases o <;> rfl
  · rw [if_neg h1, if_neg h1]
    by_cases h2 : oz x = oz y
    · rw [if_pos h2, if_pos h2]; cases o <;> rfl
    · rw [if_neg h2, if_neg h2]; cases o <;> rfl
theorem cmp_lt {x y : UInt64} (hx : val64 x ≠ .nan) (hy : val64 y ≠ .nan) (o : ClassFile.CmpOp) : Op.cmpValue (Jvm.FP.dcmp x y) o < 0 ↔ oz x < oz y := by
  rw [cmp_val hx hy o]
  by_cases h1 : oz x < oz y
  · rw [if_pos h1]; exact ⟨fun _ => h1, fun _ => by decide⟩
  · rw [if_neg h1]
    by_cases h2 : oz x = oz y
    · rw [if_pos h2]; exact ⟨fun q => absurd q (by decide), fun q => absurd q h1⟩
    · rw [if_neg h2]; exact ⟨fun q => absurd q (by decide), fun q => absurd q h1⟩
theorem cmp_gt {x y : UInt64} (hx : val64 x ≠ .nan) (hy : val64 y ≠ .nan) (o : ClassFile.CmpOp) : 0 < Op.cmpValue (Jvm.FP.dcmp x y) o ↔ oz y < oz x := by
  rw [cmp_val hx hy o]
  by_cases h1 : oz x < oz y
  · rw [if_pos h1]; exact ⟨fun q => absurd q (by decide), fun q => by omega⟩
  · rw [if_neg h1]
    by_cases h2 : oz x = oz y
    · rw [if_pos h2]; exact ⟨fun q => absurd q (by decide), fun q => by omega⟩
    · rw [if_neg h2]; exact ⟨fun _ => by omega, fun _ => by decide⟩
theorem cmp_eq {x y : UInt64} (hx : val64 x ≠ .nan) (hy : val64 y ≠ .nan) (o : ClassFile.CmpOp) : Op.cmpValue (Jvm.FP.dcmp x y) o = 0 ↔ oz x = oz y := by
  rw [cmp_val hx hy o]
  by_cases h1 : oz x < oz y
  · rw [if_pos h1]; exact ⟨fun q => absurd q (by decide), fun q => by omega⟩
  · rw [if_neg h1]
    by_cases h2 : oz x = oz y
    · rw [if_pos h2]; exact ⟨fun _ => h2, fun _ => rfl⟩
    · rw [if_neg h2]; exact ⟨fun q => absurd q (by decide), fun q => absurd q h2⟩
theorem oz_int {i : Int} {a : UInt64} (h : DInt i a) : oz a = i * (one64 : Int) := DInt_zval h
theorem int_fin {i : Int} {a : UInt64} (h : DInt i a) : DFin a := by
  unfold DInt at h
  cases e : val64 a with
  | nan => rw [e] at h; exact h.elim
  | inf s => rw [e] at h; exact h.elim
  | fin s c q => exact ⟨s, c, q, e⟩
theorem oz_i2d (x : Int32) : oz (i2d x) = x.toInt * (one64 : Int) := oz_int (i2d_int x)
theorem oz_l2d {a : Int64} (h : a.toInt.natAbs ≤ 2 ^ 53) : oz (l2d a) = a.toInt * (one64 : Int) := oz_int (l2d_int h)
theorem no_nan {x : UInt64} (h : val64 x ≠ .nan) : Jvm.Free.Fl.NoNaN64 x := Jvm.Free.Fl.val64_no.mpr h
theorem nan_no {x : UInt64} (h : Jvm.Free.Fl.NoNaN64 x) : val64 x ≠ .nan := Jvm.Free.Fl.val64_no.mp h
/-- a positive value makes a divisor -/
theorem div_nan {x y : UInt64} (hx : DFin x) (hy : DFin y) (hp : 0 < oz y) : val64 (ddiv x y) ≠ .nan := by
  have hz : ¬ DZero y := fun h => by have := h.zval; unfold oz at hp; omega
  exact (notNaN_iff _).mp (ddiv_out hx.notNaN hy hz)
theorem mul_nan {x y : UInt64} (hx : DFin x) (hy : DFin y) : val64 (dmul x y) ≠ .nan := (notNaN_iff _).mp (dmul_out hx hy)
theorem add_nan {x y : UInt64} (hx : DFin x) (hy : DFin y) : val64 (dadd x y) ≠ .nan := (notNaN_iff _).mp (dadd_out hx.notNaN hy)
theorem sub_nan {x y : UInt64} (hx : DFin x) (hy : DFin y) : val64 (dsub x y) ≠ .nan := (notNaN_iff _).mp (dsub_out hx.notNaN hy)
/-- a bit pattern that is finite, and what it is worth, by reckoning -/
theorem fin_lit {x : UInt64} (h : x.toNat % 2 ^ 63 < 9218868437227405312) : DFin x := (fin_bits x).mpr h
theorem oz_max {a b : UInt64} (ha : val64 a ≠ .nan) (hb : val64 b ≠ .nan) : oz (Native.java_lang_Math.nans.pick64 true a b) = max (oz a) (oz b) := by
  have h : Jvm.FP.dcmp a b = some (compare (oz a) (oz b)) := dcmp_zval ha hb
  rw [compare_ite] at h
  by_cases h1 : oz a < oz b
  · rw [if_pos h1] at h
    have e : Native.java_lang_Math.nans.pick64 true a b = b := by simp [Native.java_lang_Math.nans.pick64, h]
    rw [e]; omega
  · rw [if_neg h1] at h
    by_cases h2 : oz a = oz b
    · rcases Jvm.Free.Fl.pick64_or true a b with e | e <;> rw [e] <;> omega
    · rw [if_neg h2] at h
      have e : Native.java_lang_Math.nans.pick64 true a b = a := by simp [Native.java_lang_Math.nans.pick64, h]
      rw [e]; omega
theorem max_nan {a b : UInt64} (ha : val64 a ≠ .nan) (hb : val64 b ≠ .nan) : val64 (Native.java_lang_Math.nans.pick64 true a b) ≠ .nan := by
  rcases Jvm.Free.Fl.pick64_or true a b with e | e <;> rw [e] <;> assumption
theorem d2l_nonneg {a : UInt64} (hn : val64 a ≠ .nan) (h0 : 0 ≤ oz a) (h1 : oz a < 9223372036854775808 * (one64 : Int)) : (d2l a).toInt = oz a / (one64 : Int) := by
  rw [d2l_val hn]
  have hp := one64_pos
  have key : signed (sgn (val64 a)) (zmag b64 (val64 a) / one64) = oz a / (one64 : Int) := by
    unfold oz zval at *
    cases hs : sgn (val64 a)
    · simp [signed]
    · rw [hs] at h0
      simp only [signed, if_true] at h0 ⊢
      have : zmag b64 (val64 a) = 0 := by omega
      rw [this]; simp
  rw [key]
  have h2 : 0 ≤ oz a / (one64 : Int) := Int.ediv_nonneg h0 (by omega)
  have h3 : oz a / (one64 : Int) < 9223372036854775808 := Int.ediv_lt_of_lt_mul (by omega) h1
  omega
end Jvm.Pilot.@@N@@.OwnFp
namespace Jvm.Pilot.@@N@@.OwnFp
open Jvm.FP.Core
theorem oz_1024 : oz 4652218415073722368 = 1024 * (one64 : Int) := by decide +kernel
theorem oz_22 : oz 4626885667169763328 = 22 * (one64 : Int) := by decide +kernel
theorem one_10 : (one64 : Int) = 1024 * ((2 ^ 1064 : Nat) : Int) := by decide +kernel
theorem one_24 : ((2 ^ 1064 : Nat) : Int) = 16384 * ((2 ^ 1050 : Nat) : Int) := by decide +kernel
theorem oz_15 : 15513 * ((2 ^ 1064 : Nat) : Int) < oz 4624718309849091277 ∧ oz 4624718309849091277 ≤ 15514 * ((2 ^ 1064 : Nat) : Int) := by decide +kernel
theorem fin_1024 : DFin 4652218415073722368 := fin_lit (by decide)
theorem fin_22 : DFin 4626885667169763328 := fin_lit (by decide)
theorem fin_15 : DFin 4624718309849091277 := fin_lit (by decide)
theorem pos_1024 : 0 < oz 4652218415073722368 := by rw [oz_1024]; have := one_pos; omega
theorem sec_core {a : Int64} (h : a.toInt.natAbs < 2 ^ 53) : DFin (ddiv (l2d a) 4652218415073722368) ∧ oz (ddiv (l2d a) 4652218415073722368) = a.toInt * ((2 ^ 1064 : Nat) : Int) := by
  obtain ⟨V, hV, eV⟩ := rep a.toInt 10 h (by decide)
  have e : oz (ddiv (l2d a) 4652218415073722368) = oz V := by
    refine div_eq (l2d_fin a) fin_1024 pos_1024 (fin_nan hV) ?_
    rw [oz_l2d (by omega), oz_1024, eV, show (1074 - 10 : Nat) = 1064 from rfl, one_10]
    generalize ((2 ^ 1064 : Nat) : Int) = U
    grind
  exact ⟨fin_of_eq (div_nan (l2d_fin a) fin_1024 pos_1024) hV e, by rw [e, eV]⟩
theorem u_pos : (0 : Int) < ((2 ^ 1064 : Nat) : Int) := by have := Nat.two_pow_pos 1064; omega
theorem w_pos : (0 : Int) < ((2 ^ 1050 : Nat) : Int) := by have := Nat.two_pow_pos 1050; omega
theorem target_core {a b : Int64} (ha : a.toInt.natAbs < 16777216) (hb1 : 1 ≤ b.toInt) (hb2 : b.toInt ≤ 16777216) :
    val64 (ddiv (ddiv (l2d a) 4652218415073722368) (ddiv (l2d b) 4652218415073722368)) ≠ .nan ∧
    (oz (ddiv (ddiv (l2d a) 4652218415073722368) (ddiv (l2d b) 4652218415073722368)) < oz 4626885667169763328 ↔ a.toInt < 22 * b.toInt) ∧
    (oz (ddiv (l2d a) 4652218415073722368) < oz 4624718309849091277 ↔ a.toInt < 15514) := by
  obtain ⟨fm, em⟩ := sec_core (a := a) (by omega)
  obtain ⟨fr, er⟩ := sec_core (a := b) (by omega)
  generalize ddiv (l2d a) 4652218415073722368 = md at *
  generalize ddiv (l2d b) 4652218415073722368 = rd at *
  have hU := u_pos
  have hr : 0 < oz rd := by rw [er]; exact Int.mul_pos (by omega) hU
  refine ⟨div_nan fm fr hr, ⟨fun h => ?_, fun h => ?_⟩, ?_⟩
  · by_cases hc : a.toInt < 22 * b.toInt
    · exact hc
    · exfalso
      have h1 := (div_core fm fr hr (fin_nan fin_22)).2 (by
        rw [oz_22, em, er, one_10]
        have h2 : 22 * b.toInt ≤ a.toInt := by omega
        generalize ((2 ^ 1064 : Nat) : Int) = U at *
        have h3 : 0 ≤ 1024 * U * U := Int.mul_nonneg (by omega) (by omega)
        have h4 := Int.mul_le_mul_of_nonneg_right h2 h3
        have e1 : 22 * (1024 * U) * (b.toInt * U) = 22 * b.toInt * (1024 * U * U) := by grind
        have e2 : a.toInt * U * (1024 * U) = a.toInt * (1024 * U * U) := by grind
        omega)
      omega
  · obtain ⟨V, hV, eV⟩ := rep 369098751 24 (by decide) (by decide)
    have h1 := (div_core fm fr hr (fin_nan hV)).1 (by
      rw [eV, em, er, one_10, one_24, show (1074 - 24 : Nat) = 1050 from rfl]
      have hW := w_pos
      generalize ((2 ^ 1050 : Nat) : Int) = W at *
      have h3 : 0 ≤ 16384 * W * W := Int.mul_nonneg (by omega) (by omega)
      have h2 : a.toInt * 16777216 ≤ 369098751 * b.toInt := by omega
      have h4 := Int.mul_le_mul_of_nonneg_right h2 h3
      have e1 : a.toInt * (16384 * W) * (1024 * (16384 * W)) = a.toInt * 16777216 * (16384 * W * W) := by grind
      have e2 : 369098751 * W * (b.toInt * (16384 * W)) = 369098751 * b.toInt * (16384 * W * W) := by grind
      omega)
    have h2 : oz V < oz 4626885667169763328 := by
      rw [eV, oz_22, one_10, one_24, show (1074 - 24 : Nat) = 1050 from rfl]
      have hW := w_pos
      generalize ((2 ^ 1050 : Nat) : Int) = W at *
      omega
    omega
  · rw [em]
    have h15 := oz_15
    generalize ((2 ^ 1064 : Nat) : Int) = U at *
    constructor
    · intro h
      by_cases hc : a.toInt < 15514
      · exact hc
      · have := Int.mul_le_mul_of_nonneg_right (show (15514 : Int) ≤ a.toInt by omega) (show 0 ≤ U by omega)
        omega
    · intro h
      have := Int.mul_le_mul_of_nonneg_right (show a.toInt ≤ 15513 by omega) (show 0 ≤ U by omega)
      omega
end Jvm.Pilot.@@N@@.OwnFp
namespace Jvm.Pilot.@@N@@
open Jvm Jvm.ClassFile Sem Op Lib Jvm.Free Jvm.Stand Jvm.LawKit Jvm.RoadKit Bundle Jvm.Pilot.@@N@@.Jvm.D
/-! own layer: a walk in continuation style over the library's laws of lawnew's family -/
section OwnBase
/-- from the state t the invocation over 'below' comes to its end, and F holds there -/
def own_Ends (tb : Tables) (e : Env) (below : List Frame) (F : Outcome → State → Prop) (t : State) : Prop :=
  ∃ s₂ o, Steps tb e below t s₂ ∧ s₂.status = .running ∧ Ended s₂ below o ∧ F o s₂
theorem own_go {tb : Tables} {e : Env} {below : List Frame} {F : Outcome → State → Prop} {t t' : State} (k : ∀ target, Steps tb e below t' target → Steps tb e below t target) (h : own_Ends tb e below F t') : own_Ends tb e below F t := by
  obtain ⟨s₂, o, h1, h2⟩ := h
  exact ⟨s₂, o, k _ h1, h2⟩
/-- what a contract says of the end -/
def own_F (s : State) (Q : Option Value → Heap → List Loc → Prop) (C S : Nat) (o : Outcome) (U : State) : Prop := ∃ v L, o = .returned v ∧ Q v U.heap L ∧ FrameEnd s o U L C S
abbrev own_Ctr (l : Launch) (Z : State) (y : MethodName) (bytes : ByteArray) (ml : Nat) (rt : Option FieldType) (ws : List Jvm.Cond) (rm : Room) (as : Array Value) (h0 : Heap) (Q : Option Value → Heap → List Loc → Prop) : Prop :=
  MetFree l y (head1 (Jvm.Cond.code y bytes ml rt :: ws) rm) (fun a U => a = as ∧ Z.Warmed39 U.vm ∧ U.heap = h0) (fun _ _ _ _ _ => True) (fun _ U o U' => ∃ v L, o = .returned v ∧ Q v U'.heap L ∧ FrameEnd U o U' L rm.cells rm.slots)
theorem own_enter {l : Launch} {Z : State} {y : MethodName} {bytes : ByteArray} {ml : Nat} {rt : Option FieldType} {ws : List Jvm.Cond} {rm : Room} {as : Array Value} {h0 : Heap} {Q : Option Value → Heap → List Loc → Prop} (hp : plainFor y = true)
    (body : ∀ (p : Program) (e : Env) (s : State) (m : MethodId) (below : List Frame) (meth : Method) (c : Code) (s₁ : State), BodyLoose p l y (head1 (Jvm.Cond.code y bytes ml rt :: ws) rm) bytes ml rt e s m as below meth c s₁ → Z.Warmed39 s.vm → c.maxLocals = ml → Stand p l e rm s m as below meth c s₁ [] 0 0 → s₁.heap = h0 →
      own_Ends p.tables e below (own_F s Q rm.cells rm.slots) (s₁.setTop (entryFrame m as ml))) : own_Ctr l Z y bytes ml rt ws rm as h0 Q := by
  refine MetFree.of_bodySF hp hisR ?_
  intro p e s m args below meth c s₁ Bd hml0 hP hK
  obtain ⟨rfl, hZ, hh⟩ := hP
  have e0 : s₁.heap = h0 := by rw [← hh, Bd.state]; rfl
  exact body p e s m below meth c s₁ Bd hZ hml0 (Stand.of_body Bd) e0
variable {p : Program} {l : Launch} {e : Env} {R : Room} {s : State} {m : MethodId} {args : Array Value} {below : List Frame} {meth : Method} {c : Code} {T : State} {locs : List Loc} {cells slots : Nat} {Z : State} {a0 : Array Value} {h : Heap} {Q : Option Value → Heap → List Loc → Prop} {C S : Nat}
theorem own_ret (X : Stand p l e R s m args below meth c T locs cells slots) {v : Option Value} {g : JFrame} (hv : meth.sig.returnType = none → v = none) (hlocks : meth.locks = false)
    (st : ∀ fs, (∀ (f : JFrame) (acts : List Action), f.method = m → f.locked = none → f.entered = [] → (doReturn e (T.setTop f) acts v).1 = T.setFrames fs) → Steps p.tables e below (T.setTop g) (T.setFrames fs)) (hc : cells ≤ C) (hs : slots ≤ S) (q : Q v T.heap locs) :
    own_Ends p.tables e below (own_F s Q C S) (T.setTop g) := by
  obtain ⟨fs, hr, hrun, hended, hW, hsame⟩ := X.leave (v := v) hv hlocks
  exact ⟨_, _, st fs hr, hrun, hended, v, locs, rfl, q, ⟨_, rfl⟩, hW, hsame.mono hc hs⟩
theorem own_retV (X : Stand p l e R s m args below meth c T locs cells slots) (hx : p.tables.exec = Jvm.exec) (hret : meth.sig.returnType = none) (hlocks : meth.locks = false) {pc : Nat} {Ls : Array Slot} (hd : decode c.code pc = .ok (.return_, 1)) (hc : cells ≤ C) (hs : slots ≤ S) (q : Q none T.heap locs) :
    own_Ends p.tables e below (own_F s Q C S) (T.setTop (mkF m pc Ls [])) :=
  own_ret X (fun _ => rfl) hlocks (fun fs hr => X.returnOut hx hret hd hr) hc hs q
theorem own_retZ (X : Stand p l e R s m args below meth c T locs cells slots) (hx : p.tables.exec = Jvm.exec) (hret : meth.sig.returnType = some .boolean) (hlocks : meth.locks = false) {pc : Nat} {Ls : Array Slot} {z : Int32} {rest : List Value} (hz : nar .boolean z = z) (hd : decode c.code pc = .ok (.ireturn, 1)) (hc : cells ≤ C) (hs : slots ≤ S) (q : Q (some (.int z)) T.heap locs) :
    own_Ends p.tables e below (own_F s Q C S) (T.setTop (mkF m pc Ls (.int z :: rest))) :=
  own_ret X (v := some (.int z)) (fun q => by rw [hret] at q; cases q) hlocks (fun fs hr => retN X hx (t := .boolean) hret (by simp) hd (by rw [hz]; exact hr)) hc hs q
theorem own_retI (X : Stand p l e R s m args below meth c T locs cells slots) (hx : p.tables.exec = Jvm.exec) (hret : meth.sig.returnType = some .int) (hlocks : meth.locks = false) {pc : Nat} {Ls : Array Slot} {z : Int32} {rest : List Value} (hd : decode c.code pc = .ok (.ireturn, 1)) (hc : cells ≤ C) (hs : slots ≤ S) (q : Q (some (.int z)) T.heap locs) :
    own_Ends p.tables e below (own_F s Q C S) (T.setTop (mkF m pc Ls (.int z :: rest))) :=
  own_ret X (v := some (.int z)) (fun q => by rw [hret] at q; cases q) hlocks (fun fs hr => retOut X hx hret rfl (Or.inl ⟨rfl, Or.inl rfl, _, rfl⟩) hd hr) hc hs q
theorem own_retJ (X : Stand p l e R s m args below meth c T locs cells slots) (hx : p.tables.exec = Jvm.exec) (hret : meth.sig.returnType = some .long) (hlocks : meth.locks = false) {pc : Nat} {Ls : Array Slot} {z : Int64} {rest : List Value} (hd : decode c.code pc = .ok (.lreturn, 1)) (hc : cells ≤ C) (hs : slots ≤ S) (q : Q (some (.long z)) T.heap locs) :
    own_Ends p.tables e below (own_F s Q C S) (T.setTop (mkF m pc Ls (.long z :: rest))) :=
  own_ret X (v := some (.long z)) (fun q => by rw [hret] at q; cases q) hlocks (fun fs hr => retOut X hx hret rfl (Or.inr (Or.inl ⟨rfl, rfl, _, rfl⟩)) hd hr) hc hs q
theorem own_retD (X : Stand p l e R s m args below meth c T locs cells slots) (hx : p.tables.exec = Jvm.exec) (hret : meth.sig.returnType = some .double) (hlocks : meth.locks = false) {pc : Nat} {Ls : Array Slot} {z : UInt64} {rest : List Value} (hd : decode c.code pc = .ok (.dreturn, 1)) (hc : cells ≤ C) (hs : slots ≤ S) (q : Q (some (.double z)) T.heap locs) :
    own_Ends p.tables e below (own_F s Q C S) (T.setTop (mkF m pc Ls (.double z :: rest))) :=
  own_ret X (v := some (.double z)) (fun q => by rw [hret] at q; cases q) hlocks (fun fs hr => retOut X hx hret rfl (Or.inr (Or.inr (Or.inl ⟨rfl, rfl, _, rfl⟩))) hd hr) hc hs q
theorem own_retA (X : Stand p l e R s m args below meth c T locs cells slots) (hx : p.tables.exec = Jvm.exec) {t : FieldType} (hret : meth.sig.returnType = some t) (hlocks : meth.locks = false) {pc : Nat} {Ls : Array Slot} {w : Value} {rest : List Value} (hd : decode c.code pc = .ok (.areturn, 1)) (ht : t.isReference = true) (hw : w.isRef = true) (hc : cells ≤ C) (hs : slots ≤ S) (q : Q (some w) T.heap locs) :
    own_Ends p.tables e below (own_F s Q C S) (T.setTop (mkF m pc Ls (w :: rest))) :=
  own_ret X (v := some w) (fun q => by rw [hret] at q; cases q) hlocks (fun fs hr => retOut X hx hret (by cases t <;> first | (cases ht; done) | (cases w <;> first | (cases hw; done) | rfl)) (Or.inr (Or.inr (Or.inr (Or.inr ⟨rfl, ht, hw⟩)))) hd hr) hc hs q
theorem own_special (X : Stand p l e R s m args below meth c T locs cells slots) (hx : p.tables.exec = Jvm.exec) (hZ : Z.Warmed39 s.vm) {own : String} {index : Nat} {y : MethodName} (hy1 : y.name = "<init>") (hown : s.vm.findClass own = some m.cls)
    (w1 : (Jvm.Cond.methodLink own index y).before a0 Z = true) (w2 : (Jvm.Cond.instanceMethod y).before a0 Z = true) {bytes : ByteArray} {maxL : Nat} (w3 : (Jvm.Cond.code y bytes maxL none).before a0 Z = true) (w4 : (Jvm.Cond.initialized y.cls).before a0 Z = true)
    (hy : y.cls ≠ "java/lang/invoke/MethodHandle" ∧ y.cls ≠ "java/lang/invoke/VarHandle") {rm : Room} {a : Addr} {argsL rest : List Value}
    (K : own_Ctr l Z y bytes maxL none [] rm (.ref a :: argsL).toArray h Q) (eT : T.heap = h) {g : JFrame} (hg : g.method = m) (hsize : g.locals.size = c.maxLocals)
    (hlen : ∀ sig, parseMethodDescriptor y.desc = some sig → argsL.length = sig.parameters.length) (hst : g.stack = argsL.reverse ++ .ref a :: rest) {W : Nat} (hW : 2 * g.monitorRoom + (rest.map fun v => v.category).sum ≤ W)
    (hd : decode c.code g.pc = .ok (.invokespecial index, 3)) (hf : rm.frames + 1 ≤ R.frames) (hlo : W + (maxL + 11) + rm.locals ≤ R.locals) (hc : cells + rm.cells ≤ R.cells) (hs : slots + rm.slots ≤ R.slots) :
    ∃ T' L v, Stand p l e R s m args below meth c T' (locs ++ L) (cells + rm.cells) (slots + rm.slots) ∧ Q v T'.heap L ∧ ∀ target, Steps p.tables e below (T'.setTop { g with pc := g.pc + 3, stack := v.toList ++ rest }) target → Steps p.tables e below (T.setTop g) target := by
  obtain ⟨v, _, ⟨T', L', k', n'⟩, -, X', ⟨L, hQ, l1, y1, z1⟩, st⟩ := X.specialBack hx (y := y) hy1 hown (mvT hZ w1) (mvT hZ w2) (mvT hZ w3) hy (backOf (W := W) K hZ w3 w4 hf hlo) (g := g) hg hsize (Steps.refl _) (a := a) (argsL := argsL) (rest := rest) hlen hst hW hd (fun _ _ => ⟨rfl, eT, hc, hs⟩)
  dsimp only [Pt.U, Pt.locs, Pt.cells, Pt.slots] at X' l1 y1 z1 st hQ
  subst l1 y1 z1
  exact ⟨T', L, v, X', hQ, fun t k => st.trans k⟩
theorem own_static (X : Stand p l e R s m args below meth c T locs cells slots) (hx : p.tables.exec = Jvm.exec) (hZ : Z.Warmed39 s.vm) {own : String} {index : Nat} {y : MethodName} (hown : s.vm.findClass own = some m.cls)
    (w1 : (Jvm.Cond.methodLink own index y).before a0 Z = true) (w2 : (Jvm.Cond.static y).before a0 Z = true) (w4 : (Jvm.Cond.initialized y.cls).before a0 Z = true) {bytes : ByteArray} {maxL : Nat} {rt : Option FieldType} (w3 : (Jvm.Cond.code y bytes maxL rt).before a0 Z = true)
    (hy : y.cls ≠ "java/lang/invoke/MethodHandle" ∧ y.cls ≠ "java/lang/invoke/VarHandle") {rm : Room} {argsL rest : List Value}
    (K : own_Ctr l Z y bytes maxL rt [] rm argsL.toArray h Q) (eT : T.heap = h) {g : JFrame} (hg : g.method = m) (hsize : g.locals.size = c.maxLocals)
    (hlen : ∀ sig, parseMethodDescriptor y.desc = some sig → argsL.length = sig.parameters.length) (hst : g.stack = argsL.reverse ++ rest) {W : Nat} (hW : 2 * g.monitorRoom + (rest.map fun v => v.category).sum ≤ W)
    (hd : decode c.code g.pc = .ok (.invokestatic index, 3)) (hf : rm.frames + 1 ≤ R.frames) (hlo : W + (maxL + 11) + rm.locals ≤ R.locals) (hc : cells + rm.cells ≤ R.cells) (hs : slots + rm.slots ≤ R.slots) :
    ∃ T' L v, Stand p l e R s m args below meth c T' (locs ++ L) (cells + rm.cells) (slots + rm.slots) ∧ Q v T'.heap L ∧ ∀ target, Steps p.tables e below (T'.setTop { g with pc := g.pc + 3, stack := v.toList ++ rest }) target → Steps p.tables e below (T.setTop g) target := by
  obtain ⟨v, _, ⟨T', L', k', n'⟩, -, X', ⟨L, hQ, l1, y1, z1⟩, st⟩ := Jvm.LawKit.callS X hx (y := y) hown (mvT hZ w1) (mvT hZ w2) (mvT hZ w4) (mvT hZ w3) hy (backOf (W := W) K hZ w3 w4 hf hlo) (g := g) hg hsize (argsL := argsL) (rest := rest) hlen hst hW hd (fun _ _ => ⟨rfl, eT, hc, hs⟩)
  dsimp only [Pt.U, Pt.locs, Pt.cells, Pt.slots] at X' l1 y1 z1 st hQ
  subst l1 y1 z1
  exact ⟨T', L, v, X', hQ, st⟩
theorem own_virtual (X : Stand p l e R s m args below meth c T locs cells slots) (hx : p.tables.exec = Jvm.exec) (hZ : Z.Warmed39 s.vm) {own : String} {index : Nat} {y : MethodName} (hown : s.vm.findClass own = some m.cls)
    (w1 : (Jvm.Cond.methodLink own index y).before a0 Z = true) (w2 : (Jvm.Cond.declares y).before a0 Z = true) (w5 : (Jvm.Cond.selects y.cls y y).before a0 Z = true) (w6 : (Jvm.Cond.instanceMethod y).before a0 Z = true) {bytes : ByteArray} {maxL : Nat} {rt : Option FieldType} (w3 : (Jvm.Cond.code y bytes maxL rt).before a0 Z = true) (w4 : (Jvm.Cond.initialized y.cls).before a0 Z = true)
    (hy : y.cls ≠ "java/lang/invoke/MethodHandle" ∧ y.cls ≠ "java/lang/invoke/VarHandle") {rm : Room} {a : Addr} {argsL rest : List Value} (E : Exa Z h a y.cls)
    (K : own_Ctr l Z y bytes maxL rt [] rm (.ref a :: argsL).toArray h Q) (eT : T.heap = h) {g : JFrame} (hg : g.method = m) (hsize : g.locals.size = c.maxLocals)
    (hlen : ∀ sig, parseMethodDescriptor y.desc = some sig → argsL.length = sig.parameters.length) (hst : g.stack = argsL.reverse ++ .ref a :: rest) {W : Nat} (hW : 2 * g.monitorRoom + (rest.map fun v => v.category).sum ≤ W)
    (hd : decode c.code g.pc = .ok (.invokevirtual index, 3)) (hf : rm.frames + 1 ≤ R.frames) (hlo : W + (maxL + 11) + rm.locals ≤ R.locals) (hc : cells + rm.cells ≤ R.cells) (hs : slots + rm.slots ≤ R.slots) :
    ∃ T' L v, Stand p l e R s m args below meth c T' (locs ++ L) (cells + rm.cells) (slots + rm.slots) ∧ Q v T'.heap L ∧ ∀ target, Steps p.tables e below (T'.setTop { g with pc := g.pc + 3, stack := v.toList ++ rest }) target → Steps p.tables e below (T.setTop g) target := by
  obtain ⟨cq, kq, qa, qb, qc⟩ := isOf hZ eT E
  obtain ⟨v, _, ⟨T', L', k', n'⟩, -, X', ⟨L, hQ, l1, y1, z1⟩, st⟩ := X.virtualBack hx (y := y) (z := y) hown (mvT hZ w1) (mvT hZ w2) (notFace_of_selects (args := #[]) (mvT hZ w5)) (mvT hZ w5) (mvT hZ w6) hy (backOf (W := W) K hZ w3 w4 hf hlo) qa qc (g := g) hg hsize (Steps.refl _) (argsL := argsL) (rest := rest) hlen hst hW hd (fun _ _ => ⟨rfl, eT, hc, hs⟩)
  dsimp only [Pt.U, Pt.locs, Pt.cells, Pt.slots] at X' l1 y1 z1 st hQ
  subst l1 y1 z1
  exact ⟨T', L, v, X', hQ, fun t k => st.trans k⟩
/-- a field is still there behind a write, whatever it holds -/
theorem own_any {h h' : Heap} {a b : Addr} {sl : Nat} {v w : Value} {C0 n d : String} (W : Wr h h' a sl v) (F : Fld Z h b C0 n d w) : ∃ w', Fld Z h' b C0 n d w' := by
  obtain ⟨cell, cf, k, i, f, h1, h2, h3, h4, h5, h6, h7⟩ := F
  obtain ⟨c', e1, e2, e3, e4, -⟩ := wr_at W h1
  have hl := (Array.getElem?_eq_some_iff.mp h7).1
  exact ⟨_, c', cf, k, i, f, e1, h2, h3, by rw [e3]; exact h4, by rw [e3]; exact h5, by rw [e2]; exact h6, Array.getElem?_eq_getElem (by rw [e4]; exact hl)⟩
end OwnBase
theorem d1_0 : decode prog_5_method_1_code 0 = .ok (.aload_n 0, 1) := by decide +kernel
theorem d1_1 : decode prog_5_method_1_code 1 = .ok (.invokespecial 3, 3) := by decide +kernel
theorem d1_4 : decode prog_5_method_1_code 4 = .ok (.aload_n 0, 1) := by decide +kernel
theorem d1_5 : decode prog_5_method_1_code 5 = .ok (.dload_n 1, 1) := by decide +kernel
theorem d1_6 : decode prog_5_method_1_code 6 = .ok (.putfield 9, 3) := by decide +kernel
theorem d1_9 : decode prog_5_method_1_code 9 = .ok (.aload_n 0, 1) := by decide +kernel
theorem d1_10 : decode prog_5_method_1_code 10 = .ok (.dload_n 3, 1) := by decide +kernel
theorem d1_11 : decode prog_5_method_1_code 11 = .ok (.putfield 15, 3) := by decide +kernel
theorem d1_14 : decode prog_5_method_1_code 14 = .ok (.return_, 1) := by decide +kernel
theorem pn_d1 : plainName "turnstile/bench/ReadWriteMutexScenario$Timing" = true := by first | (simp [plainName, overriddenIn]; done) | decide +kernel
theorem pd_d1 : parseMethodDescriptor "(DD)V" = some ⟨[.double, .double], none⟩ := by decide +kernel
theorem d2_0 : decode jdk_30_method_1_code 0 = .ok (.aload_n 0, 1) := by decide +kernel
theorem d2_1 : decode jdk_30_method_1_code 1 = .ok (.invokespecial 1, 3) := by decide +kernel
theorem d2_4 : decode jdk_30_method_1_code 4 = .ok (.return_, 1) := by decide +kernel
theorem pn_d2 : plainName "java/lang/Record" = true := by first | (simp [plainName, overriddenIn]; done) | decide +kernel
theorem pd_d2 : parseMethodDescriptor "()V" = some ⟨[], none⟩ := by decide +kernel
theorem d4_0 : decode prog_5_method_3_code 0 = .ok (.aload_n 0, 1) := by decide +kernel
theorem d4_1 : decode prog_5_method_3_code 1 = .ok (.invokevirtual 18, 3) := by decide +kernel
theorem d4_4 : decode prog_5_method_3_code 4 = .ok (.ldc2_w 22, 3) := by decide +kernel
theorem d4_7 : decode prog_5_method_3_code 7 = .ok (.dcmp .l, 1) := by decide +kernel
theorem d4_8 : decode prog_5_method_3_code 8 = .ok (.ifCond .lt 18, 3) := by decide +kernel
theorem d4_11 : decode prog_5_method_3_code 11 = .ok (.aload_n 0, 1) := by decide +kernel
theorem d4_12 : decode prog_5_method_3_code 12 = .ok (.getfield 15, 3) := by decide +kernel
theorem d4_15 : decode prog_5_method_3_code 15 = .ok (.ldc2_w 24, 3) := by decide +kernel
theorem d4_18 : decode prog_5_method_3_code 18 = .ok (.dcmp .l, 1) := by decide +kernel
theorem d4_19 : decode prog_5_method_3_code 19 = .ok (.ifCond .lt 7, 3) := by decide +kernel
theorem d4_22 : decode prog_5_method_3_code 22 = .ok (.iconst 1, 1) := by decide +kernel
theorem d4_23 : decode prog_5_method_3_code 23 = .ok (.goto 4, 3) := by decide +kernel
theorem d4_26 : decode prog_5_method_3_code 26 = .ok (.iconst 0, 1) := by decide +kernel
theorem d4_27 : decode prog_5_method_3_code 27 = .ok (.ireturn, 1) := by decide +kernel
theorem pn_d4 : plainName "turnstile/bench/ReadWriteMutexScenario$Timing" = true := by first | (simp [plainName, overriddenIn]; done) | decide +kernel
theorem pd_d4 : parseMethodDescriptor "()Z" = some ⟨[], some .boolean⟩ := by decide +kernel
theorem d5_0 : decode prog_5_method_2_code 0 = .ok (.aload_n 0, 1) := by decide +kernel
theorem d5_1 : decode prog_5_method_2_code 1 = .ok (.getfield 15, 3) := by decide +kernel
theorem d5_4 : decode prog_5_method_2_code 4 = .ok (.aload_n 0, 1) := by decide +kernel
theorem d5_5 : decode prog_5_method_2_code 5 = .ok (.getfield 9, 3) := by decide +kernel
theorem d5_8 : decode prog_5_method_2_code 8 = .ok (.ddiv, 1) := by decide +kernel
theorem d5_9 : decode prog_5_method_2_code 9 = .ok (.dreturn, 1) := by decide +kernel
theorem pn_d5 : plainName "turnstile/bench/ReadWriteMutexScenario$Timing" = true := by first | (simp [plainName, overriddenIn]; done) | decide +kernel
theorem pd_d5 : parseMethodDescriptor "()D" = some ⟨[], some .double⟩ := by decide +kernel
theorem pn_at : plainName "turnstile/bench/TimingMeetsTargetPinLaw" = true := by first | (simp [plainName, overriddenIn]; done) | decide +kernel
theorem ef_rm_rec (m : MethodId) (x0 : Addr) : entryFrame m #[(.ref x0)] 1 = mkF m 0 #[.val (.ref x0)] [] := by first | (simp [entryFrame, mkF, argsToLocals, Value.category]; done) | rfl
set_option maxRecDepth 65536 in
set_option maxHeartbeats 40000000 in
theorem rm_rec (l : Launch) (Z : State) (a0 : Array Value) (hw : ∀ d ∈ tables_1, d.before a0 Z = true) (ws : List Jvm.Cond) (a1 : Addr) (h0 : Heap) (n0 : Nat) (Z0 : n0 ≤ h0.size)  :
    own_Ctr l Z (⟨"java/lang/Record", "<init>", "()V"⟩ : MethodName) jdk_30_method_1_code 1 none ws ({ frames := 1, cells := 0, slots := 0, locals := 12 } : Room) #[(.ref a1)] h0 (fun v h L => v = none ∧ Fr n0 L ∧ h = h0) := by
  refine own_enter (plainFor_of_name pn_d2) ?_
  intro p e s m below meth c s₁ Bd hZ hml X0 e0
  have hx := Bd.exec
  have hby := Bd.bytes
  have hown : s.vm.findClass "java/lang/Record" = some m.cls := findClass_of_methodNamed Bd.named
  have hnm := (name_of_methodNamed Bd.named Bd.method).1
  have N0 := Fr.nil n0
  refine own_go (t' := s₁.setTop (mkF m 0 #[.val (.ref a1)] [])) (fun _ k => castTop (ef_rm_rec m a1) k) ?_
  refine own_go (t' := s₁.setTop (mkF m 1 #[.val (.ref a1)] [(.ref a1)])) (fun _ k => XS.aloadN X0.here hx rfl (hb hby d2_0) rfl rfl k) ?_
  obtain ⟨T1, X1, e1, st1⟩ := initO X0 hx hZ hown (hw _ (List.mem_of_getElem? (i := 14) rfl)) (hw _ (List.mem_of_getElem? (i := 15) rfl)) (hw _ (List.mem_of_getElem? (i := 16) rfl)) e0 (g := (mkF m 1 #[.val (.ref a1)] [(.ref a1)])) rfl (by rw [hml]; rfl) rfl (hb hby d2_1) (by decide) (W := 0) (by show 2 * 0 + _ ≤ _; exact Nat.le_of_eq rfl) (by decide)
  refine own_go (t' := T1.setTop (mkF m 4 #[.val (.ref a1)] [])) st1 ?_
  exact own_retV X1 hx Bd.returns (BodyLoose.notSynchronized Bd) (hb hby d2_4) (by decide) (by decide) ⟨rfl, N0, e1⟩
theorem ef_rm_init (m : MethodId) (x0 : Addr) (x1 : UInt64) (x2 : UInt64) : entryFrame m #[(.ref x0), (.double x1), (.double x2)] 5 = mkF m 0 #[.val (.ref x0), .val (.double x1), .second, .val (.double x2), .second] [] := by first | (simp [entryFrame, mkF, argsToLocals, Value.category]; done) | rfl
set_option maxRecDepth 65536 in
set_option maxHeartbeats 40000000 in
theorem rm_init (l : Launch) (Z : State) (a0 : Array Value) (hw : ∀ d ∈ tables_1, d.before a0 Z = true) (ws : List Jvm.Cond) (a1 : Addr) (p2 p3 : UInt64) (u1 u2 : Value) (h0 : Heap) (n0 : Nat) (Z0 : n0 ≤ h0.size) (E1 : Exa Z h0 a1 "turnstile/bench/ReadWriteMutexScenario$Timing") (F1 : Fld Z h0 a1 "turnstile/bench/ReadWriteMutexScenario$Timing" "rwmutexSeconds" "D" u1) (F2 : Fld Z h0 a1 "turnstile/bench/ReadWriteMutexScenario$Timing" "monitorSeconds" "D" u2) (g1 : n0 ≤ a1) :
    own_Ctr l Z (⟨"turnstile/bench/ReadWriteMutexScenario$Timing", "<init>", "(DD)V"⟩ : MethodName) prog_5_method_1_code 5 none ws ({ frames := 2, cells := 0, slots := 0, locals := 24 } : Room) #[(.ref a1), (.double p2), (.double p3)] h0 (fun v h L => v = none ∧ Fr n0 L ∧ Keep h0 h [a1] ∧ Exa Z h a1 "turnstile/bench/ReadWriteMutexScenario$Timing" ∧ Fld Z h a1 "turnstile/bench/ReadWriteMutexScenario$Timing" "rwmutexSeconds" "D" (.double p2) ∧ Fld Z h a1 "turnstile/bench/ReadWriteMutexScenario$Timing" "monitorSeconds" "D" (.double p3)) := by
  refine own_enter (plainFor_of_name pn_d1) ?_
  intro p e s m below meth c s₁ Bd hZ hml X0 e0
  have hx := Bd.exec
  have hby := Bd.bytes
  have hown : s.vm.findClass "turnstile/bench/ReadWriteMutexScenario$Timing" = some m.cls := findClass_of_methodNamed Bd.named
  have hnm := (name_of_methodNamed Bd.named Bd.method).1
  have N0 := Fr.nil n0
  refine own_go (t' := s₁.setTop (mkF m 0 #[.val (.ref a1), .val (.double p2), .second, .val (.double p3), .second] [])) (fun _ k => castTop (ef_rm_init m a1 p2 p3) k) ?_
  refine own_go (t' := s₁.setTop (mkF m 1 #[.val (.ref a1), .val (.double p2), .second, .val (.double p3), .second] [(.ref a1)])) (fun _ k => XS.aloadN X0.here hx rfl (hb hby d1_0) rfl rfl k) ?_
  obtain ⟨T1, L1, v1, X1, hQ1, st1⟩ := own_special X0 hx hZ (y := (⟨"java/lang/Record", "<init>", "()V"⟩ : MethodName)) rfl hown (hw _ (List.mem_of_getElem? (i := 9) rfl)) (hw _ (List.mem_of_getElem? (i := 10) rfl)) (hw _ (List.mem_of_getElem? (i := 13) rfl)) (hw _ (List.mem_of_getElem? (i := 12) rfl)) (by decide) (rm_rec l Z a0 hw [] a1 h0 n0 Z0) e0 (g := (mkF m 1 #[.val (.ref a1), .val (.double p2), .second, .val (.double p3), .second] [(.ref a1)])) rfl (by rw [hml]; rfl) (argsL := []) (rest := []) (lenOf pd_d2 rfl) rfl (W := 0) (by show 2 * 0 + _ ≤ _; exact Nat.le_of_eq rfl) (hb hby d1_1) (by decide) (by decide) (by decide) (by decide)
  obtain ⟨rfl, Nq1, e1⟩ := hQ1
  have N1 := Fr.app N0 Nq1
  refine own_go (t' := T1.setTop (mkF m 4 #[.val (.ref a1), .val (.double p2), .second, .val (.double p3), .second] [])) st1 ?_
  refine own_go (t' := T1.setTop (mkF m 5 #[.val (.ref a1), .val (.double p2), .second, .val (.double p3), .second] [(.ref a1)])) (fun _ k => XS.aloadN X1.here hx rfl (hb hby d1_4) rfl rfl k) ?_
  refine own_go (t' := T1.setTop (mkF m 6 #[.val (.ref a1), .val (.double p2), .second, .val (.double p3), .second] [(.double p2), (.ref a1)])) (fun _ k => XS.dloadN X1.here hx rfl (hb hby d1_5) rfl k) ?_
  obtain ⟨T2, h2, X2, e2, W2, st2⟩ := putF X1 hx hZ hown (host := "") (Or.inl (hw _ (List.mem_of_getElem? (i := 17) rfl))) Via.refl e1 F1 E1 (Or.inr ⟨(hw _ (List.mem_of_getElem? (i := 18) rfl)), rfl, hnm⟩) (hw _ (List.mem_of_getElem? (i := 4) rfl)) (ty := .double) (by decide) rfl rfl (g := (mkF m 6 #[.val (.ref a1), .val (.double p2), .second, .val (.double p3), .second] [(.double p2), (.ref a1)])) rfl rfl (hb hby d1_6)
  refine own_go (t' := T2.setTop (mkF m 9 #[.val (.ref a1), .val (.double p2), .second, .val (.double p3), .second] [])) st2 ?_
  have N2 := Fr.snoc X2 N1 g1
  have sne : Jvm.RoadKit.slotOf Z "turnstile/bench/ReadWriteMutexScenario$Timing" "monitorSeconds" "D" ≠ Jvm.RoadKit.slotOf Z "turnstile/bench/ReadWriteMutexScenario$Timing" "rwmutexSeconds" "D" := slot_ne (C := "turnstile/bench/ReadWriteMutexScenario$Timing") (Or.inr (hw _ (List.mem_of_getElem? (i := 20) rfl))) (Or.inr (hw _ (List.mem_of_getElem? (i := 18) rfl))) (by decide) (t := .double) (t' := .double) (by decide) (by decide)
  have K2 : Keep h0 h2 [a1] := (Keep.refl _ _).wr W2 (Or.inl (List.mem_of_getElem? (i := 0) rfl))
  have E2a : Exa Z h2 a1 "turnstile/bench/ReadWriteMutexScenario$Timing" := E1.wr W2
  have F2a : Fld Z h2 a1 "turnstile/bench/ReadWriteMutexScenario$Timing" "rwmutexSeconds" "D" (.double p2) := F1.same W2
  have F2b : Fld Z h2 a1 "turnstile/bench/ReadWriteMutexScenario$Timing" "monitorSeconds" "D" u2 := F2.other W2 (Or.inr sne)
  refine own_go (t' := T2.setTop (mkF m 10 #[.val (.ref a1), .val (.double p2), .second, .val (.double p3), .second] [(.ref a1)])) (fun _ k => XS.aloadN X2.here hx rfl (hb hby d1_9) rfl rfl k) ?_
  refine own_go (t' := T2.setTop (mkF m 11 #[.val (.ref a1), .val (.double p2), .second, .val (.double p3), .second] [(.double p3), (.ref a1)])) (fun _ k => XS.dloadN X2.here hx rfl (hb hby d1_10) rfl k) ?_
  obtain ⟨T3, h3, X3, e3, W3, st3⟩ := putF X2 hx hZ hown (host := "") (Or.inl (hw _ (List.mem_of_getElem? (i := 19) rfl))) Via.refl e2 F2b E2a (Or.inr ⟨(hw _ (List.mem_of_getElem? (i := 20) rfl)), rfl, hnm⟩) (hw _ (List.mem_of_getElem? (i := 4) rfl)) (ty := .double) (by decide) rfl rfl (g := (mkF m 11 #[.val (.ref a1), .val (.double p2), .second, .val (.double p3), .second] [(.double p3), (.ref a1)])) rfl rfl (hb hby d1_11)
  refine own_go (t' := T3.setTop (mkF m 14 #[.val (.ref a1), .val (.double p2), .second, .val (.double p3), .second] [])) st3 ?_
  have N3 := Fr.snoc X3 N2 g1
  have K3 : Keep h0 h3 [a1] := K2.wr W3 (Or.inl (List.mem_of_getElem? (i := 0) rfl))
  have F3a : Fld Z h3 a1 "turnstile/bench/ReadWriteMutexScenario$Timing" "rwmutexSeconds" "D" (.double p2) := F2a.other W3 (Or.inr (Ne.symm sne))
  have F3b : Fld Z h3 a1 "turnstile/bench/ReadWriteMutexScenario$Timing" "monitorSeconds" "D" (.double p3) := F2b.same W3
  exact own_retV X3 hx Bd.returns (BodyLoose.notSynchronized Bd) (hb hby d1_14) (by decide) (by decide) ⟨rfl, N3, by rw [e3]; exact K3, by rw [e3]; exact E2a.wr W3, by rw [e3]; exact F3a, by rw [e3]; exact F3b⟩
theorem ef_rm_ratio (m : MethodId) (x0 : Addr) : entryFrame m #[(.ref x0)] 1 = mkF m 0 #[.val (.ref x0)] [] := by first | (simp [entryFrame, mkF, argsToLocals, Value.category]; done) | rfl
set_option maxRecDepth 65536 in
set_option maxHeartbeats 40000000 in
theorem rm_ratio (l : Launch) (Z : State) (a0 : Array Value) (hw : ∀ d ∈ tables_1, d.before a0 Z = true) (ws : List Jvm.Cond) (a1 : Addr) (p2 p3 : UInt64) (h0 : Heap) (n0 : Nat) (Z0 : n0 ≤ h0.size) (F1 : Fld Z h0 a1 "turnstile/bench/ReadWriteMutexScenario$Timing" "rwmutexSeconds" "D" (.double p2)) (F2 : Fld Z h0 a1 "turnstile/bench/ReadWriteMutexScenario$Timing" "monitorSeconds" "D" (.double p3)) (hn : Jvm.Free.Fl.NoNaN64 (FP.ddiv p3 p2)) :
    own_Ctr l Z (⟨"turnstile/bench/ReadWriteMutexScenario$Timing", "ratio", "()D"⟩ : MethodName) prog_5_method_2_code 1 (some .double) ws ({ frames := 0, cells := 0, slots := 0, locals := 0 } : Room) #[(.ref a1)] h0 (fun v h L => v = some (.double (FP.ddiv p3 p2)) ∧ Fr n0 L ∧ h = h0) := by
  refine own_enter (plainFor_of_name pn_d5) ?_
  intro p e s m below meth c s₁ Bd hZ hml X0 e0
  have hx := Bd.exec
  have hby := Bd.bytes
  have hown : s.vm.findClass "turnstile/bench/ReadWriteMutexScenario$Timing" = some m.cls := findClass_of_methodNamed Bd.named
  have hnm := (name_of_methodNamed Bd.named Bd.method).1
  have N0 := Fr.nil n0
  refine own_go (t' := s₁.setTop (mkF m 0 #[.val (.ref a1)] [])) (fun _ k => castTop (ef_rm_ratio m a1) k) ?_
  refine own_go (t' := s₁.setTop (mkF m 1 #[.val (.ref a1)] [(.ref a1)])) (fun _ k => XS.aloadN X0.here hx rfl (hb hby d5_0) rfl rfl k) ?_
  obtain ⟨T1, X1, e1, st1⟩ := getF X0 hx hZ hown (host := "") (Or.inl (hw _ (List.mem_of_getElem? (i := 19) rfl))) Via.refl e0 F2 (g := (mkF m 1 #[.val (.ref a1)] [(.ref a1)])) rfl rfl (hb hby d5_1)
  refine own_go (t' := T1.setTop (mkF m 4 #[.val (.ref a1)] [(.double p3)])) st1 ?_
  refine own_go (t' := T1.setTop (mkF m 5 #[.val (.ref a1)] [(.ref a1), (.double p3)])) (fun _ k => XS.aloadN X1.here hx rfl (hb hby d5_4) rfl rfl k) ?_
  obtain ⟨T2, X2, e2, st2⟩ := getF X1 hx hZ hown (host := "") (Or.inl (hw _ (List.mem_of_getElem? (i := 17) rfl))) Via.refl e1 F1 (g := (mkF m 5 #[.val (.ref a1)] [(.ref a1), (.double p3)])) rfl rfl (hb hby d5_5)
  refine own_go (t' := T2.setTop (mkF m 8 #[.val (.ref a1)] [(.double p2), (.double p3)])) st2 ?_
  refine own_go (t' := T2.setTop (mkF m 9 #[.val (.ref a1)] [(.double (FP.ddiv p3 p2))])) (fun _ k => XS.ddivS X2.here hx rfl (hb hby d5_8) rfl hn rfl k) ?_
  exact own_retD X2 hx Bd.returns (BodyLoose.notSynchronized Bd) (hb hby d5_9) (by decide) (by decide) ⟨rfl, N0, e2⟩
theorem ef_rm_meets (m : MethodId) (x0 : Addr) : entryFrame m #[(.ref x0)] 1 = mkF m 0 #[.val (.ref x0)] [] := by first | (simp [entryFrame, mkF, argsToLocals, Value.category]; done) | rfl
set_option maxRecDepth 65536 in
set_option maxHeartbeats 40000000 in
theorem rm_meets (l : Launch) (Z : State) (a0 : Array Value) (hw : ∀ d ∈ tables_1, d.before a0 Z = true) (ws : List Jvm.Cond) (a1 : Addr) (p2 p3 : UInt64) (h0 : Heap) (n0 : Nat) (Z0 : n0 ≤ h0.size) (E1 : Exa Z h0 a1 "turnstile/bench/ReadWriteMutexScenario$Timing") (F1 : Fld Z h0 a1 "turnstile/bench/ReadWriteMutexScenario$Timing" "rwmutexSeconds" "D" (.double p2)) (F2 : Fld Z h0 a1 "turnstile/bench/ReadWriteMutexScenario$Timing" "monitorSeconds" "D" (.double p3)) (hn : Jvm.Free.Fl.NoNaN64 (FP.ddiv p3 p2)) :
    own_Ctr l Z (⟨"turnstile/bench/ReadWriteMutexScenario$Timing", "meetsTarget", "()Z"⟩ : MethodName) prog_5_method_3_code 1 (some .boolean) ws ({ frames := 1, cells := 0, slots := 0, locals := 12 } : Room) #[(.ref a1)] h0 (fun v h L => v = some (.int (if cmpValue (FP.dcmp (FP.ddiv p3 p2) (4626885667169763328 : UInt64)) CmpOp.l < 0 ∨ cmpValue (FP.dcmp p3 (4624718309849091277 : UInt64)) CmpOp.l < 0 then 0 else 1)) ∧ Fr n0 L ∧ h = h0) := by
  refine own_enter (plainFor_of_name pn_d4) ?_
  intro p e s m below meth c s₁ Bd hZ hml X0 e0
  have hx := Bd.exec
  have hby := Bd.bytes
  have hown : s.vm.findClass "turnstile/bench/ReadWriteMutexScenario$Timing" = some m.cls := findClass_of_methodNamed Bd.named
  have hnm := (name_of_methodNamed Bd.named Bd.method).1
  have N0 := Fr.nil n0
  refine own_go (t' := s₁.setTop (mkF m 0 #[.val (.ref a1)] [])) (fun _ k => castTop (ef_rm_meets m a1) k) ?_
  refine own_go (t' := s₁.setTop (mkF m 1 #[.val (.ref a1)] [(.ref a1)])) (fun _ k => XS.aloadN X0.here hx rfl (hb hby d4_0) rfl rfl k) ?_
  obtain ⟨T1, L1, v1, X1, hQ1, st1⟩ := own_virtual X0 hx hZ (y := (⟨"turnstile/bench/ReadWriteMutexScenario$Timing", "ratio", "()D"⟩ : MethodName)) hown (hw _ (List.mem_of_getElem? (i := 27) rfl)) (hw _ (List.mem_of_getElem? (i := 28) rfl)) (hw _ (List.mem_of_getElem? (i := 30) rfl)) (hw _ (List.mem_of_getElem? (i := 29) rfl)) (hw _ (List.mem_of_getElem? (i := 31) rfl)) (hw _ (List.mem_of_getElem? (i := 5) rfl)) (by decide) E1 (rm_ratio l Z a0 hw [] a1 p2 p3 h0 n0 Z0 F1 F2 hn) e0 (g := (mkF m 1 #[.val (.ref a1)] [(.ref a1)])) rfl (by rw [hml]; rfl) (argsL := []) (rest := []) (lenOf pd_d5 rfl) rfl (W := 0) (by show 2 * 0 + _ ≤ _; exact Nat.le_of_eq rfl) (hb hby d4_1) (by decide) (by decide) (by decide) (by decide)
  obtain ⟨rfl, Nq1, e1⟩ := hQ1
  have N1 := Fr.app N0 Nq1
  refine own_go (t' := T1.setTop (mkF m 4 #[.val (.ref a1)] [(.double (FP.ddiv p3 p2))])) st1 ?_
  refine own_go (t' := T1.setTop (mkF m 7 #[.val (.ref a1)] [(.double (4626885667169763328 : UInt64)), (.double (FP.ddiv p3 p2))])) (X1.ldc2DoubleC hx (own := "turnstile/bench/ReadWriteMutexScenario$Timing") (index := 22) (b := (4626885667169763328 : UInt64)) hown (mvT hZ (hw _ (List.mem_of_getElem? (i := 32) rfl))) (g := (mkF m 4 #[.val (.ref a1)] [(.double (FP.ddiv p3 p2))])) rfl (hb hby d4_4)) ?_
  refine own_go (t' := T1.setTop (mkF m 8 #[.val (.ref a1)] [(.int (cmpValue (FP.dcmp (FP.ddiv p3 p2) (4626885667169763328 : UInt64)) CmpOp.l))])) (fun _ k => XS.dcmpS X1.here hx rfl (hb hby d4_7) rfl rfl k) ?_
  by_cases hc1 : cmpValue (FP.dcmp (FP.ddiv p3 p2) (4626885667169763328 : UInt64)) CmpOp.l < 0
  ·
    refine own_go (t' := T1.setTop (mkF m 26 #[.val (.ref a1)] [])) (fun _ k => XS.ifYes X1.here hx rfl (pc0 := 8) (pc' := 26) rfl (hb hby d4_8) rfl ((if0 _ _).trans (tlt hc1).1) (by decide) (by decide) k) ?_
    refine own_go (t' := T1.setTop (mkF m 27 #[.val (.ref a1)] [(.int (0 : Int32))])) (fun _ k => XS.iconst X1.here hx rfl (hb hby d4_26) k) ?_
    exact own_retZ X1 hx Bd.returns (BodyLoose.notSynchronized Bd) rfl (hb hby d4_27) (by decide) (by decide) ⟨by rw [if_pos (Or.inl hc1)], N1, e1⟩
  ·
    refine own_go (t' := T1.setTop (mkF m 11 #[.val (.ref a1)] [])) (fun _ k => XS.ifNo X1.here hx rfl (hb hby d4_8) rfl ((if0 _ _).trans (flt hc1).1) k) ?_
    refine own_go (t' := T1.setTop (mkF m 12 #[.val (.ref a1)] [(.ref a1)])) (fun _ k => XS.aloadN X1.here hx rfl (hb hby d4_11) rfl rfl k) ?_
    obtain ⟨T2, X2, e2, st2⟩ := getF X1 hx hZ hown (host := "") (Or.inl (hw _ (List.mem_of_getElem? (i := 19) rfl))) Via.refl e1 F2 (g := (mkF m 12 #[.val (.ref a1)] [(.ref a1)])) rfl rfl (hb hby d4_12)
    refine own_go (t' := T2.setTop (mkF m 15 #[.val (.ref a1)] [(.double p3)])) st2 ?_
    refine own_go (t' := T2.setTop (mkF m 18 #[.val (.ref a1)] [(.double (4624718309849091277 : UInt64)), (.double p3)])) (X2.ldc2DoubleC hx (own := "turnstile/bench/ReadWriteMutexScenario$Timing") (index := 24) (b := (4624718309849091277 : UInt64)) hown (mvT hZ (hw _ (List.mem_of_getElem? (i := 34) rfl))) (g := (mkF m 15 #[.val (.ref a1)] [(.double p3)])) rfl (hb hby d4_15)) ?_
    refine own_go (t' := T2.setTop (mkF m 19 #[.val (.ref a1)] [(.int (cmpValue (FP.dcmp p3 (4624718309849091277 : UInt64)) CmpOp.l))])) (fun _ k => XS.dcmpS X2.here hx rfl (hb hby d4_18) rfl rfl k) ?_
    by_cases hc2 : cmpValue (FP.dcmp p3 (4624718309849091277 : UInt64)) CmpOp.l < 0
    ·
      refine own_go (t' := T2.setTop (mkF m 26 #[.val (.ref a1)] [])) (fun _ k => XS.ifYes X2.here hx rfl (pc0 := 19) (pc' := 26) rfl (hb hby d4_19) rfl ((if0 _ _).trans (tlt hc2).1) (by decide) (by decide) k) ?_
      refine own_go (t' := T2.setTop (mkF m 27 #[.val (.ref a1)] [(.int (0 : Int32))])) (fun _ k => XS.iconst X2.here hx rfl (hb hby d4_26) k) ?_
      exact own_retZ X2 hx Bd.returns (BodyLoose.notSynchronized Bd) rfl (hb hby d4_27) (by decide) (by decide) ⟨by rw [if_pos (Or.inr hc2)], N1, e2⟩
    ·
      refine own_go (t' := T2.setTop (mkF m 22 #[.val (.ref a1)] [])) (fun _ k => XS.ifNo X2.here hx rfl (hb hby d4_19) rfl ((if0 _ _).trans (flt hc2).1) k) ?_
      refine own_go (t' := T2.setTop (mkF m 23 #[.val (.ref a1)] [(.int (1 : Int32))])) (fun _ k => XS.iconst X2.here hx rfl (hb hby d4_22) k) ?_
      refine own_go (t' := T2.setTop (mkF m 27 #[.val (.ref a1)] [(.int (1 : Int32))])) (fun _ k => XS.goto X2.here hx rfl (pc0 := 23) (pc' := 27) rfl (hb hby d4_23) (by decide) (by decide) k) ?_
      exact own_retZ X2 hx Bd.returns (BodyLoose.notSynchronized Bd) rfl (hb hby d4_27) (by decide) (by decide) ⟨by rw [if_neg (not_or.mpr ⟨hc1, hc2⟩)], N1, e2⟩
theorem own_rem (x : Int32) : (x % (16777216 : Int32)).toInt64.toInt.natAbs < 16777216 := by
  rw [Int32.toInt_toInt64]
  have h := c_irem x 16777216 16777216 (by decide)
  rcases Int.lt_or_le x.toInt 0 with q | q
  · have := h.2 q; omega
  · have := h.1 q; omega
theorem own_and (y : Int32) : 1 ≤ ((y &&& (16777215 : Int32)).toInt64 + (1 : Int64)).toInt ∧ ((y &&& (16777215 : Int32)).toInt64 + (1 : Int64)).toInt ≤ 16777216 := by
  have h := c_and y 16777215 (by decide)
  rw [show (16777215 : Int32).toInt = 16777215 by decide] at h
  have e := c_ladd (y &&& (16777215 : Int32)).toInt64 1
  rw [Int32.toInt_toInt64, show (1 : Int64).toInt = 1 by decide] at e
  have r := rng64 ((y &&& (16777215 : Int32)).toInt64 + (1 : Int64))
  omega
theorem own_mul22 {b : Int64} (h1 : 1 ≤ b.toInt) (h2 : b.toInt ≤ 16777216) : ((22 : Int64) * b).toInt = 22 * b.toInt := by
  have e := c_lmul (22 : Int64) b
  rw [show (22 : Int64).toInt = 22 by decide] at e
  have r := rng64 ((22 : Int64) * b)
  omega
theorem own_lc (x y : Int64) : lcmpW x y < 0 ↔ x.toInt < y.toInt := by rw [lw_lt, Int64.lt_iff_toInt_lt]
theorem own_same {a b : Int64} (ha : a.toInt.natAbs < 16777216) (hb : 1 ≤ b.toInt ∧ b.toInt ≤ 16777216) :
    (cmpValue (FP.dcmp (FP.ddiv (FP.ddiv (FP.l2d a) 4652218415073722368) (FP.ddiv (FP.l2d b) 4652218415073722368)) 4626885667169763328) CmpOp.l < 0 ↔ lcmpW a ((22 : Int64) * b) < 0) ∧
    (cmpValue (FP.dcmp (FP.ddiv (FP.l2d a) 4652218415073722368) 4624718309849091277) CmpOp.l < 0 ↔ lcmpW a (15514 : Int64) < 0) ∧
    Jvm.Free.Fl.NoNaN64 (FP.ddiv (FP.l2d a) 4652218415073722368) ∧ Jvm.Free.Fl.NoNaN64 (FP.ddiv (FP.l2d b) 4652218415073722368) ∧
    Jvm.Free.Fl.NoNaN64 (FP.ddiv (FP.ddiv (FP.l2d a) 4652218415073722368) (FP.ddiv (FP.l2d b) 4652218415073722368)) := by
  obtain ⟨t1, t2, t3⟩ := OwnFp.target_core ha hb.1 hb.2
  have fa := (OwnFp.sec_core (a := a) (by omega)).1
  have fb := (OwnFp.sec_core (a := b) (by omega)).1
  refine ⟨?_, ?_, OwnFp.no_nan (OwnFp.fin_nan fa), OwnFp.no_nan (OwnFp.fin_nan fb), OwnFp.no_nan t1⟩
  · rw [own_lc, own_mul22 hb.1 hb.2]
    exact (OwnFp.cmp_lt t1 (OwnFp.fin_nan OwnFp.fin_22) _).trans t2
  · rw [own_lc, show (15514 : Int64).toInt = 15514 by decide]
    exact (OwnFp.cmp_lt (OwnFp.fin_nan fa) (OwnFp.fin_nan OwnFp.fin_15) _).trans t3
theorem ef_rm_law (m : MethodId) (x0 : Int32) (x1 : Int32) : entryFrame m #[(.int x0), (.int x1)] maxLocals = mkF m 0 #[.val (.int x0), .val (.int x1), .unset, .unset, .unset, .unset, .unset, .unset, .unset, .unset, .unset, .unset] [] := by first | (simp [entryFrame, mkF, argsToLocals, Value.category, maxLocals]; done) | rfl
set_option maxRecDepth 65536 in
set_option maxHeartbeats 40000000 in
theorem rm_law (l : Launch) (Z : State) (a0 : Array Value) (hw : ∀ d ∈ tables_1, d.before a0 Z = true) (ws : List Jvm.Cond) (p0 p1 : Int32) (h0 : Heap) (n0 : Nat) (Z0 : n0 ≤ h0.size)  :
    own_Ctr l Z x code maxLocals ret ws room_1 #[(.int p0), (.int p1)] h0 (fun v h L => v = some (.int 1) ∧ Fr n0 L) := by
  refine own_enter (plainFor_of_name pn_at) ?_
  intro p e s m below meth c s₁ Bd hZ hml X0 e0
  have hx := Bd.exec
  have hby := Bd.bytes
  have hown : s.vm.findClass "turnstile/bench/TimingMeetsTargetPinLaw" = some m.cls := findClass_of_methodNamed Bd.named
  have hnm := (name_of_methodNamed Bd.named Bd.method).1
  have N0 := Fr.nil n0
  refine own_go (t' := s₁.setTop (mkF m 0 #[.val (.int p0), .val (.int p1), .unset, .unset, .unset, .unset, .unset, .unset, .unset, .unset, .unset, .unset] [])) (fun _ k => castTop (ef_rm_law m p0 p1) k) ?_
  refine own_go (t' := s₁.setTop (mkF m 1 #[.val (.int p0), .val (.int p1), .unset, .unset, .unset, .unset, .unset, .unset, .unset, .unset, .unset, .unset] [(.int p0)])) (fun _ k => XS.iloadN X0.here hx rfl (hb hby at_0) rfl k) ?_
  refine own_go (t' := s₁.setTop (mkF m 3 #[.val (.int p0), .val (.int p1), .unset, .unset, .unset, .unset, .unset, .unset, .unset, .unset, .unset, .unset] [(.int (16777216 : Int32)), (.int p0)])) (fun _ k => X0.ldcI (own := "turnstile/bench/TimingMeetsTargetPinLaw") (index := 7) (v := (16777216 : Int32)) hx hown (mvT hZ (hw _ (List.mem_of_getElem? (i := 0) rfl))) rfl (hb hby at_1) k) ?_
  refine own_go (t' := s₁.setTop (mkF m 4 #[.val (.int p0), .val (.int p1), .unset, .unset, .unset, .unset, .unset, .unset, .unset, .unset, .unset, .unset] [(.int (p0 % (16777216 : Int32)))])) (fun _ k => iremM X0 hx rfl (hb hby at_3) rfl (by decide) k) ?_
  refine own_go (t' := s₁.setTop (mkF m 5 #[.val (.int p0), .val (.int p1), .unset, .unset, .unset, .unset, .unset, .unset, .unset, .unset, .unset, .unset] [(.long (p0 % (16777216 : Int32)).toInt64)])) (fun _ k => XS.i2l X0.here hx rfl (hb hby at_4) rfl k) ?_
  refine own_go (t' := s₁.setTop (mkF m 6 #[.val (.int p0), .val (.int p1), .val (.long (p0 % (16777216 : Int32)).toInt64), .second, .unset, .unset, .unset, .unset, .unset, .unset, .unset, .unset] [])) (fun _ k => XS.lstoreN X0.here hx rfl (hb hby at_5) rfl (l' := #[.val (.int p0), .val (.int p1), .val (.long (p0 % (16777216 : Int32)).toInt64), .second, .unset, .unset, .unset, .unset, .unset, .unset, .unset, .unset]) rfl k) ?_
  refine own_go (t' := s₁.setTop (mkF m 7 #[.val (.int p0), .val (.int p1), .val (.long (p0 % (16777216 : Int32)).toInt64), .second, .unset, .unset, .unset, .unset, .unset, .unset, .unset, .unset] [(.int p1)])) (fun _ k => XS.iloadN X0.here hx rfl (hb hby at_6) rfl k) ?_
  refine own_go (t' := s₁.setTop (mkF m 9 #[.val (.int p0), .val (.int p1), .val (.long (p0 % (16777216 : Int32)).toInt64), .second, .unset, .unset, .unset, .unset, .unset, .unset, .unset, .unset] [(.int (16777215 : Int32)), (.int p1)])) (fun _ k => X0.ldcI (own := "turnstile/bench/TimingMeetsTargetPinLaw") (index := 8) (v := (16777215 : Int32)) hx hown (mvT hZ (hw _ (List.mem_of_getElem? (i := 1) rfl))) rfl (hb hby at_7) k) ?_
  refine own_go (t' := s₁.setTop (mkF m 10 #[.val (.int p0), .val (.int p1), .val (.long (p0 % (16777216 : Int32)).toInt64), .second, .unset, .unset, .unset, .unset, .unset, .unset, .unset, .unset] [(.int (p1 &&& (16777215 : Int32)))])) (fun _ k => XS.iand X0.here hx rfl (hb hby at_9) rfl k) ?_
  refine own_go (t' := s₁.setTop (mkF m 11 #[.val (.int p0), .val (.int p1), .val (.long (p0 % (16777216 : Int32)).toInt64), .second, .unset, .unset, .unset, .unset, .unset, .unset, .unset, .unset] [(.long (p1 &&& (16777215 : Int32)).toInt64)])) (fun _ k => XS.i2l X0.here hx rfl (hb hby at_10) rfl k) ?_
  refine own_go (t' := s₁.setTop (mkF m 12 #[.val (.int p0), .val (.int p1), .val (.long (p0 % (16777216 : Int32)).toInt64), .second, .unset, .unset, .unset, .unset, .unset, .unset, .unset, .unset] [(.long (1 : Int64)), (.long (p1 &&& (16777215 : Int32)).toInt64)])) (fun _ k => XS.lconst X0.here hx rfl (hb hby at_11) k) ?_
  refine own_go (t' := s₁.setTop (mkF m 13 #[.val (.int p0), .val (.int p1), .val (.long (p0 % (16777216 : Int32)).toInt64), .second, .unset, .unset, .unset, .unset, .unset, .unset, .unset, .unset] [(.long ((p1 &&& (16777215 : Int32)).toInt64 + (1 : Int64)))])) (fun _ k => XS.ladd X0.here hx rfl (hb hby at_12) rfl k) ?_
  refine own_go (t' := s₁.setTop (mkF m 15 #[.val (.int p0), .val (.int p1), .val (.long (p0 % (16777216 : Int32)).toInt64), .second, .val (.long ((p1 &&& (16777215 : Int32)).toInt64 + (1 : Int64))), .second, .unset, .unset, .unset, .unset, .unset, .unset] [])) (fun _ k => XS.lstore X0.here hx rfl (hb hby at_13) rfl (l' := #[.val (.int p0), .val (.int p1), .val (.long (p0 % (16777216 : Int32)).toInt64), .second, .val (.long ((p1 &&& (16777215 : Int32)).toInt64 + (1 : Int64))), .second, .unset, .unset, .unset, .unset, .unset, .unset]) rfl k) ?_
  have hA := own_rem p0
  have hB := own_and p1
  generalize (p0 % (16777216 : Int32)).toInt64 = A at hA ⊢
  generalize ((p1 &&& (16777215 : Int32)).toInt64 + (1 : Int64)) = B at hB ⊢
  obtain ⟨s1, s2, n1, n2, n3⟩ := own_same hA hB
  refine own_go (t' := s₁.setTop (mkF m 16 #[.val (.int p0), .val (.int p1), .val (.long A), .second, .val (.long B), .second, .unset, .unset, .unset, .unset, .unset, .unset] [(.long A)])) (fun _ k => XS.lloadN X0.here hx rfl (hb hby at_15) rfl k) ?_
  refine own_go (t' := s₁.setTop (mkF m 17 #[.val (.int p0), .val (.int p1), .val (.long A), .second, .val (.long B), .second, .unset, .unset, .unset, .unset, .unset, .unset] [(.double (FP.l2d A))])) (fun _ k => XS.l2dS X0.here hx rfl (hb hby at_16) rfl rfl k) ?_
  refine own_go (t' := s₁.setTop (mkF m 20 #[.val (.int p0), .val (.int p1), .val (.long A), .second, .val (.long B), .second, .unset, .unset, .unset, .unset, .unset, .unset] [(.double (4652218415073722368 : UInt64)), (.double (FP.l2d A))])) (X0.ldc2DoubleC hx (own := "turnstile/bench/TimingMeetsTargetPinLaw") (index := 9) (b := (4652218415073722368 : UInt64)) hown (mvT hZ (hw _ (List.mem_of_getElem? (i := 2) rfl))) (g := (mkF m 17 #[.val (.int p0), .val (.int p1), .val (.long A), .second, .val (.long B), .second, .unset, .unset, .unset, .unset, .unset, .unset] [(.double (FP.l2d A))])) rfl (hb hby at_17)) ?_
  refine own_go (t' := s₁.setTop (mkF m 21 #[.val (.int p0), .val (.int p1), .val (.long A), .second, .val (.long B), .second, .unset, .unset, .unset, .unset, .unset, .unset] [(.double (FP.ddiv (FP.l2d A) (4652218415073722368 : UInt64)))])) (fun _ k => XS.ddivS X0.here hx rfl (hb hby at_20) rfl n1 rfl k) ?_
  refine own_go (t' := s₁.setTop (mkF m 23 #[.val (.int p0), .val (.int p1), .val (.long A), .second, .val (.long B), .second, .val (.double (FP.ddiv (FP.l2d A) (4652218415073722368 : UInt64))), .second, .unset, .unset, .unset, .unset] [])) (fun _ k => XS.dstore X0.here hx rfl (hb hby at_21) rfl (l' := #[.val (.int p0), .val (.int p1), .val (.long A), .second, .val (.long B), .second, .val (.double (FP.ddiv (FP.l2d A) (4652218415073722368 : UInt64))), .second, .unset, .unset, .unset, .unset]) rfl k) ?_
  refine own_go (t' := s₁.setTop (mkF m 25 #[.val (.int p0), .val (.int p1), .val (.long A), .second, .val (.long B), .second, .val (.double (FP.ddiv (FP.l2d A) (4652218415073722368 : UInt64))), .second, .unset, .unset, .unset, .unset] [(.long B)])) (fun _ k => XS.lload X0.here hx rfl (hb hby at_23) rfl k) ?_
  refine own_go (t' := s₁.setTop (mkF m 26 #[.val (.int p0), .val (.int p1), .val (.long A), .second, .val (.long B), .second, .val (.double (FP.ddiv (FP.l2d A) (4652218415073722368 : UInt64))), .second, .unset, .unset, .unset, .unset] [(.double (FP.l2d B))])) (fun _ k => XS.l2dS X0.here hx rfl (hb hby at_25) rfl rfl k) ?_
  refine own_go (t' := s₁.setTop (mkF m 29 #[.val (.int p0), .val (.int p1), .val (.long A), .second, .val (.long B), .second, .val (.double (FP.ddiv (FP.l2d A) (4652218415073722368 : UInt64))), .second, .unset, .unset, .unset, .unset] [(.double (4652218415073722368 : UInt64)), (.double (FP.l2d B))])) (X0.ldc2DoubleC hx (own := "turnstile/bench/TimingMeetsTargetPinLaw") (index := 9) (b := (4652218415073722368 : UInt64)) hown (mvT hZ (hw _ (List.mem_of_getElem? (i := 2) rfl))) (g := (mkF m 26 #[.val (.int p0), .val (.int p1), .val (.long A), .second, .val (.long B), .second, .val (.double (FP.ddiv (FP.l2d A) (4652218415073722368 : UInt64))), .second, .unset, .unset, .unset, .unset] [(.double (FP.l2d B))])) rfl (hb hby at_26)) ?_
  refine own_go (t' := s₁.setTop (mkF m 30 #[.val (.int p0), .val (.int p1), .val (.long A), .second, .val (.long B), .second, .val (.double (FP.ddiv (FP.l2d A) (4652218415073722368 : UInt64))), .second, .unset, .unset, .unset, .unset] [(.double (FP.ddiv (FP.l2d B) (4652218415073722368 : UInt64)))])) (fun _ k => XS.ddivS X0.here hx rfl (hb hby at_29) rfl n2 rfl k) ?_
  refine own_go (t' := s₁.setTop (mkF m 32 #[.val (.int p0), .val (.int p1), .val (.long A), .second, .val (.long B), .second, .val (.double (FP.ddiv (FP.l2d A) (4652218415073722368 : UInt64))), .second, .val (.double (FP.ddiv (FP.l2d B) (4652218415073722368 : UInt64))), .second, .unset, .unset] [])) (fun _ k => XS.dstore X0.here hx rfl (hb hby at_30) rfl (l' := #[.val (.int p0), .val (.int p1), .val (.long A), .second, .val (.long B), .second, .val (.double (FP.ddiv (FP.l2d A) (4652218415073722368 : UInt64))), .second, .val (.double (FP.ddiv (FP.l2d B) (4652218415073722368 : UInt64))), .second, .unset, .unset]) rfl k) ?_
  generalize (FP.ddiv (FP.l2d A) (4652218415073722368 : UInt64)) = MD at s1 s2 n3 ⊢
  generalize (FP.ddiv (FP.l2d B) (4652218415073722368 : UInt64)) = RD at s1 n3 ⊢
  obtain ⟨T1, h1, X1, e1, E1, A1, D1, -, st1⟩ := newO X0 hx hZ hown (hw _ (List.mem_of_getElem? (i := 3) rfl)) (hw _ (List.mem_of_getElem? (i := 4) rfl)) (hw _ (List.mem_of_getElem? (i := 5) rfl)) e0 (g := (mkF m 32 #[.val (.int p0), .val (.int p1), .val (.long A), .second, .val (.long B), .second, .val (.double MD), .second, .val (.double RD), .second, .unset, .unset] [])) rfl (hb hby at_32) (by decide) (by decide)
  obtain ⟨a3, g1⟩ : ∃ z, z = h0.size := ⟨_, rfl⟩
  rw [← g1] at A1 D1 st1
  refine own_go (t' := T1.setTop (mkF m 35 #[.val (.int p0), .val (.int p1), .val (.long A), .second, .val (.long B), .second, .val (.double MD), .second, .val (.double RD), .second, .unset, .unset] [(.ref a3)])) st1 ?_
  have F1 : Fld Z h1 a3 "turnstile/bench/ReadWriteMutexScenario$Timing" "rwmutexSeconds" "D" (.double 0) := D1 (Or.inr (hw _ (List.mem_of_getElem? (i := 18) rfl))) (ty := .double) (by decide)
  have F2 : Fld Z h1 a3 "turnstile/bench/ReadWriteMutexScenario$Timing" "monitorSeconds" "D" (.double 0) := D1 (Or.inr (hw _ (List.mem_of_getElem? (i := 20) rfl))) (ty := .double) (by decide)
  have Z1 : n0 ≤ h1.size := Nat.le_trans Z0 E1.1
  refine own_go (t' := T1.setTop (mkF m 36 #[.val (.int p0), .val (.int p1), .val (.long A), .second, .val (.long B), .second, .val (.double MD), .second, .val (.double RD), .second, .unset, .unset] [(.ref a3), (.ref a3)])) (fun _ k => XS.dup X1.here hx rfl (hb hby at_35) rfl rfl k) ?_
  refine own_go (t' := T1.setTop (mkF m 38 #[.val (.int p0), .val (.int p1), .val (.long A), .second, .val (.long B), .second, .val (.double MD), .second, .val (.double RD), .second, .unset, .unset] [(.double RD), (.ref a3), (.ref a3)])) (fun _ k => XS.dload X1.here hx rfl (hb hby at_36) rfl k) ?_
  refine own_go (t' := T1.setTop (mkF m 40 #[.val (.int p0), .val (.int p1), .val (.long A), .second, .val (.long B), .second, .val (.double MD), .second, .val (.double RD), .second, .unset, .unset] [(.double MD), (.double RD), (.ref a3), (.ref a3)])) (fun _ k => XS.dload X1.here hx rfl (hb hby at_38) rfl k) ?_
  obtain ⟨T2, L2, v2, X2, hQ2, st2⟩ := own_special X1 hx hZ (y := (⟨"turnstile/bench/ReadWriteMutexScenario$Timing", "<init>", "(DD)V"⟩ : MethodName)) rfl hown (hw _ (List.mem_of_getElem? (i := 6) rfl)) (hw _ (List.mem_of_getElem? (i := 7) rfl)) (hw _ (List.mem_of_getElem? (i := 8) rfl)) (hw _ (List.mem_of_getElem? (i := 5) rfl)) (by decide) (rm_init l Z a0 hw [] a3 RD MD _ _ h1 n0 Z1 A1 F1 F2 (Nat.le_trans Z0 (Nat.le_of_eq g1.symm))) e1 (g := (mkF m 40 #[.val (.int p0), .val (.int p1), .val (.long A), .second, .val (.long B), .second, .val (.double MD), .second, .val (.double RD), .second, .unset, .unset] [(.double MD), (.double RD), (.ref a3), (.ref a3)])) rfl (by rw [hml]; rfl) (argsL := [(.double RD), (.double MD)]) (rest := [(.ref a3)]) (lenOf pd_d1 rfl) rfl (W := 1) (by show 2 * 0 + _ ≤ _; exact Nat.le_of_eq rfl) (hb hby at_40) (by decide) (by decide) (by decide) (by decide)
  obtain ⟨rfl, Nq2, K2, E2, F3, F4⟩ := hQ2
  have N2 := Fr.app N0 Nq2
  refine own_go (t' := T2.setTop (mkF m 43 #[.val (.int p0), .val (.int p1), .val (.long A), .second, .val (.long B), .second, .val (.double MD), .second, .val (.double RD), .second, .unset, .unset] [(.ref a3)])) st2 ?_
  have Z2 : n0 ≤ T2.heap.size := Nat.le_trans Z1 K2.1
  refine own_go (t' := T2.setTop (mkF m 45 #[.val (.int p0), .val (.int p1), .val (.long A), .second, .val (.long B), .second, .val (.double MD), .second, .val (.double RD), .second, .val (.ref a3), .unset] [])) (fun _ k => XS.astore X2.here hx rfl (hb hby at_43) rfl rfl (l' := #[.val (.int p0), .val (.int p1), .val (.long A), .second, .val (.long B), .second, .val (.double MD), .second, .val (.double RD), .second, .val (.ref a3), .unset]) rfl k) ?_
  refine own_go (t' := T2.setTop (mkF m 46 #[.val (.int p0), .val (.int p1), .val (.long A), .second, .val (.long B), .second, .val (.double MD), .second, .val (.double RD), .second, .val (.ref a3), .unset] [(.long A)])) (fun _ k => XS.lloadN X2.here hx rfl (hb hby at_45) rfl k) ?_
  refine own_go (t' := T2.setTop (mkF m 49 #[.val (.int p0), .val (.int p1), .val (.long A), .second, .val (.long B), .second, .val (.double MD), .second, .val (.double RD), .second, .val (.ref a3), .unset] [(.long (22 : Int64)), (.long A)])) (fun _ k => X2.ldc2J (own := "turnstile/bench/TimingMeetsTargetPinLaw") (index := 16) (v := (22 : Int64)) hx hown (mvT hZ (hw _ (List.mem_of_getElem? (i := 21) rfl))) rfl (hb hby at_46) k) ?_
  refine own_go (t' := T2.setTop (mkF m 51 #[.val (.int p0), .val (.int p1), .val (.long A), .second, .val (.long B), .second, .val (.double MD), .second, .val (.double RD), .second, .val (.ref a3), .unset] [(.long B), (.long (22 : Int64)), (.long A)])) (fun _ k => XS.lload X2.here hx rfl (hb hby at_49) rfl k) ?_
  refine own_go (t' := T2.setTop (mkF m 52 #[.val (.int p0), .val (.int p1), .val (.long A), .second, .val (.long B), .second, .val (.double MD), .second, .val (.double RD), .second, .val (.ref a3), .unset] [(.long ((22 : Int64) * B)), (.long A)])) (fun _ k => XS.lmul X2.here hx rfl (hb hby at_51) rfl k) ?_
  refine own_go (t' := T2.setTop (mkF m 53 #[.val (.int p0), .val (.int p1), .val (.long A), .second, .val (.long B), .second, .val (.double MD), .second, .val (.double RD), .second, .val (.ref a3), .unset] [(.int (lcmpW A ((22 : Int64) * B)))])) (fun _ k => XS.lcmp X2.here hx rfl (hb hby at_52) rfl k) ?_
  have J : ∀ z : Int32, z = (if lcmpW A ((22 : Int64) * B) < 0 ∨ lcmpW A (15514 : Int64) < 0 then 0 else 1) → own_Ends p.tables e below (own_F s (fun v h L => v = some (.int 1) ∧ Fr n0 L) room_1.cells room_1.slots) (T2.setTop (mkF m 69 #[.val (.int p0), .val (.int p1), .val (.long A), .second, .val (.long B), .second, .val (.double MD), .second, .val (.double RD), .second, .val (.ref a3), .unset] [.int z])) := by
    intro z hz
    refine own_go (t' := T2.setTop (mkF m 71 #[.val (.int p0), .val (.int p1), .val (.long A), .second, .val (.long B), .second, .val (.double MD), .second, .val (.double RD), .second, .val (.ref a3), .val (.int z)] [])) (fun _ k => XS.istore X2.here hx rfl (hb hby at_69) rfl (l' := #[.val (.int p0), .val (.int p1), .val (.long A), .second, .val (.long B), .second, .val (.double MD), .second, .val (.double RD), .second, .val (.ref a3), .val (.int z)]) rfl k) ?_
    refine own_go (t' := T2.setTop (mkF m 73 #[.val (.int p0), .val (.int p1), .val (.long A), .second, .val (.long B), .second, .val (.double MD), .second, .val (.double RD), .second, .val (.ref a3), .val (.int z)] [(.ref a3)])) (fun _ k => XS.aload X2.here hx rfl (hb hby at_71) rfl rfl k) ?_
    obtain ⟨T3, L3, v3, X3, hQ3, st3⟩ := own_virtual X2 hx hZ (y := (⟨"turnstile/bench/ReadWriteMutexScenario$Timing", "meetsTarget", "()Z"⟩ : MethodName)) hown (hw _ (List.mem_of_getElem? (i := 22) rfl)) (hw _ (List.mem_of_getElem? (i := 23) rfl)) (hw _ (List.mem_of_getElem? (i := 25) rfl)) (hw _ (List.mem_of_getElem? (i := 24) rfl)) (hw _ (List.mem_of_getElem? (i := 26) rfl)) (hw _ (List.mem_of_getElem? (i := 5) rfl)) (by decide) E2 (rm_meets l Z a0 hw [] a3 RD MD T2.heap n0 Z2 E2 F3 F4 n3) (rfl : T2.heap = T2.heap) (g := (mkF m 73 #[.val (.int p0), .val (.int p1), .val (.long A), .second, .val (.long B), .second, .val (.double MD), .second, .val (.double RD), .second, .val (.ref a3), .val (.int z)] [(.ref a3)])) rfl (by rw [hml]; rfl) (argsL := []) (rest := []) (lenOf pd_d4 rfl) rfl (W := 0) (by show 2 * 0 + _ ≤ _; exact Nat.le_of_eq rfl) (hb hby at_73) (by decide) (by decide) (by decide) (by decide)
    obtain ⟨rfl, Nq3, e3⟩ := hQ3
    have N3 := Fr.app N2 Nq3
    refine own_go (t' := T3.setTop (mkF m 76 #[.val (.int p0), .val (.int p1), .val (.long A), .second, .val (.long B), .second, .val (.double MD), .second, .val (.double RD), .second, .val (.ref a3), .val (.int z)] [(.int (if cmpValue (FP.dcmp (FP.ddiv MD RD) (4626885667169763328 : UInt64)) CmpOp.l < 0 ∨ cmpValue (FP.dcmp MD (4624718309849091277 : UInt64)) CmpOp.l < 0 then 0 else 1))])) st3 ?_
    refine own_go (t' := T3.setTop (mkF m 78 #[.val (.int p0), .val (.int p1), .val (.long A), .second, .val (.long B), .second, .val (.double MD), .second, .val (.double RD), .second, .val (.ref a3), .val (.int z)] [(.int z), (.int (if cmpValue (FP.dcmp (FP.ddiv MD RD) (4626885667169763328 : UInt64)) CmpOp.l < 0 ∨ cmpValue (FP.dcmp MD (4624718309849091277 : UInt64)) CmpOp.l < 0 then 0 else 1))])) (fun _ k => XS.iload X3.here hx rfl (hb hby at_76) rfl k) ?_
    refine own_go (t' := T3.setTop (mkF m 81 #[.val (.int p0), .val (.int p1), .val (.long A), .second, .val (.long B), .second, .val (.double MD), .second, .val (.double RD), .second, .val (.ref a3), .val (.int z)] [])) (fun _ k => XS.icmpNo X3.here hx rfl (hb hby at_78) rfl (teq (show (if cmpValue (FP.dcmp (FP.ddiv MD RD) (4626885667169763328 : UInt64)) CmpOp.l < 0 ∨ cmpValue (FP.dcmp MD (4624718309849091277 : UInt64)) CmpOp.l < 0 then 0 else 1) = z by rw [hz]; simp only [s1, s2])).2 k) ?_
    refine own_go (t' := T3.setTop (mkF m 82 #[.val (.int p0), .val (.int p1), .val (.long A), .second, .val (.long B), .second, .val (.double MD), .second, .val (.double RD), .second, .val (.ref a3), .val (.int z)] [(.int (1 : Int32))])) (fun _ k => XS.iconst X3.here hx rfl (hb hby at_81) k) ?_
    refine own_go (t' := T3.setTop (mkF m 86 #[.val (.int p0), .val (.int p1), .val (.long A), .second, .val (.long B), .second, .val (.double MD), .second, .val (.double RD), .second, .val (.ref a3), .val (.int z)] [(.int (1 : Int32))])) (fun _ k => XS.goto X3.here hx rfl (pc0 := 82) (pc' := 86) rfl (hb hby at_82) (by decide) (by decide) k) ?_
    exact own_retZ X3 hx Bd.returns (BodyLoose.notSynchronized Bd) rfl (hb hby at_86) (by decide) (by decide) ⟨rfl, N3⟩
  by_cases hc1 : lcmpW A ((22 : Int64) * B) < 0
  ·
    refine own_go (t' := T2.setTop (mkF m 68 #[.val (.int p0), .val (.int p1), .val (.long A), .second, .val (.long B), .second, .val (.double MD), .second, .val (.double RD), .second, .val (.ref a3), .unset] [])) (fun _ k => XS.ifYes X2.here hx rfl (pc0 := 53) (pc' := 68) rfl (hb hby at_53) rfl ((if0 _ _).trans (tlt hc1).1) (by decide) (by decide) k) ?_
    refine own_go (t' := T2.setTop (mkF m 69 #[.val (.int p0), .val (.int p1), .val (.long A), .second, .val (.long B), .second, .val (.double MD), .second, .val (.double RD), .second, .val (.ref a3), .unset] [(.int (0 : Int32))])) (fun _ k => XS.iconst X2.here hx rfl (hb hby at_68) k) ?_
    exact J _ (by rw [if_pos (Or.inl hc1)])
  ·
    refine own_go (t' := T2.setTop (mkF m 56 #[.val (.int p0), .val (.int p1), .val (.long A), .second, .val (.long B), .second, .val (.double MD), .second, .val (.double RD), .second, .val (.ref a3), .unset] [])) (fun _ k => XS.ifNo X2.here hx rfl (hb hby at_53) rfl ((if0 _ _).trans (flt hc1).1) k) ?_
    refine own_go (t' := T2.setTop (mkF m 57 #[.val (.int p0), .val (.int p1), .val (.long A), .second, .val (.long B), .second, .val (.double MD), .second, .val (.double RD), .second, .val (.ref a3), .unset] [(.long A)])) (fun _ k => XS.lloadN X2.here hx rfl (hb hby at_56) rfl k) ?_
    refine own_go (t' := T2.setTop (mkF m 60 #[.val (.int p0), .val (.int p1), .val (.long A), .second, .val (.long B), .second, .val (.double MD), .second, .val (.double RD), .second, .val (.ref a3), .unset] [(.long (15514 : Int64)), (.long A)])) (fun _ k => X2.ldc2J (own := "turnstile/bench/TimingMeetsTargetPinLaw") (index := 18) (v := (15514 : Int64)) hx hown (mvT hZ (hw _ (List.mem_of_getElem? (i := 33) rfl))) rfl (hb hby at_57) k) ?_
    refine own_go (t' := T2.setTop (mkF m 61 #[.val (.int p0), .val (.int p1), .val (.long A), .second, .val (.long B), .second, .val (.double MD), .second, .val (.double RD), .second, .val (.ref a3), .unset] [(.int (lcmpW A (15514 : Int64)))])) (fun _ k => XS.lcmp X2.here hx rfl (hb hby at_60) rfl k) ?_
    by_cases hc2 : lcmpW A (15514 : Int64) < 0
    ·
      refine own_go (t' := T2.setTop (mkF m 68 #[.val (.int p0), .val (.int p1), .val (.long A), .second, .val (.long B), .second, .val (.double MD), .second, .val (.double RD), .second, .val (.ref a3), .unset] [])) (fun _ k => XS.ifYes X2.here hx rfl (pc0 := 61) (pc' := 68) rfl (hb hby at_61) rfl ((if0 _ _).trans (tlt hc2).1) (by decide) (by decide) k) ?_
      refine own_go (t' := T2.setTop (mkF m 69 #[.val (.int p0), .val (.int p1), .val (.long A), .second, .val (.long B), .second, .val (.double MD), .second, .val (.double RD), .second, .val (.ref a3), .unset] [(.int (0 : Int32))])) (fun _ k => XS.iconst X2.here hx rfl (hb hby at_68) k) ?_
      exact J _ (by rw [if_pos (Or.inr hc2)])
    ·
      refine own_go (t' := T2.setTop (mkF m 64 #[.val (.int p0), .val (.int p1), .val (.long A), .second, .val (.long B), .second, .val (.double MD), .second, .val (.double RD), .second, .val (.ref a3), .unset] [])) (fun _ k => XS.ifNo X2.here hx rfl (hb hby at_61) rfl ((if0 _ _).trans (flt hc2).1) k) ?_
      refine own_go (t' := T2.setTop (mkF m 65 #[.val (.int p0), .val (.int p1), .val (.long A), .second, .val (.long B), .second, .val (.double MD), .second, .val (.double RD), .second, .val (.ref a3), .unset] [(.int (1 : Int32))])) (fun _ k => XS.iconst X2.here hx rfl (hb hby at_64) k) ?_
      refine own_go (t' := T2.setTop (mkF m 69 #[.val (.int p0), .val (.int p1), .val (.long A), .second, .val (.long B), .second, .val (.double MD), .second, .val (.double RD), .second, .val (.ref a3), .unset] [(.int (1 : Int32))])) (fun _ k => XS.goto X2.here hx rfl (pc0 := 65) (pc' := 69) rfl (hb hby at_65) (by decide) (by decide) k) ?_
      exact J _ (by rw [if_neg (not_or.mpr ⟨hc1, hc2⟩)])
set_option maxRecDepth 65536 in
set_option maxHeartbeats 40000000 in
theorem comes_1 {Post : Tables → Env → Array Value → State → Outcome → State → Prop} (hpost : ∀ tb e args s v u, (limb_1_1.after args s (.returned v) u = true ∧ limb_1_2.after args s (.returned v) u = true ∧ True) → FrameEnd s (.returned v) u (Jvm.fieldLocs frame_1_writes args s ++ Jvm.arrayLocs frame_1_arrays args s ++ Jvm.staticLocs frame_1_statics s) 16 128 → Post tb e args s (.returned v) u) :
    ArmFor flags0 classFile x code maxLocals ret World_1 tables_1 room_1 Calls_1 rest_1 Pre_1 Post := by
  intro l hfl _ _ p e ha hc hk s m args below hf hA hF happ hP
  obtain ⟨hcalls, hrest, hpre⟩ := hP
  obtain ⟨-, -, -, hnamed, -, -, -, hat⟩ := (Spec.applies_iff hf).mp happ
  obtain ⟨hg, hn⟩ := and_e (Cond.before_iff.mp (show (Jvm.Cond.and given_1 narrow_1).before args s = true from hpre))
  obtain ⟨h1, g0⟩ := and_e hg
  obtain ⟨k0, g1⟩ := and_e g0
  have k1 := g1
  obtain ⟨w0, w1, rfl⟩ : ∃ w0 w1 : Value, args = #[w0, w1] := by
    have hs : args.size = 2 := by simpa [Cond.value, given_1] using h1
    obtain ⟨L⟩ := args
    match L, hs with
    | [w0, w1], _ => exact ⟨w0, w1, rfl⟩
  have hw := fun d (hd : d ∈ tables_1) => atoms_spec (ws := Jvm.Cond.code x code maxLocals ret :: tables_1) hat d (List.mem_cons_of_mem _ hd)
  have hfit : Fit s := fun {y c} hc i hi => by
    obtain ⟨ha, rfl⟩ := Array.getElem?_eq_some_iff.mp hc
    have q := List.all_eq_true.mp ((Array.all_eq_true_iff_forall_mem.mp hF) _ (Array.getElem_mem ha)) i (List.mem_range.mpr hi)
    simpa [Array.getElem?_eq_getElem hi] using q
  obtain ⟨i0, e0⟩ := is_v k0
  obtain rfl : w0 = (.int i0) := Option.some.inj e0
  obtain ⟨i1, e1⟩ := is_v k1
  obtain rfl : w1 = (.int i1) := Option.some.inj e1
  obtain ⟨n, o, q1, q2, q3, _, L, rfl, ⟨rfl, N⟩, hq⟩ := rm_law l s _ hw tables_1 i0 i1 s.heap s.heap.size (Nat.le_refl _)  p e ha hc hk s m _ below hf ((Spec.applies_iff_loose hf).mp happ).1 ⟨rfl, State.Warmed39.refl s, rfl⟩ trivial
  refine ⟨n, _, q1, q2, q3, hpost _ _ _ _ _ _ ⟨Cond.after_iff.mpr rfl, Cond.after_iff.mpr (eq_i res_at (Term.int_eval (1)) rfl), trivial⟩ ⟨hq.1, hq.2.1, (hq.2.2.sift fun y hy => Or.inr (N y hy)).mono (by decide) (by decide)⟩⟩
theorem main_1_1 : Claimed_1_1 := comes_1 fun _ _ _ _ _ _ h hF => ⟨h.1, hF⟩
theorem main_1_2 : Claimed_1_2 := comes_1 fun _ _ _ _ _ _ h hF => ⟨h.2.1, hF⟩
end Jvm.Pilot.@@N@@
namespace Jvm.Pilot.@@N@@
open Jvm Jvm.ClassFile Sem Op Lib Jvm.Free Jvm.Stand Jvm.Pilot.@@N@@.Jvm.D
/-! MADE BY PROGRAM (witnessworld.py) out of the Statement's table words and the real class files: 10 classes; the members and pool entries that the words name. The judged class is class 1, her method 1. -/
namespace start1
open Jvm.ClassFile
def u (s : String) : CpInfo := .utf8 (stringToUtf16 s)
/-- a pool by its gaps: so many unusable entries, then the entry; so many at the end -/
def gap : Nat → List CpInfo → List CpInfo
  | 0, r => r
  | n + 1, r => .unusable :: gap n r
def poolList (es : List (Nat × CpInfo)) (last : Nat) : List CpInfo := es.foldr (fun e r => gap e.1 (e.2 :: r)) (gap last [])
def pool (es : List (Nat × CpInfo)) (last : Nat) : Array CpInfo := ⟨poolList es last⟩
def fileOf (pool : Array CpInfo) (this : Nat) (attrs : Array Attribute := #[]) (ms : Array MethodInfo := #[]) (fl : Nat := 33) (sup : Nat := 0) (ifs : Array Nat := #[]) (fds : Array FieldInfo := #[]) : ClassFile where
  minorVersion := 0
  majorVersion := 65
  constantPool := pool
  accessFlags := fl
  thisClass := this
  superClass := sup
  interfaces := ifs
  fields := fds
  methods := ms
  attributes := attrs
def plain (name : String) (sup : Option ClassId) : Class where
  name := name
  kind := .ordinary
  loader := none
  accessFlags := 33
  super := sup
  interfaces := #[]
  cf := none
  fields := #[]
  methods := #[]
  instanceTypes := #[]
  staticTypes := #[]
  resolved := #[]
  callSites := []
  init := .initialized
  statics := none
  mirror := none

def pool0 : Array CpInfo := pool [(5, u "<init>"), (0, u "()V"), (1, .class_ 10), (1, u "java/lang/Object")] 113

def k0c0 : Code := { maxStack := 0, maxLocals := 1, code := object_method_1_code, exceptionTable := #[], attributes := #[] }
def k0m0 : Method := { name := "<init>", desc := "()V", sig := { parameters := [], returnType := none }, accessFlags := 1, code := some k0c0 }
/-- java/lang/Object -/
def k0 : Class := { plain "java/lang/Object" none with
  accessFlags := 33
  interfaces := #[]
  cf := some (fileOf pool0 8 #[] #[{ accessFlags := 1, nameIndex := 5, descriptorIndex := 6, attributes := #[] }] 33 0 #[] #[])
  fields := #[]
  methods := #[k0m0]
  instanceTypes := #[]
  staticTypes := #[]
  resolved := Array.replicate 124 none
  statics := none }

def pool1 : Array CpInfo := pool [(2, .class_ 4), (1, u "java/lang/Object"), (0, u "<init>"), (0, u "()V"), (0, .integer 16777216), (0, .integer 16777215), (0, .double 4652218415073722368), (1, .class_ 12), (0, u "turnstile/bench/ReadWriteMutexScenario$Timing"), (0, .methodref 11 14), (0, .nameAndType 5 15), (0, u "(DD)V"), (0, .long 22), (1, .long 15514), (1, .methodref 11 21), (0, .nameAndType 22 23), (0, u "meetsTarget"), (0, u "()Z"), (0, .class_ 25), (0, u "turnstile/bench/TimingMeetsTargetPinLaw"), (2, u "law"), (0, u "(II)Z")] 7

def k1m0 : Method := { name := "<init>", desc := "()V", sig := { parameters := [], returnType := none }, accessFlags := 1, code := none }
def k1c1 : Code := { maxStack := 6, maxLocals := 12, code := code, exceptionTable := #[], attributes := #[] }
def k1m1 : Method := { name := "law", desc := "(II)Z", sig := { parameters := [.int, .int], returnType := some .boolean }, accessFlags := 9, code := some k1c1 }
/-- turnstile/bench/TimingMeetsTargetPinLaw -/
def k1 : Class := { plain "turnstile/bench/TimingMeetsTargetPinLaw" (some 0) with
  accessFlags := 49
  interfaces := #[]
  cf := some (fileOf pool1 24 #[] #[{ accessFlags := 1, nameIndex := 5, descriptorIndex := 6, attributes := #[] }, { accessFlags := 9, nameIndex := 28, descriptorIndex := 29, attributes := #[] }] 49 2 #[] #[])
  fields := #[]
  methods := #[k1m0, k1m1]
  instanceTypes := #[]
  staticTypes := #[]
  resolved := Array.replicate 37 none
  statics := none }

def pool2 : Array CpInfo := pool [(1, .methodref 2 3), (0, .class_ 4), (0, .nameAndType 5 6), (0, u "java/lang/Object"), (0, u "<init>"), (0, u "()V"), (0, .class_ 8), (0, u "java/lang/Record")] 13

def k2c0 : Code := { maxStack := 1, maxLocals := 1, code := jdk_30_method_1_code, exceptionTable := #[], attributes := #[] }
def k2m0 : Method := { name := "<init>", desc := "()V", sig := { parameters := [], returnType := none }, accessFlags := 4, code := some k2c0 }
/-- java/lang/Record -/
def k2 : Class := { plain "java/lang/Record" (some 0) with
  accessFlags := 1057
  interfaces := #[]
  cf := some (fileOf pool2 7 #[] #[{ accessFlags := 4, nameIndex := 5, descriptorIndex := 6, attributes := #[] }] 1057 2 #[] #[])
  fields := #[]
  methods := #[k2m0]
  instanceTypes := #[]
  staticTypes := #[]
  resolved := Array.replicate 22 none
  statics := none }

def pool3 : Array CpInfo := pool [(1, .class_ 2), (0, u "turnstile/bench/ReadWriteMutexScenario"), (0, .methodref 4 5), (0, .class_ 6), (0, .nameAndType 7 8), (0, u "java/lang/Record"), (0, u "<init>"), (0, u "()V"), (0, .fieldref 10 11), (0, .class_ 12), (0, .nameAndType 13 14), (0, u "turnstile/bench/ReadWriteMutexScenario$Timing"), (0, u "rwmutexSeconds"), (0, u "D"), (0, .fieldref 10 16), (0, .nameAndType 17 14), (0, u "monitorSeconds"), (0, .methodref 10 19), (0, .nameAndType 20 21), (0, u "ratio"), (0, u "()D"), (0, .double 4626885667169763328), (1, .double 4624718309849091277), (35, u "(DD)V"), (3, u "meetsTarget"), (0, u "()Z")] 28

def k3c0 : Code := { maxStack := 3, maxLocals := 5, code := prog_5_method_1_code, exceptionTable := #[], attributes := #[] }
def k3m0 : Method := { name := "<init>", desc := "(DD)V", sig := { parameters := [.double, .double], returnType := none }, accessFlags := 0, code := some k3c0 }
def k3c1 : Code := { maxStack := 4, maxLocals := 1, code := prog_5_method_2_code, exceptionTable := #[], attributes := #[] }
def k3m1 : Method := { name := "ratio", desc := "()D", sig := { parameters := [], returnType := some .double }, accessFlags := 0, code := some k3c1 }
def k3c2 : Code := { maxStack := 4, maxLocals := 1, code := prog_5_method_3_code, exceptionTable := #[], attributes := #[] }
def k3m2 : Method := { name := "meetsTarget", desc := "()Z", sig := { parameters := [], returnType := some .boolean }, accessFlags := 0, code := some k3c2 }
/-- turnstile/bench/ReadWriteMutexScenario$Timing -/
def k3 : Class := { plain "turnstile/bench/ReadWriteMutexScenario$Timing" (some 2) with
  accessFlags := 48
  interfaces := #[]
  cf := some (fileOf pool3 10 #[.nestHost 1] #[{ accessFlags := 0, nameIndex := 7, descriptorIndex := 60, attributes := #[] }, { accessFlags := 0, nameIndex := 20, descriptorIndex := 21, attributes := #[] }, { accessFlags := 0, nameIndex := 64, descriptorIndex := 65, attributes := #[] }] 48 4 #[] #[{ accessFlags := 18, nameIndex := 13, descriptorIndex := 14, attributes := #[] }, { accessFlags := 18, nameIndex := 17, descriptorIndex := 14, attributes := #[] }])
  fields := #[{ name := "rwmutexSeconds", type := .double, accessFlags := 18, slot := 0, constantValue := 0 }, { name := "monitorSeconds", type := .double, accessFlags := 18, slot := 1, constantValue := 0 }]
  methods := #[k3m0, k3m1, k3m2]
  instanceTypes := #[.double, .double]
  staticTypes := #[]
  resolved := Array.replicate 94 none
  statics := none }

def pool4 : Array CpInfo := pool [(1, u "java/lang/Cloneable"), (0, .class_ 1), (0, u "java/lang/Object"), (0, .class_ 3)] 3

/-- java/lang/Cloneable -/
def k4 : Class := { plain "java/lang/Cloneable" (some 0) with
  accessFlags := 1537
  interfaces := #[]
  cf := some (fileOf pool4 2 #[] #[] 1537 4 #[] #[])
  fields := #[]
  methods := #[]
  instanceTypes := #[]
  staticTypes := #[]
  resolved := Array.replicate 8 none
  statics := none }

def pool5 : Array CpInfo := pool [(1, u "java/io/Serializable"), (0, .class_ 1), (0, u "java/lang/Object"), (0, .class_ 3)] 3

/-- java/io/Serializable -/
def k5 : Class := { plain "java/io/Serializable" (some 0) with
  accessFlags := 1537
  interfaces := #[]
  cf := some (fileOf pool5 2 #[] #[] 1537 4 #[] #[])
  fields := #[]
  methods := #[]
  instanceTypes := #[]
  staticTypes := #[]
  resolved := Array.replicate 8 none
  statics := none }

/-- the primitive byte -/
def k6 : Class := { plain "byte" none with kind := .primitive 'B', accessFlags := 0x411 }
/-- [B -/
def k7 : Class := { plain "[B" (some 0) with kind := .array 6 .byte, interfaces := #[4, 5], accessFlags := 1041 }

/-- the primitive int -/
def k8 : Class := { plain "int" none with kind := .primitive 'I', accessFlags := 0x411 }
/-- [I -/
def k9 : Class := { plain "[I" (some 0) with kind := .array 8 .int, interfaces := #[4, 5], accessFlags := 1041 }

def heap : Heap := #[]
def classes : Array Class := #[k0, k1, k2, k3, k4, k5, k6, k7, k8, k9]
def interned : List (Array UInt16 × Addr) := []
def slotsUsed : Nat := 0
def theMethod : MethodId := ⟨1, 1⟩
def args0 : Array Value := #[.int 5, .int 7]
def aboutOver (below : List Frame) : State where
  vm := { classes := classes, interned := interned.toArray }
  heap := heap
  slotsUsed := slotsUsed
  threads := #[{ frames := .invoking theMethod args0 :: below }]
def below0 : List Frame := [.native { method := ⟨0, 0⟩, args := #[] }]
def about1 : State := aboutOver below0
def p0 : Program := .bare "" "" ""
def e0 : Env := launch0.env 0 0 0
theorem w_frames : about1.frames = Frame.invoking theMethod args0 :: below0 := rfl
set_option maxRecDepth 65536 in
theorem w_args : argsFit about1.vm theMethod args0 = true := by decide +kernel
set_option maxRecDepth 65536 in
theorem w_heap : heapFits about1 = true := by decide +kernel
set_option maxRecDepth 65536 in
theorem w_runnable : about1.curStatus? = some .runnable := by decide +kernel
set_option maxRecDepth 65536 in
theorem w_alone : about1.alone = true := by decide +kernel
set_option maxRecDepth 65536 in
theorem w_named : about1.methodNamed? x = some theMethod := by decide +kernel
set_option maxRecDepth 65536 in
theorem w_hears : about1.hears theMethod below0 = true := by decide +kernel
set_option maxRecDepth 65536 in
theorem w_ripe : about1.ripe theMethod args0 below0 = true := by decide +kernel
theorem w_running : about1.status = .running := rfl
set_option maxRecDepth 65536 in
theorem w_room : about1.hasRoom e0.platform room_1 = true :=
  launch0.hasRoom_least _ room_1 (by decide +kernel) (by decide +kernel) (by decide +kernel) (by decide +kernel) (by decide +kernel) (by decide +kernel)
theorem allAtoms_all (ts : List Jvm.Cond) (a : Array Jvm.Value) (st : Jvm.State) : (allAtoms ts).before a st = ts.all (fun c => c.before a st) := by
  induction ts with
  | nil => rfl
  | cons c t ih =>
    show (Jvm.Cond.and c (allAtoms t)).before a st = _
    rw [Jvm.Cond.before_and, ih, List.all_cons]
def words1 : List Jvm.Cond := Jvm.Cond.code x code maxLocals ret :: tables_1
/-- a 'code' word, met by the world's own term for the bytes: nothing is compared byte by byte -/
theorem code_word {y : MethodName} {bytes : ByteArray} {mx : Nat} {rt : Option FieldType} {a : Array Value} {s : State} {m : MethodId} {meth : Method} {c : Code} (h1 : s.methodNamed? y = some m) (h2 : s.vm.method? m = some meth) (h3 : meth.code = some c) (h4 : c.code = bytes)
    (h5 : (c.maxLocals == mx && c.exceptionTable.isEmpty && decide (c.maxStack ≤ mostOperands) && decide (meth.sig.returnType = rt) && !meth.locks && decide (parseMethodDescriptor y.desc = some meth.sig)) = true) : (Jvm.Cond.code y bytes mx rt).before a s = true := by
  simp only [Bool.and_eq_true, beq_iff_eq, Bool.not_eq_true', decide_eq_true_eq] at h5
  obtain ⟨⟨⟨⟨⟨g1, g2⟩, g3⟩, g4⟩, g5⟩, g6⟩ := h5
  simp [Cond.before, Cond.holds, Cond.value, h1, h2, h3, h4, g1, g2, g3, g4, g5, g6]
def isCode : Jvm.Cond → Bool
  | .code _ _ _ _ => true
  | _ => false
theorem all_split {L : List Jvm.Cond} {P : Jvm.Cond → Bool} (h1 : L.all (fun c => isCode c || P c) = true) (h2 : ∀ c ∈ L.filter isCode, P c = true) : L.all P = true := by
  refine List.all_eq_true.mpr fun c hc => ?_
  have h := List.all_eq_true.mp h1 c hc
  rcases Bool.eq_false_or_eq_true (isCode c) with hi | hi
  · exact h2 c (List.mem_filter.mpr ⟨hc, hi⟩)
  · simpa [hi] using h
set_option maxRecDepth 65536 in
theorem w_c0 : (Jvm.Cond.code x code maxLocals ret).before args0 about1 = true := code_word (m := ⟨1, 1⟩) (meth := k1m1) (c := k1c1) (by decide +kernel) rfl rfl rfl (by decide +kernel)
set_option maxRecDepth 65536 in
theorem w_c1 : (Jvm.Cond.code ({ cls := "turnstile/bench/ReadWriteMutexScenario$Timing", name := "<init>", desc := "(DD)V" } : Jvm.MethodName) prog_5_method_1_code (5 : Nat) (Option.none : Option Jvm.ClassFile.FieldType)).before args0 about1 = true := code_word (m := ⟨3, 0⟩) (meth := k3m0) (c := k3c0) (by decide +kernel) rfl rfl rfl (by decide +kernel)
set_option maxRecDepth 65536 in
theorem w_c2 : (Jvm.Cond.code ({ cls := "java/lang/Record", name := "<init>", desc := "()V" } : Jvm.MethodName) jdk_30_method_1_code (1 : Nat) (Option.none : Option Jvm.ClassFile.FieldType)).before args0 about1 = true := code_word (m := ⟨2, 0⟩) (meth := k2m0) (c := k2c0) (by decide +kernel) rfl rfl rfl (by decide +kernel)
set_option maxRecDepth 65536 in
theorem w_c3 : (Jvm.Cond.code ({ cls := "java/lang/Object", name := "<init>", desc := "()V" } : Jvm.MethodName) object_method_1_code (1 : Nat) (Option.none : Option Jvm.ClassFile.FieldType)).before args0 about1 = true := code_word (m := ⟨0, 0⟩) (meth := k0m0) (c := k0c0) (by decide +kernel) rfl rfl rfl (by decide +kernel)
set_option maxRecDepth 65536 in
theorem w_c4 : (Jvm.Cond.code ({ cls := "turnstile/bench/ReadWriteMutexScenario$Timing", name := "meetsTarget", desc := "()Z" } : Jvm.MethodName) prog_5_method_3_code (1 : Nat) (Option.some Jvm.ClassFile.FieldType.boolean)).before args0 about1 = true := code_word (m := ⟨3, 2⟩) (meth := k3m2) (c := k3c2) (by decide +kernel) rfl rfl rfl (by decide +kernel)
set_option maxRecDepth 65536 in
theorem w_c5 : (Jvm.Cond.code ({ cls := "turnstile/bench/ReadWriteMutexScenario$Timing", name := "ratio", desc := "()D" } : Jvm.MethodName) prog_5_method_2_code (1 : Nat) (Option.some Jvm.ClassFile.FieldType.double)).before args0 about1 = true := code_word (m := ⟨3, 1⟩) (meth := k3m1) (c := k3c1) (by decide +kernel) rfl rfl rfl (by decide +kernel)
def codes1 : List Jvm.Cond := [Jvm.Cond.code x code maxLocals ret, Jvm.Cond.code ({ cls := "turnstile/bench/ReadWriteMutexScenario$Timing", name := "<init>", desc := "(DD)V" } : Jvm.MethodName) prog_5_method_1_code (5 : Nat) (Option.none : Option Jvm.ClassFile.FieldType), Jvm.Cond.code ({ cls := "java/lang/Record", name := "<init>", desc := "()V" } : Jvm.MethodName) jdk_30_method_1_code (1 : Nat) (Option.none : Option Jvm.ClassFile.FieldType), Jvm.Cond.code ({ cls := "java/lang/Object", name := "<init>", desc := "()V" } : Jvm.MethodName) object_method_1_code (1 : Nat) (Option.none : Option Jvm.ClassFile.FieldType), Jvm.Cond.code ({ cls := "turnstile/bench/ReadWriteMutexScenario$Timing", name := "meetsTarget", desc := "()Z" } : Jvm.MethodName) prog_5_method_3_code (1 : Nat) (Option.some Jvm.ClassFile.FieldType.boolean), Jvm.Cond.code ({ cls := "turnstile/bench/ReadWriteMutexScenario$Timing", name := "ratio", desc := "()D" } : Jvm.MethodName) prog_5_method_2_code (1 : Nat) (Option.some Jvm.ClassFile.FieldType.double)]
set_option maxRecDepth 65536 in
theorem codes_eq : words1.filter isCode = codes1 := rfl
theorem w_codes : ∀ c ∈ words1.filter isCode, c.before args0 about1 = true := by
  rw [codes_eq]
  intro c hc
  simp only [codes1, List.mem_cons, List.not_mem_nil, or_false] at hc
  rcases hc with rfl | rfl | rfl | rfl | rfl | rfl
  · exact w_c0
  · exact w_c1
  · exact w_c2
  · exact w_c3
  · exact w_c4
  · exact w_c5
set_option maxRecDepth 65536 in
theorem w_t1 : (words1.take 24).all (fun c => isCode c || c.before args0 about1) = true := by decide +kernel
set_option maxRecDepth 65536 in
theorem w_t2 : (words1.drop 24).all (fun c => isCode c || c.before args0 about1) = true := by decide +kernel
theorem w_tables : (allAtoms (Jvm.Cond.code x code maxLocals ret :: tables_1)).before args0 about1 = true := by
  rw [allAtoms_all]
  show words1.all (fun c => c.before args0 about1) = true
  refine all_split ?_ w_codes
  rw [← List.take_append_drop 24 words1, List.all_append, w_t1, w_t2]
  rfl
set_option maxRecDepth 65536 in
theorem w_case : (Jvm.Cond.and given_1 narrow_1).before args0 about1 = true := by decide +kernel
theorem w_applies : (headSpec (Jvm.Cond.code x code maxLocals ret :: tables_1) room_1).applies x e0.platform about1 = true :=
  (Spec.applies_iff w_frames).mpr ⟨w_running, w_runnable, w_alone, w_named, w_hears, w_ripe, w_room, w_tables⟩
theorem atStart : AtStart classFile x code maxLocals ret World_1 tables_1 room_1 Calls_1 rest_1 Pre_1 launch0 p0 e0 about1 theMethod args0 below0 :=
  ⟨lists_1, trivial, launch0.admits_env _ _ _, launch0.least_env, fairChoices_fair.cas, fairChoices_fair.clock, w_frames, w_args, w_heap, w_applies, trivial, trivial, w_case⟩
end start1
theorem witness_1 : WitnessClaimed_1 := ⟨start1.p0, start1.e0, start1.about1, start1.theMethod, start1.args0, start1.below0, start1.atStart⟩
end Jvm.Pilot.@@N@@
