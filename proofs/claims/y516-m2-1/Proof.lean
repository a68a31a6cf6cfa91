import JvmDerived
import JvmDerived.Pilot.@@N@@Statement
import JvmDerived.Pilot.@@N@@Code
set_option linter.unusedVariables false
set_option linter.unusedSimpArgs false
@@BLOCK:NumsL.lean.txt@@
namespace Jvm.Pilot.@@N@@
section OwnFP
open Jvm.FP Jvm.FP.Core
/-- a double as a whole number of units 2^-1074 -/
def oz (a : UInt64) : Int := zval b64 (val64 a)
theorem own_cmp {a b : UInt64} (ha : DFin a) (hb : DFin b) : FP.dcmp a b = some (compare (oz a) (oz b)) := dcmp_zval ha.ne_nan hb.ne_nan
theorem oz_neg (a : UInt64) : oz (Core.dneg a) = -oz a := by unfold oz; rw [Core.val64_dneg, zval_negate]
theorem fin_neg {a : UInt64} (h : DFin a) : DFin (Core.dneg a) := by
  obtain ⟨s, c, q, e⟩ := h; exact ⟨!s, c, q, by rw [Core.val64_dneg, e]; rfl⟩
theorem nn_neg {a : UInt64} (h : val64 a ≠ .nan) : val64 (Core.dneg a) ≠ .nan := by rw [Core.val64_dneg]; exact negate_ne_nan h
theorem own_qmin : b64.qmin = -1074 := by decide
theorem one_pos : (0 : Int) < (one64 : Int) := Int.natCast_pos.mpr one64_pos
theorem zval_nonneg_mag {d : Datum} (h : 0 ≤ zval b64 d) : zval b64 d = (zmag b64 d : Int) := by
  unfold zval signed at *
  split at h <;> simp_all <;> omega
theorem zval_neg_mag {d : Datum} (h : zval b64 d < 0) : zval b64 d = -(zmag b64 d : Int) := by
  unfold zval signed at *
  split at h <;> simp_all <;> omega
theorem own_div_le {a b V : UInt64} (ha : DFin a) (hb : DFin b) (hpos : 0 < oz b) (hV : val64 V ≠ .nan) (h : oz a * (one64 : Int) ≤ oz V * oz b) : oz (FP.ddiv a b) ≤ oz V := by
  have fa := val64_fits a
  have fb := val64_fits b
  have fV := val64_fits V
  obtain ⟨s, c, q, ea⟩ := ha
  obtain ⟨t, d, r, eb⟩ := hb
  unfold oz at *
  rw [ea] at fa h
  rw [eb] at fb h hpos
  have hq1 := fa.2.1
  have hr1 := fb.2.1
  rw [own_qmin] at hq1 hr1
  obtain ⟨hb1, hb2⟩ := signed_pos (show 0 < signed t (inUnits d r b64.qmin) from hpos)
  have ht : t = false := by
    cases t with
    | false => rfl
    | true => exfalso; unfold signed at hb1; simp at hb1; omega
  subst ht
  have hd : 0 < d := by
    rcases Nat.eq_zero_or_pos d with h0 | h0
    · subst h0; unfold inUnits at hb2; simp at hb2
    · exact h0
  have ev : val64 (FP.ddiv a b) = roundRatio b64 s c d (q - r) := by
    rw [show val64 (FP.ddiv a b) = _ from val64_ddiv a b, ea, eb]
    rw [show quotient b64 (.fin s c q) (.fin false d r) = (if d = 0 then (if c = 0 then .nan else .inf (s != false)) else roundRatio b64 (s != false) c d (q - r)) from rfl, if_neg (by omega)]
    cases s <;> rfl
  rw [ev]
  have eu : inUnits c (q - r) (2 * -1074 - r) = zmag b64 (.fin s c q) * one64 := by
    show c * 2 ^ _ = (c * 2 ^ _) * 2 ^ 1074
    rw [Nat.mul_assoc, ← Nat.pow_add, own_qmin]
    congr 2; omega
  have ed : (2 : Nat) ^ (b64.qmin - (2 * -1074 - r)).toNat * d = zmag b64 (.fin false d r) := by
    show _ = d * 2 ^ _
    rw [Nat.mul_comm, own_qmin]; congr 2; omega
  have hzb : zval b64 (.fin false d r) = (zmag b64 (.fin false d r) : Int) := rfl
  rw [hzb] at h
  cases s with
  | false =>
    have hza : zval b64 (.fin false c q) = (zmag b64 (.fin false c q) : Int) := rfl
    rw [hza] at h
    have hzbp : (0 : Int) < (zmag b64 (.fin false d r) : Int) := by rw [← hzb]; exact hpos
    have hVn : 0 ≤ zval b64 (val64 V) := by
      rcases Int.lt_or_le (zval b64 (val64 V)) 0 with hn | hn
      · exfalso
        have h1 : zval b64 (val64 V) * (zmag b64 (.fin false d r) : Int) < 0 := Int.mul_neg_of_neg_of_pos hn hzbp
        have h2 : (0 : Int) ≤ (zmag b64 (.fin false c q) : Int) * (one64 : Int) := Int.mul_nonneg (Int.natCast_nonneg _) (Int.natCast_nonneg _)
        omega
      · exact hn
    rw [zval_nonneg_mag hVn] at h ⊢
    have hle := zmag_roundRatio_le good_b64 (s := false) (A := c) (B := d) (e := q - r) (e0 := 2 * -1074 - r) (V := val64 V) hd fV hV (by rw [own_qmin]; omega) (by omega) (by
      rw [eu, Nat.mul_assoc, ed]; exact Int.ofNat_le.mp (by simpa using h))
    unfold zval
    rw [sgn_roundRatio]
    exact Int.ofNat_le.mpr hle
  | true =>
    have hza : zval b64 (.fin true c q) = -(zmag b64 (.fin true c q) : Int) := rfl
    rw [hza] at h
    have hsg : zval b64 (roundRatio b64 true c d (q - r)) = -(zmag b64 (roundRatio b64 true c d (q - r)) : Int) := by
      unfold zval; rw [sgn_roundRatio]; rfl
    rw [hsg]
    rcases Int.lt_or_le (zval b64 (val64 V)) 0 with hn | hn
    · rw [zval_neg_mag hn] at h ⊢
      have hge := zmag_roundRatio_ge good_b64 (s := true) (A := c) (B := d) (e := q - r) (e0 := 2 * -1074 - r) (V := val64 V) hd fV (by rw [own_qmin]; omega) (by omega) (by
        rw [eu, Nat.mul_assoc, ed]
        rw [Int.neg_mul, Int.neg_mul] at h
        exact Int.ofNat_le.mp (by simpa using Int.le_of_neg_le_neg h))
      omega
    · omega
theorem own_div_ge {a b V : UInt64} (ha : DFin a) (hb : DFin b) (hpos : 0 < oz b) (hV : val64 V ≠ .nan) (h : oz V * oz b ≤ oz a * (one64 : Int)) : oz V ≤ oz (FP.ddiv a b) := by
  have h1 := own_div_le (a := Core.dneg a) (b := b) (V := Core.dneg V) (fin_neg ha) hb hpos (nn_neg hV) (by rw [oz_neg, oz_neg, Int.neg_mul, Int.neg_mul]; omega)
  rw [show FP.ddiv (Core.dneg a) b = Core.dneg (FP.ddiv a b) from ddiv_dneg a b, oz_neg, oz_neg] at h1
  omega
theorem own_mul_z {a b : UInt64} (ha : DFin a) (hb : DFin b) : ∃ s c q, val64 (FP.dmul a b) = round b64 (.fin s c q) ∧ 2 * b64.qmin ≤ q ∧ signed s (inUnits c q (2 * b64.qmin)) = oz a * oz b := by
  have fa := val64_fits a
  have fb := val64_fits b
  obtain ⟨s, c, q, ea⟩ := ha
  obtain ⟨t, d, r, eb⟩ := hb
  rw [ea] at fa; rw [eb] at fb
  obtain ⟨h1, h2, h3⟩ := product_units fa fb
  refine ⟨s != t, c * d, q + r, ?_, h2, ?_⟩
  · rw [show val64 (FP.dmul a b) = _ from val64_dmul a b, ea, eb, h1]
  · rw [h3, signed_xor]; unfold oz; rw [ea, eb]; rfl
theorem own_pow : ((2 ^ (b64.qmin - 2 * b64.qmin).toNat : Nat) : Int) = (one64 : Int) := by rw [own_qmin]; rfl
theorem own_mul_le {a b V : UInt64} (ha : DFin a) (hb : DFin b) (hV : val64 V ≠ .nan) (h : oz a * oz b ≤ oz V * (one64 : Int)) : oz (FP.dmul a b) ≤ oz V := by
  obtain ⟨s, c, q, e, h2, h3⟩ := own_mul_z ha hb
  unfold oz; rw [e]
  exact zval_round_le good_b64 (val64_fits V) hV (e0 := 2 * b64.qmin) (by rw [own_qmin]; omega) h2 (by rw [h3, own_pow]; exact h)
theorem own_mul_ge {a b V : UInt64} (ha : DFin a) (hb : DFin b) (hV : val64 V ≠ .nan) (h : oz V * (one64 : Int) ≤ oz a * oz b) : oz V ≤ oz (FP.dmul a b) := by
  obtain ⟨s, c, q, e, h2, h3⟩ := own_mul_z ha hb
  unfold oz; rw [e]
  exact zval_round_ge good_b64 (val64_fits V) hV (e0 := 2 * b64.qmin) (by rw [own_qmin]; omega) h2 (by rw [h3, own_pow]; exact h)
theorem own_add_le {a b V : UInt64} (ha : DFin a) (hb : DFin b) (hV : val64 V ≠ .nan) (h : oz a + oz b ≤ oz V) : oz (FP.dadd a b) ≤ oz V := by
  unfold oz; rw [show val64 (FP.dadd a b) = _ from val64_dadd a b]
  exact sum_le good_b64 ha hb (val64_fits a) (val64_fits b) (val64_fits V) hV h
theorem own_add_ge {a b V : UInt64} (ha : DFin a) (hb : DFin b) (hV : val64 V ≠ .nan) (h : oz V ≤ oz a + oz b) : oz V ≤ oz (FP.dadd a b) := by
  unfold oz; rw [show val64 (FP.dadd a b) = _ from val64_dadd a b]
  exact sum_ge good_b64 ha hb (val64_fits a) (val64_fits b) (val64_fits V) hV h
theorem own_rep (m : Int) (j : Nat) (hm : m.natAbs < 2 ^ 53) (hj : j ≤ 2045) : ∃ V, DFin V ∧ oz V = m * ((2 ^ j : Nat) : Int) := by
  obtain ⟨c', q', e1, e2⟩ := round_exact good_b64 (decide (m < 0)) (c := m.natAbs) (q := (j : Int) - 1074) hm (by rw [own_qmin]; omega) (by show (j : Int) - 1074 ≤ b64.qmax; rw [show b64.qmax = 971 by decide]; omega)
  have hf := round_fits good_b64 (.fin (decide (m < 0)) m.natAbs ((j : Int) - 1074))
  refine ⟨of64 (round b64 (.fin (decide (m < 0)) m.natAbs ((j : Int) - 1074))), ⟨_, c', q', by rw [val64_of64 hf, e1]⟩, ?_⟩
  unfold oz
  rw [val64_of64 hf, e1]
  show signed (decide (m < 0)) (inUnits c' q' b64.qmin) = _
  rw [e2, own_qmin]
  unfold inUnits
  rw [signed_mul, show ((j : Int) - 1074 - -1074).toNat = j by omega]
  congr 1
  unfold signed
  by_cases h : m < 0 <;> simp [h] <;> omega
theorem own_fin {a V W : UInt64} (hn : val64 a ≠ .nan) (hV : DFin V) (hW : DFin W) (h1 : oz V ≤ oz a) (h2 : oz a ≤ oz W) : DFin a := by
  have v := hV.zval_lt
  have w := hW.zval_lt
  cases e : val64 a with
  | nan => exact absurd e hn
  | fin s c q => exact ⟨s, c, q, e⟩
  | inf s =>
    exfalso
    unfold oz at h1 h2
    rw [e] at h1 h2
    have v1 : -(zmag b64 (val64 V) : Int) ≤ zval b64 (val64 V) := by unfold zval signed; split <;> omega
    have w1 : zval b64 (val64 W) ≤ (zmag b64 (val64 W) : Int) := by unfold zval signed; split <;> omega
    cases s with
    | false => have : zval b64 (.inf false) = ((b64.tails * 2 ^ (b64.exps - 2) : Nat) : Int) := rfl
               rw [this] at h2; omega
    | true => have : zval b64 (.inf true) = -((b64.tails * 2 ^ (b64.exps - 2) : Nat) : Int) := rfl
              rw [this] at h1; omega
theorem oz_l2d {x : Int64} (h : x.toInt.natAbs ≤ 2 ^ 53) : oz (FP.l2d x) = x.toInt * (one64 : Int) := DInt_zval (l2d_int h)
theorem oz_i2d (x : Int32) : oz (FP.i2d x) = x.toInt * (one64 : Int) := DInt_zval (i2d_int x)
theorem nan_div {a b : UInt64} (ha : DFin a) (hb : DFin b) (hz : oz b ≠ 0) : val64 (FP.ddiv a b) ≠ .nan := by
  have := ddiv_out ha.notNaN hb (dnot_zero hb.ne_nan hz)
  exact (notNaN_iff _).mp this
theorem nan_mul {a b : UInt64} (ha : DFin a) (hb : DFin b) : val64 (FP.dmul a b) ≠ .nan := (notNaN_iff _).mp (dmul_out ha hb)
theorem nan_add {a b : UInt64} (ha : DFin a) (hb : DFin b) : val64 (FP.dadd a b) ≠ .nan := (notNaN_iff _).mp (dadd_out ha.notNaN hb)
theorem div_exact {a b V : UInt64} (ha : DFin a) (hb : DFin b) (hpos : 0 < oz b) (hV : DFin V) (h : oz V * oz b = oz a * (one64 : Int)) : DFin (FP.ddiv a b) ∧ oz (FP.ddiv a b) = oz V := by
  have h1 := own_div_le ha hb hpos hV.ne_nan (by omega)
  have h2 := own_div_ge ha hb hpos hV.ne_nan (by omega)
  exact ⟨own_fin (nan_div ha hb (by omega)) hV hV h2 h1, by omega⟩
theorem mul_exact {a b V : UInt64} (ha : DFin a) (hb : DFin b) (hV : DFin V) (h : oz V * (one64 : Int) = oz a * oz b) : DFin (FP.dmul a b) ∧ oz (FP.dmul a b) = oz V := by
  have h1 := own_mul_le ha hb hV.ne_nan (by omega)
  have h2 := own_mul_ge ha hb hV.ne_nan (by omega)
  exact ⟨own_fin (nan_mul ha hb) hV hV h2 h1, by omega⟩
theorem add_exact {a b V : UInt64} (ha : DFin a) (hb : DFin b) (hV : DFin V) (h : oz V = oz a + oz b) : DFin (FP.dadd a b) ∧ oz (FP.dadd a b) = oz V := by
  have h1 := own_add_le ha hb hV.ne_nan (by omega)
  have h2 := own_add_ge ha hb hV.ne_nan (by omega)
  exact ⟨own_fin (nan_add ha hb) hV hV h2 h1, by omega⟩
theorem cmp_lt {a b : UInt64} (ha : DFin a) (hb : DFin b) (h : oz a < oz b) (o : ClassFile.CmpOp) : Op.cmpValue (FP.dcmp a b) o = -1 := by
  rw [own_cmp ha hb, (compare_lt_iff _ _).mpr h]; rfl
theorem cmp_eq {a b : UInt64} (ha : DFin a) (hb : DFin b) (h : oz a = oz b) (o : ClassFile.CmpOp) : Op.cmpValue (FP.dcmp a b) o = 0 := by
  rw [own_cmp ha hb, (compare_eq_iff _ _).mpr h]; rfl
theorem cmp_gt {a b : UInt64} (ha : DFin a) (hb : DFin b) (h : oz b < oz a) (o : ClassFile.CmpOp) : Op.cmpValue (FP.dcmp a b) o = 1 := by
  rw [own_cmp ha hb, (compare_gt_iff _ _).mpr h]; rfl
theorem fin64 {a : UInt64} (h : DFin a) : Jvm.Free.Fl.Fin64 a := Jvm.Free.Fl.fin64_core.mpr h
theorem nonan {a : UInt64} (h : val64 a ≠ .nan) : Jvm.Free.Fl.NoNaN64 a := Jvm.Free.Fl.val64_no.mpr h
end OwnFP
end Jvm.Pilot.@@N@@
namespace Jvm.Pilot.@@N@@
open Jvm Jvm.ClassFile Sem Op Lib Jvm.Free Jvm.Stand Jvm.LawKit Jvm.RoadKit Bundle Jvm.Pilot.@@N@@.Jvm.D
section Own
open Jvm.FP Jvm.FP.Core
theorem own_wS {a0 : Array Value} {Z : State} (hw : ∀ d ∈ tables_1, d.before a0 Z = true) : ∀ a ∈ Bundle.stringAtoms, a.before a0 Z = true := fun a ha => hw a ((by decide +kernel : ∀ w ∈ Bundle.stringAtoms, w ∈ tables_1) a ha)
/-- what nonNegative asks of a double, and that it gives it back -/
def NonNeg (d : UInt64) : Prop := Jvm.Free.Fl.NoNaN64 d ∧ ¬ ((0 : Int32) < cmpValue (FP.dcmp (d &&& 0x7fffffffffffffff) (9218868437227405311 : UInt64)) .g) ∧ ¬ (cmpValue (FP.dcmp d (0 : UInt64)) .g < (0 : Int32)) ∧ FP.dadd d (0 : UInt64) = d
theorem own_sixteen (x : Int32) : 0 ≤ (x &&& (65535 : Int32)).toInt ∧ (x &&& (65535 : Int32)).toInt ≤ 65535 := by
  have h1 := Jvm.Kit.i32_mask x 65535 (k := 16) (by decide) (by decide)
  have h2 : 0 ≤ x.toInt % 2 ^ 16 := Int.emod_nonneg _ (by decide)
  have h3 : x.toInt % 2 ^ 16 < 2 ^ 16 := Int.emod_lt_of_pos _ (by decide)
  rw [h1]; omega
theorem own_max : DFin 9218868437227405311 ∧ 65536 * (one64 : Int) < oz 9218868437227405311 := by
  refine ⟨(fin_bits _).mpr (by decide +kernel), ?_⟩
  unfold oz; decide +kernel
theorem own_zero : DFin 0 ∧ oz 0 = 0 := ⟨(fin_bits _).mpr (by decide +kernel), zval64_zero⟩
theorem own_nonneg {x : Int32} (h1 : 0 ≤ x.toInt) (h2 : x.toInt ≤ 65535) : NonNeg (FP.i2d x) := by
  have e := Jvm.Kit.i64_of_i32 x
  have hB : B53 x.toInt64 := by unfold B53; rw [e]; omega
  have hB0 : B53 (0 : Int64) := by unfold B53; decide
  have hf : DFin (FP.i2d x) := Core.i2d_fin x
  have hz := oz_i2d x
  have hone := one_pos
  have hnn : 0 ≤ x.toInt * (one64 : Int) := Int.mul_nonneg h1 (Int.le_of_lt hone)
  have hle : x.toInt * (one64 : Int) ≤ 65536 * (one64 : Int) := Int.mul_le_mul_of_nonneg_right (by omega) (Int.le_of_lt hone)
  refine ⟨nonan hf.ne_nan, ?_, ?_, ?_⟩
  · have ha : FP.i2d x &&& 0x7fffffffffffffff = FP.i2d x := by
      rw [i2d_w]; exact abs_w (by rw [Int64.lt_iff_toInt_lt, e]; show ¬ _ < (0 : Int); omega)
    rw [ha, cmp_lt hf own_max.1 (by rw [hz]; exact Int.lt_of_le_of_lt hle own_max.2)]; decide
  · rcases Int.lt_or_eq_of_le hnn with h | h
    · rw [cmp_gt hf own_zero.1 (by rw [hz, own_zero.2]; exact h)]; decide
    · rw [cmp_eq hf own_zero.1 (by rw [hz, own_zero.2]; exact h.symm)]; decide
  · rw [i2d_w, ← Jvm.RoadKit.l2d_zero, dadd_w hB hB0, Int64.add_zero]
theorem own_oneD : NonNeg (4607182418800017408 : UInt64) := by
  refine ⟨?_, by decide +kernel, by decide +kernel, by decide +kernel⟩
  unfold Jvm.Free.Fl.NoNaN64; decide +kernel
theorem own_self (d : UInt64) (h : Jvm.Free.Fl.NoNaN64 d) : ¬ ((0 : Int32) < cmpValue (FP.dcmp d d) .l) := by rw [dcmpV_self h]; decide
theorem own_infn : Jvm.Free.Fl.NoNaN64 (9218868437227405312 : UInt64) := by unfold Jvm.Free.Fl.NoNaN64; decide +kernel
theorem own_inf0 : ¬ (cmpValue (FP.dcmp (9218868437227405312 : UInt64) (0 : UInt64)) .g < (0 : Int32)) := by decide +kernel
theorem own_infinf : cmpValue (FP.dcmp (9218868437227405312 : UInt64) (9218868437227405312 : UInt64)) .l = 0 := by decide +kernel
/-- finite and not below nought, at most 2^k -/
def Upto (k : Nat) (d : UInt64) : Prop := DFin d ∧ 0 ≤ oz d ∧ oz d ≤ ((2 ^ k : Nat) : Int) * (one64 : Int)
theorem own_rep2 {k : Nat} (hk : k ≤ 1011) : ∃ V, DFin V ∧ oz V = ((2 ^ k : Nat) : Int) * (one64 : Int) := by
  obtain ⟨V, h1, h2⟩ := own_rep ((2 ^ 40 : Nat) : Int) (1034 + k) (by decide) (by omega)
  refine ⟨V, h1, ?_⟩
  rw [h2]; unfold one64
  rw [← Int.natCast_mul, ← Int.natCast_mul, ← Nat.pow_add, ← Nat.pow_add]
  congr 2; omega
theorem own_sq {d : UInt64} {k : Nat} (h : Upto k d) (hk : 2 * k ≤ 1011) : Upto (2 * k) (FP.dmul d d) := by
  obtain ⟨hd, h0, h1⟩ := h
  obtain ⟨V, hV, zV⟩ := own_rep2 hk
  have hone := one_pos
  have hsq0 : 0 ≤ oz d * oz d := Int.mul_nonneg h0 h0
  have hsq : oz d * oz d ≤ (((2 ^ k : Nat) : Int) * (one64 : Int)) * (((2 ^ k : Nat) : Int) * (one64 : Int)) := Int.mul_le_mul h1 h1 h0 (Int.le_trans h0 h1)
  have hle : oz (FP.dmul d d) ≤ oz V := own_mul_le hd hd hV.ne_nan (by
    rw [zV, show 2 * k = k + k by omega, Nat.pow_add, Int.natCast_mul]
    refine Int.le_trans hsq (Int.le_of_eq ?_)
    simp only [Int.mul_assoc, Int.mul_left_comm, Int.mul_comm])
  have hge : oz 0 ≤ oz (FP.dmul d d) := own_mul_ge hd hd own_zero.1.ne_nan (by rw [own_zero.2, Int.zero_mul]; exact hsq0)
  refine ⟨own_fin (nan_mul hd hd) own_zero.1 hV hge hle, by rw [own_zero.2] at hge; exact hge, by rw [← zV]; exact hle⟩
theorem own_l2d {x : Int64} (h : 0 ≤ x.toInt) : Upto 63 (FP.l2d x) := by
  obtain ⟨V, hV, zV⟩ := own_rep2 (k := 63) (by decide)
  have hx := Int64.toInt_lt x
  have hone := one_pos
  have hf : DFin (FP.l2d x) := Core.l2d_fin x
  refine ⟨hf, ?_, ?_⟩
  · have := l2d_zval_ge (n := x) (V := 0) own_zero.1.ne_nan (by
      show oz 0 ≤ _
      rw [own_zero.2]; exact Int.mul_nonneg h (Int.le_of_lt hone))
    rw [show zval b64 (val64 0) = 0 from own_zero.2] at this
    exact this
  · rw [← zV]
    refine l2d_zval_le hV.ne_nan ?_
    show _ ≤ oz V
    rw [zV]
    exact Int.mul_le_mul_of_nonneg_right (by have : ((2 ^ 63 : Nat) : Int) = 9223372036854775808 := by decide
                                             omega) (Int.le_of_lt hone)
theorem own_mask (x : Int64) : 0 ≤ (x &&& (9223372036854775807 : Int64)).toInt := by
  rw [Jvm.Kit.i64_mask x 9223372036854775807 (k := 63) (by decide) (by decide)]; exact Int.emod_nonneg _ (by decide)
theorem own_pen {k : Nat} {d : UInt64} (h : Upto k d) : Jvm.Free.Fl.NoNaN64 d ∧ ¬ (cmpValue (FP.dcmp d (0 : UInt64)) .g < (0 : Int32)) ∧ cmpValue (FP.dcmp d (9218868437227405312 : UInt64)) .l = -1 := by
  refine ⟨nonan h.1.ne_nan, ?_, dcmp_pinf (fin64 h.1) _⟩
  rcases Int.lt_or_eq_of_le h.2.1 with q | q
  · rw [cmp_gt h.1 own_zero.1 (by rw [own_zero.2]; exact q)]; decide
  · rw [cmp_eq h.1 own_zero.1 (by rw [own_zero.2]; exact q.symm)]; decide
theorem own_nm {k : Nat} {d : UInt64} (h : Upto k d) : Jvm.Free.Fl.NoNaN64 (FP.dmul d d) := nonan (nan_mul h.1 h.1)
end Own

def QP (r : Option Value) (h0 : Heap) (n0 : Nat) (v : Option Value) (h : Heap) (L : List Loc) : Prop := (v = r ∧ Fr n0 L ∧ h = h0)
theorem d_jdk_30_method_1_code_0 : decode jdk_30_method_1_code 0 = .ok (.aload_n 0, 1) := by decide +kernel
theorem d_jdk_30_method_1_code_1 : decode jdk_30_method_1_code 1 = .ok (.invokespecial 1, 3) := by decide +kernel
theorem d_jdk_30_method_1_code_4 : decode jdk_30_method_1_code 4 = .ok (.return_, 1) := by decide +kernel
theorem pn_java_lang_Record : plainName "java/lang/Record" = true := by first | (simp [plainName, overriddenIn]; done) | decide +kernel
theorem ef_jdk_30_method_1_code (m : MethodId) (x0 : Addr) : entryFrame m #[(.ref x0)] 1 = mkF m 0 #[.val (.ref x0)] [] := by first | (simp [entryFrame, mkF, argsToLocals, Value.category]; done) | rfl
set_option maxRecDepth 65536 in
set_option maxHeartbeats 40000000 in
theorem rmR (l : Launch) (Z : State) (a0 : Array Value) (hw : ∀ d ∈ tables_1, d.before a0 Z = true) (ws : List Jvm.Cond) (a1 : Addr) (h0 : Heap) (n0 : Nat) (Z0 : n0 ≤ h0.size)   :
    MetFree l (⟨"java/lang/Record", "<init>", "()V"⟩ : MethodName) (head1 (Jvm.Cond.code (⟨"java/lang/Record", "<init>", "()V"⟩ : MethodName) jdk_30_method_1_code 1 none :: ws) ({ frames := 1, cells := 0, slots := 0, locals := 12 } : Room)) (fun a U => a = #[(.ref a1)] ∧ Z.Warmed39 U.vm ∧ U.heap = h0) (fun _ _ _ _ _ => True) (fun _ U o U' => ∃ v L, o = .returned v ∧ QP (none) h0 n0 v U'.heap L ∧ FrameEnd U o U' L ({ frames := 1, cells := 0, slots := 0, locals := 12 } : Room).cells ({ frames := 1, cells := 0, slots := 0, locals := 12 } : Room).slots) := by
  refine MetFree.of_bodySF (plainFor_of_name pn_java_lang_Record) hisR ?_
  intro p e s m args below meth c s₁ Bd hml0 hP hK
  obtain ⟨rfl, hZ, hh⟩ := hP
  have hx := Bd.exec
  have hby := Bd.bytes
  have hml : c.maxLocals = 1 := hml0
  have hown : s.vm.findClass "java/lang/Record" = some m.cls := findClass_of_methodNamed Bd.named
  have hnm := (name_of_methodNamed Bd.named Bd.method).1
  have X0 : Stand p l e ({ frames := 1, cells := 0, slots := 0, locals := 12 } : Room) s m #[(.ref a1)] below meth c s₁ [] 0 0 := Stand.of_body Bd
  have e0 : s₁.heap = h0 := by rw [← hh, Bd.state]; rfl
  have N0 := Fr.nil n0
  have pre0 : ∀ t, Steps p.tables e below (s₁.setTop (mkF m 0 #[.val (.ref a1)] [])) t → Steps p.tables e below (s₁.setTop (entryFrame m #[(.ref a1)] 1)) t := fun t k => castTop (ef_jdk_30_method_1_code m a1) k
  obtain ⟨T1, X1, e1, st1⟩ := initO X0 hx hZ hown (hw _ (List.mem_of_getElem? (i := 25) rfl)) (hw _ (List.mem_of_getElem? (i := 26) rfl)) (hw _ (List.mem_of_getElem? (i := 27) rfl)) e0 (g := (mkF m 1 #[.val (.ref a1)] [(.ref a1)])) rfl (by rw [hml]; rfl) rfl (hb hby d_jdk_30_method_1_code_1) (by decide) (W := 0) (by show 2 * 0 + _ ≤ _; exact Nat.le_of_eq rfl) (by decide)
  obtain ⟨fs, hr, hrun, hended, hW, hsame⟩ := X1.leave (v := none) (fun _ => rfl)
  refine ⟨_, _, pre0 _ ?_, hrun, hended, _, _, rfl, ?_, ⟨_, rfl⟩, hW, hsame.mono (by decide) (by decide)⟩
  · show Steps p.tables e below (s₁.setTop (mkF m 0 #[.val (.ref a1)] [])) _
    refine XS.aloadN X0.here hx rfl (hb hby d_jdk_30_method_1_code_0) rfl rfl ?_
    show Steps p.tables e below (s₁.setTop (mkF m 1 #[.val (.ref a1)] [(.ref a1)])) _
    refine st1 _ ?_
    show Steps p.tables e below (T1.setTop (mkF m 4 #[.val (.ref a1)] [])) _
    exact X1.returnOut hx Bd.returns (hb hby d_jdk_30_method_1_code_4) hr
  · show QP (none) h0 n0 _ T1.heap _
    rw [e1]
    exact ⟨rfl, N0, rfl⟩
theorem d_jdk_31_method_11_code_0 : decode jdk_31_method_11_code 0 = .ok (.aload_n 0, 1) := by decide +kernel
theorem d_jdk_31_method_11_code_1 : decode jdk_31_method_11_code 1 = .ok (.ifnonnull 12, 3) := by decide +kernel
theorem d_jdk_31_method_11_code_13 : decode jdk_31_method_11_code 13 = .ok (.aload_n 0, 1) := by decide +kernel
theorem d_jdk_31_method_11_code_14 : decode jdk_31_method_11_code 14 = .ok (.areturn, 1) := by decide +kernel
theorem pn_java_util_Objects : plainName "java/util/Objects" = true := by first | (simp [plainName, overriddenIn]; done) | decide +kernel
theorem ef_jdk_31_method_11_code (m : MethodId) (x0 : Addr) (x1 : Addr) : entryFrame m #[(.ref x0), (.ref x1)] 2 = mkF m 0 #[.val (.ref x0), .val (.ref x1)] [] := by first | (simp [entryFrame, mkF, argsToLocals, Value.category]; done) | rfl
set_option maxRecDepth 65536 in
set_option maxHeartbeats 40000000 in
theorem rmNN (l : Launch) (Z : State) (a0 : Array Value) (hw : ∀ d ∈ tables_1, d.before a0 Z = true) (ws : List Jvm.Cond) (a1 a2 : Addr) (h0 : Heap) (n0 : Nat) (Z0 : n0 ≤ h0.size)   :
    MetFree l (⟨"java/util/Objects", "requireNonNull", "(Ljava/lang/Object;Ljava/lang/String;)Ljava/lang/Object;"⟩ : MethodName) (head1 (Jvm.Cond.code (⟨"java/util/Objects", "requireNonNull", "(Ljava/lang/Object;Ljava/lang/String;)Ljava/lang/Object;"⟩ : MethodName) jdk_31_method_11_code 2 (some (.object "java/lang/Object")) :: ws) ({ frames := 0, cells := 0, slots := 0, locals := 0 } : Room)) (fun a U => a = #[(.ref a1), (.ref a2)] ∧ Z.Warmed39 U.vm ∧ U.heap = h0) (fun _ _ _ _ _ => True) (fun _ U o U' => ∃ v L, o = .returned v ∧ QP (some (.ref a1)) h0 n0 v U'.heap L ∧ FrameEnd U o U' L ({ frames := 0, cells := 0, slots := 0, locals := 0 } : Room).cells ({ frames := 0, cells := 0, slots := 0, locals := 0 } : Room).slots) := by
  refine MetFree.of_bodySF (plainFor_of_name pn_java_util_Objects) hisR ?_
  intro p e s m args below meth c s₁ Bd hml0 hP hK
  obtain ⟨rfl, hZ, hh⟩ := hP
  have hx := Bd.exec
  have hby := Bd.bytes
  have hml : c.maxLocals = 2 := hml0
  have hown : s.vm.findClass "java/util/Objects" = some m.cls := findClass_of_methodNamed Bd.named
  have hnm := (name_of_methodNamed Bd.named Bd.method).1
  have X0 : Stand p l e ({ frames := 0, cells := 0, slots := 0, locals := 0 } : Room) s m #[(.ref a1), (.ref a2)] below meth c s₁ [] 0 0 := Stand.of_body Bd
  have e0 : s₁.heap = h0 := by rw [← hh, Bd.state]; rfl
  have N0 := Fr.nil n0
  have pre0 : ∀ t, Steps p.tables e below (s₁.setTop (mkF m 0 #[.val (.ref a1), .val (.ref a2)] [])) t → Steps p.tables e below (s₁.setTop (entryFrame m #[(.ref a1), (.ref a2)] 2)) t := fun t k => castTop (ef_jdk_31_method_11_code m a1 a2) k
  obtain ⟨fs, hr, hrun, hended, hW, hsame⟩ := X0.leave (v := some (.ref a1)) (fun h => by rw [Bd.returns] at h; cases h)
  refine ⟨_, _, pre0 _ ?_, hrun, hended, _, _, rfl, ?_, ⟨_, rfl⟩, hW, hsame.mono (by decide) (by decide)⟩
  · show Steps p.tables e below (s₁.setTop (mkF m 0 #[.val (.ref a1), .val (.ref a2)] [])) _
    refine XS.aloadN X0.here hx rfl (hb hby d_jdk_31_method_11_code_0) rfl rfl ?_
    show Steps p.tables e below (s₁.setTop (mkF m 1 #[.val (.ref a1), .val (.ref a2)] [(.ref a1)])) _
    refine XS.ifnonnullYes X0.here hx rfl (pc0 := 1) (pc' := 13) rfl (hb hby d_jdk_31_method_11_code_1) rfl (by decide) (by decide) ?_
    show Steps p.tables e below (s₁.setTop (mkF m 13 #[.val (.ref a1), .val (.ref a2)] [])) _
    refine XS.aloadN X0.here hx rfl (hb hby d_jdk_31_method_11_code_13) rfl rfl ?_
    show Steps p.tables e below (s₁.setTop (mkF m 14 #[.val (.ref a1), .val (.ref a2)] [(.ref a1)])) _
    exact retOut X0 hx (t := (.object "java/lang/Object")) Bd.returns rfl (Or.inr (Or.inr (Or.inr (Or.inr ⟨rfl, rfl, rfl⟩)))) (hb hby d_jdk_31_method_11_code_14) hr
  · show QP (some (.ref a1)) h0 n0 _ s₁.heap _
    rw [e0]
    exact ⟨rfl, N0, rfl⟩
theorem d_jdk_42_method_55_code_0 : decode jdk_42_method_55_code 0 = .ok (.aload_n 0, 1) := by decide +kernel
theorem d_jdk_42_method_55_code_1 : decode jdk_42_method_55_code 1 = .ok (.getfield 9, 3) := by decide +kernel
theorem d_jdk_42_method_55_code_4 : decode jdk_42_method_55_code 4 = .ok (.arraylength, 1) := by decide +kernel
theorem d_jdk_42_method_55_code_5 : decode jdk_42_method_55_code 5 = .ok (.ifCond .ne 7, 3) := by decide +kernel
theorem d_jdk_42_method_55_code_12 : decode jdk_42_method_55_code 12 = .ok (.iconst 0, 1) := by decide +kernel
theorem d_jdk_42_method_55_code_13 : decode jdk_42_method_55_code 13 = .ok (.ireturn, 1) := by decide +kernel
theorem pn_java_lang_String : plainName "java/lang/String" = true := by first | (simp [plainName, overriddenIn]; done) | decide +kernel
theorem ef_jdk_42_method_55_code (m : MethodId) (x0 : Addr) : entryFrame m #[(.ref x0)] 1 = mkF m 0 #[.val (.ref x0)] [] := by first | (simp [entryFrame, mkF, argsToLocals, Value.category]; done) | rfl
set_option maxRecDepth 65536 in
set_option maxHeartbeats 40000000 in
theorem rmE (l : Launch) (Z : State) (a0 : Array Value) (hw : ∀ d ∈ tables_1, d.before a0 Z = true) (ws : List Jvm.Cond) (sa sb : Addr) (kb : ClassId) (h0 : Heap) (n0 : Nat) (Z0 : n0 ≤ h0.size) (VS : Fld Z h0 sa "java/lang/String" "value" "[B" (.ref sb)) (KS : Arv Z h0 sb kb .byte (1 : Int32) [(.int (114 : Int32))] (.int 0))  :
    MetFree l (⟨"java/lang/String", "isEmpty", "()Z"⟩ : MethodName) (head1 (Jvm.Cond.code (⟨"java/lang/String", "isEmpty", "()Z"⟩ : MethodName) jdk_42_method_55_code 1 (some .boolean) :: ws) ({ frames := 0, cells := 0, slots := 0, locals := 0 } : Room)) (fun a U => a = #[(.ref sa)] ∧ Z.Warmed39 U.vm ∧ U.heap = h0) (fun _ _ _ _ _ => True) (fun _ U o U' => ∃ v L, o = .returned v ∧ QP (some (.int (0 : Int32))) h0 n0 v U'.heap L ∧ FrameEnd U o U' L ({ frames := 0, cells := 0, slots := 0, locals := 0 } : Room).cells ({ frames := 0, cells := 0, slots := 0, locals := 0 } : Room).slots) := by
  refine MetFree.of_bodySF (plainFor_of_name pn_java_lang_String) hisR ?_
  intro p e s m args below meth c s₁ Bd hml0 hP hK
  obtain ⟨rfl, hZ, hh⟩ := hP
  have hx := Bd.exec
  have hby := Bd.bytes
  have hml : c.maxLocals = 1 := hml0
  have hown : s.vm.findClass "java/lang/String" = some m.cls := findClass_of_methodNamed Bd.named
  have hnm := (name_of_methodNamed Bd.named Bd.method).1
  have X0 : Stand p l e ({ frames := 0, cells := 0, slots := 0, locals := 0 } : Room) s m #[(.ref sa)] below meth c s₁ [] 0 0 := Stand.of_body Bd
  have e0 : s₁.heap = h0 := by rw [← hh, Bd.state]; rfl
  have N0 := Fr.nil n0
  have pre0 : ∀ t, Steps p.tables e below (s₁.setTop (mkF m 0 #[.val (.ref sa)] [])) t → Steps p.tables e below (s₁.setTop (entryFrame m #[(.ref sa)] 1)) t := fun t k => castTop (ef_jdk_42_method_55_code m sa) k
  obtain ⟨T1, X1, e1, st1⟩ := getF X0 hx hZ hown (host := "") (Or.inl (hw _ (List.mem_of_getElem? (i := 38) rfl))) Via.refl e0 VS (g := (mkF m 1 #[.val (.ref sa)] [(.ref sa)])) rfl rfl (hb hby d_jdk_42_method_55_code_1)
  obtain ⟨cl2, Ar2, -, S2, Nn2, -, -⟩ := id KS
  obtain ⟨fs, hr, hrun, hended, hW, hsame⟩ := X1.leave (v := some (.int (0 : Int32))) (fun h => by rw [Bd.returns] at h; cases h)
  refine ⟨_, _, pre0 _ ?_, hrun, hended, _, _, rfl, ?_, ⟨_, rfl⟩, hW, hsame.mono (by decide) (by decide)⟩
  · show Steps p.tables e below (s₁.setTop (mkF m 0 #[.val (.ref sa)] [])) _
    refine XS.aloadN X0.here hx rfl (hb hby d_jdk_42_method_55_code_0) rfl rfl ?_
    show Steps p.tables e below (s₁.setTop (mkF m 1 #[.val (.ref sa)] [(.ref sa)])) _
    refine st1 _ ?_
    show Steps p.tables e below (T1.setTop (mkF m 4 #[.val (.ref sa)] [(.ref sb)])) _
    refine X1.arraylength hx (by rw [e1]; exact Ar2.1) (State.isArrayOf_alike hZ.alike Ar2.2.1) (g := (mkF m 4 #[.val (.ref sa)] [(.ref sb)])) rfl rfl (hb hby d_jdk_42_method_55_code_4) _ ?_
    rw [len_of S2 Nn2]
    show Steps p.tables e below (T1.setTop (mkF m 5 #[.val (.ref sa)] [(.int (1 : Int32))])) _
    refine XS.ifYes X1.here hx rfl (pc0 := 5) (pc' := 12) rfl (hb hby d_jdk_42_method_55_code_5) rfl ((if0 _ _).trans (feq (by decide : ¬ ((1 : Int32) = (0 : Int32)))).2) (by decide) (by decide) ?_
    show Steps p.tables e below (T1.setTop (mkF m 12 #[.val (.ref sa)] [])) _
    refine XS.iconst X1.here hx rfl (hb hby d_jdk_42_method_55_code_12) ?_
    show Steps p.tables e below (T1.setTop (mkF m 13 #[.val (.ref sa)] [(.int (0 : Int32))])) _
    exact retN X1 hx (t := .boolean) Bd.returns (by simp) (hb hby d_jdk_42_method_55_code_13) hr
  · show QP (some (.int (0 : Int32))) h0 n0 _ T1.heap _
    rw [e1]
    exact ⟨rfl, N0, rfl⟩
theorem d_jdk_42_method_152_code_0 : decode jdk_42_method_152_code 0 = .ok (.getstatic 38, 3) := by decide +kernel
theorem d_jdk_42_method_152_code_3 : decode jdk_42_method_152_code 3 = .ok (.ifCond .eq 10, 3) := by decide +kernel
theorem d_jdk_42_method_152_code_6 : decode jdk_42_method_152_code 6 = .ok (.aload_n 0, 1) := by decide +kernel
theorem d_jdk_42_method_152_code_7 : decode jdk_42_method_152_code 7 = .ok (.getfield 15, 3) := by decide +kernel
theorem d_jdk_42_method_152_code_10 : decode jdk_42_method_152_code 10 = .ok (.goto 4, 3) := by decide +kernel
theorem d_jdk_42_method_152_code_14 : decode jdk_42_method_152_code 14 = .ok (.ireturn, 1) := by decide +kernel
theorem ef_jdk_42_method_152_code (m : MethodId) (x0 : Addr) : entryFrame m #[(.ref x0)] 1 = mkF m 0 #[.val (.ref x0)] [] := by first | (simp [entryFrame, mkF, argsToLocals, Value.category]; done) | rfl
set_option maxRecDepth 65536 in
set_option maxHeartbeats 40000000 in
theorem rmC (l : Launch) (Z : State) (a0 : Array Value) (hw : ∀ d ∈ tables_1, d.before a0 Z = true) (ws : List Jvm.Cond) (sa : Addr) (cs : Int32) (h0 : Heap) (n0 : Nat) (Z0 : n0 ≤ h0.size) (CS : Fld Z h0 sa "java/lang/String" "coder" "B" (.int (0 : Int32))) (S_c : Sta Z h0 "java/lang/String" "COMPACT_STRINGS" "Z" (.int cs)) (hcs : ¬ (cs = (0 : Int32)))  :
    MetFree l (⟨"java/lang/String", "coder", "()B"⟩ : MethodName) (head1 (Jvm.Cond.code (⟨"java/lang/String", "coder", "()B"⟩ : MethodName) jdk_42_method_152_code 1 (some .byte) :: ws) ({ frames := 0, cells := 0, slots := 0, locals := 0 } : Room)) (fun a U => a = #[(.ref sa)] ∧ Z.Warmed39 U.vm ∧ U.heap = h0) (fun _ _ _ _ _ => True) (fun _ U o U' => ∃ v L, o = .returned v ∧ QP (some (.int (0 : Int32))) h0 n0 v U'.heap L ∧ FrameEnd U o U' L ({ frames := 0, cells := 0, slots := 0, locals := 0 } : Room).cells ({ frames := 0, cells := 0, slots := 0, locals := 0 } : Room).slots) := by
  refine MetFree.of_bodySF (plainFor_of_name pn_java_lang_String) hisR ?_
  intro p e s m args below meth c s₁ Bd hml0 hP hK
  obtain ⟨rfl, hZ, hh⟩ := hP
  have hx := Bd.exec
  have hby := Bd.bytes
  have hml : c.maxLocals = 1 := hml0
  have hown : s.vm.findClass "java/lang/String" = some m.cls := findClass_of_methodNamed Bd.named
  have hnm := (name_of_methodNamed Bd.named Bd.method).1
  have X0 : Stand p l e ({ frames := 0, cells := 0, slots := 0, locals := 0 } : Room) s m #[(.ref sa)] below meth c s₁ [] 0 0 := Stand.of_body Bd
  have e0 : s₁.heap = h0 := by rw [← hh, Bd.state]; rfl
  have N0 := Fr.nil n0
  have pre0 : ∀ t, Steps p.tables e below (s₁.setTop (mkF m 0 #[.val (.ref sa)] [])) t → Steps p.tables e below (s₁.setTop (entryFrame m #[(.ref sa)] 1)) t := fun t k => castTop (ef_jdk_42_method_152_code m sa) k
  obtain ⟨T1, X1, e1, st1⟩ := getS2 X0 hx hZ hown (host := "") (Or.inl (hw _ (List.mem_of_getElem? (i := 49) rfl))) Via.refl e0 S_c (g := (mkF m 0 #[.val (.ref sa)] [])) rfl (hb hby d_jdk_42_method_152_code_0)
  obtain ⟨T2, X2, e2, st2⟩ := getF X1 hx hZ hown (host := "") (Or.inl (hw _ (List.mem_of_getElem? (i := 50) rfl))) Via.refl e1 CS (g := (mkF m 7 #[.val (.ref sa)] [(.ref sa)])) rfl rfl (hb hby d_jdk_42_method_152_code_7)
  obtain ⟨fs, hr, hrun, hended, hW, hsame⟩ := X2.leave (v := some (.int (0 : Int32))) (fun h => by rw [Bd.returns] at h; cases h)
  refine ⟨_, _, pre0 _ ?_, hrun, hended, _, _, rfl, ?_, ⟨_, rfl⟩, hW, hsame.mono (by decide) (by decide)⟩
  · show Steps p.tables e below (s₁.setTop (mkF m 0 #[.val (.ref sa)] [])) _
    refine st1 _ ?_
    show Steps p.tables e below (T1.setTop (mkF m 3 #[.val (.ref sa)] [(.int cs)])) _
    refine XS.ifNo X1.here hx rfl (hb hby d_jdk_42_method_152_code_3) rfl ((if0 _ _).trans (feq (hcs : ¬ (cs = (0 : Int32)))).1) ?_
    show Steps p.tables e below (T1.setTop (mkF m 6 #[.val (.ref sa)] [])) _
    refine XS.aloadN X1.here hx rfl (hb hby d_jdk_42_method_152_code_6) rfl rfl ?_
    show Steps p.tables e below (T1.setTop (mkF m 7 #[.val (.ref sa)] [(.ref sa)])) _
    refine st2 _ ?_
    show Steps p.tables e below (T2.setTop (mkF m 10 #[.val (.ref sa)] [(.int (0 : Int32))])) _
    refine XS.goto X2.here hx rfl (pc0 := 10) (pc' := 14) rfl (hb hby d_jdk_42_method_152_code_10) (by decide) (by decide) ?_
    show Steps p.tables e below (T2.setTop (mkF m 14 #[.val (.ref sa)] [(.int (0 : Int32))])) _
    exact retN X2 hx (t := .byte) Bd.returns (by simp) (hb hby d_jdk_42_method_152_code_14) hr
  · show QP (some (.int (0 : Int32))) h0 n0 _ T2.heap _
    rw [e2]
    exact ⟨rfl, N0, rfl⟩
theorem d_jdk_42_method_154_code_0 : decode jdk_42_method_154_code 0 = .ok (.getstatic 38, 3) := by decide +kernel
theorem d_jdk_42_method_154_code_3 : decode jdk_42_method_154_code 3 = .ok (.ifCond .eq 14, 3) := by decide +kernel
theorem d_jdk_42_method_154_code_6 : decode jdk_42_method_154_code 6 = .ok (.aload_n 0, 1) := by decide +kernel
theorem d_jdk_42_method_154_code_7 : decode jdk_42_method_154_code 7 = .ok (.getfield 15, 3) := by decide +kernel
theorem d_jdk_42_method_154_code_10 : decode jdk_42_method_154_code 10 = .ok (.ifCond .ne 7, 3) := by decide +kernel
theorem d_jdk_42_method_154_code_13 : decode jdk_42_method_154_code 13 = .ok (.iconst 1, 1) := by decide +kernel
theorem d_jdk_42_method_154_code_14 : decode jdk_42_method_154_code 14 = .ok (.goto 4, 3) := by decide +kernel
theorem d_jdk_42_method_154_code_18 : decode jdk_42_method_154_code 18 = .ok (.ireturn, 1) := by decide +kernel
theorem ef_jdk_42_method_154_code (m : MethodId) (x0 : Addr) : entryFrame m #[(.ref x0)] 1 = mkF m 0 #[.val (.ref x0)] [] := by first | (simp [entryFrame, mkF, argsToLocals, Value.category]; done) | rfl
set_option maxRecDepth 65536 in
set_option maxHeartbeats 40000000 in
theorem rmI1 (l : Launch) (Z : State) (a0 : Array Value) (hw : ∀ d ∈ tables_1, d.before a0 Z = true) (ws : List Jvm.Cond) (sa : Addr) (cs : Int32) (h0 : Heap) (n0 : Nat) (Z0 : n0 ≤ h0.size) (CS : Fld Z h0 sa "java/lang/String" "coder" "B" (.int (0 : Int32))) (S_c : Sta Z h0 "java/lang/String" "COMPACT_STRINGS" "Z" (.int cs)) (hcs : ¬ (cs = (0 : Int32)))  :
    MetFree l (⟨"java/lang/String", "isLatin1", "()Z"⟩ : MethodName) (head1 (Jvm.Cond.code (⟨"java/lang/String", "isLatin1", "()Z"⟩ : MethodName) jdk_42_method_154_code 1 (some .boolean) :: ws) ({ frames := 0, cells := 0, slots := 0, locals := 0 } : Room)) (fun a U => a = #[(.ref sa)] ∧ Z.Warmed39 U.vm ∧ U.heap = h0) (fun _ _ _ _ _ => True) (fun _ U o U' => ∃ v L, o = .returned v ∧ QP (some (.int (1 : Int32))) h0 n0 v U'.heap L ∧ FrameEnd U o U' L ({ frames := 0, cells := 0, slots := 0, locals := 0 } : Room).cells ({ frames := 0, cells := 0, slots := 0, locals := 0 } : Room).slots) := by
  refine MetFree.of_bodySF (plainFor_of_name pn_java_lang_String) hisR ?_
  intro p e s m args below meth c s₁ Bd hml0 hP hK
  obtain ⟨rfl, hZ, hh⟩ := hP
  have hx := Bd.exec
  have hby := Bd.bytes
  have hml : c.maxLocals = 1 := hml0
  have hown : s.vm.findClass "java/lang/String" = some m.cls := findClass_of_methodNamed Bd.named
  have hnm := (name_of_methodNamed Bd.named Bd.method).1
  have X0 : Stand p l e ({ frames := 0, cells := 0, slots := 0, locals := 0 } : Room) s m #[(.ref sa)] below meth c s₁ [] 0 0 := Stand.of_body Bd
  have e0 : s₁.heap = h0 := by rw [← hh, Bd.state]; rfl
  have N0 := Fr.nil n0
  have pre0 : ∀ t, Steps p.tables e below (s₁.setTop (mkF m 0 #[.val (.ref sa)] [])) t → Steps p.tables e below (s₁.setTop (entryFrame m #[(.ref sa)] 1)) t := fun t k => castTop (ef_jdk_42_method_154_code m sa) k
  obtain ⟨T1, X1, e1, st1⟩ := getS2 X0 hx hZ hown (host := "") (Or.inl (hw _ (List.mem_of_getElem? (i := 49) rfl))) Via.refl e0 S_c (g := (mkF m 0 #[.val (.ref sa)] [])) rfl (hb hby d_jdk_42_method_154_code_0)
  obtain ⟨T2, X2, e2, st2⟩ := getF X1 hx hZ hown (host := "") (Or.inl (hw _ (List.mem_of_getElem? (i := 50) rfl))) Via.refl e1 CS (g := (mkF m 7 #[.val (.ref sa)] [(.ref sa)])) rfl rfl (hb hby d_jdk_42_method_154_code_7)
  obtain ⟨fs, hr, hrun, hended, hW, hsame⟩ := X2.leave (v := some (.int (1 : Int32))) (fun h => by rw [Bd.returns] at h; cases h)
  refine ⟨_, _, pre0 _ ?_, hrun, hended, _, _, rfl, ?_, ⟨_, rfl⟩, hW, hsame.mono (by decide) (by decide)⟩
  · show Steps p.tables e below (s₁.setTop (mkF m 0 #[.val (.ref sa)] [])) _
    refine st1 _ ?_
    show Steps p.tables e below (T1.setTop (mkF m 3 #[.val (.ref sa)] [(.int cs)])) _
    refine XS.ifNo X1.here hx rfl (hb hby d_jdk_42_method_154_code_3) rfl ((if0 _ _).trans (feq (hcs : ¬ (cs = (0 : Int32)))).1) ?_
    show Steps p.tables e below (T1.setTop (mkF m 6 #[.val (.ref sa)] [])) _
    refine XS.aloadN X1.here hx rfl (hb hby d_jdk_42_method_154_code_6) rfl rfl ?_
    show Steps p.tables e below (T1.setTop (mkF m 7 #[.val (.ref sa)] [(.ref sa)])) _
    refine st2 _ ?_
    show Steps p.tables e below (T2.setTop (mkF m 10 #[.val (.ref sa)] [(.int (0 : Int32))])) _
    refine XS.ifNo X2.here hx rfl (hb hby d_jdk_42_method_154_code_10) rfl ((if0 _ _).trans (teq (by decide : (0 : Int32) = (0 : Int32))).2) ?_
    show Steps p.tables e below (T2.setTop (mkF m 13 #[.val (.ref sa)] [])) _
    refine XS.iconst X2.here hx rfl (hb hby d_jdk_42_method_154_code_13) ?_
    show Steps p.tables e below (T2.setTop (mkF m 14 #[.val (.ref sa)] [(.int (1 : Int32))])) _
    refine XS.goto X2.here hx rfl (pc0 := 14) (pc' := 18) rfl (hb hby d_jdk_42_method_154_code_14) (by decide) (by decide) ?_
    show Steps p.tables e below (T2.setTop (mkF m 18 #[.val (.ref sa)] [(.int (1 : Int32))])) _
    exact retN X2 hx (t := .boolean) Bd.returns (by simp) (hb hby d_jdk_42_method_154_code_18) hr
  · show QP (some (.int (1 : Int32))) h0 n0 _ T2.heap _
    rw [e2]
    exact ⟨rfl, N0, rfl⟩
theorem d_jdk_42_method_54_code_0 : decode jdk_42_method_54_code 0 = .ok (.aload_n 0, 1) := by decide +kernel
theorem d_jdk_42_method_54_code_1 : decode jdk_42_method_54_code 1 = .ok (.getfield 9, 3) := by decide +kernel
theorem d_jdk_42_method_54_code_4 : decode jdk_42_method_54_code 4 = .ok (.arraylength, 1) := by decide +kernel
theorem d_jdk_42_method_54_code_5 : decode jdk_42_method_54_code 5 = .ok (.aload_n 0, 1) := by decide +kernel
theorem d_jdk_42_method_54_code_6 : decode jdk_42_method_54_code 6 = .ok (.invokevirtual 335, 3) := by decide +kernel
theorem d_jdk_42_method_54_code_9 : decode jdk_42_method_54_code 9 = .ok (.ishr, 1) := by decide +kernel
theorem d_jdk_42_method_54_code_10 : decode jdk_42_method_54_code 10 = .ok (.ireturn, 1) := by decide +kernel
theorem pd___B : parseMethodDescriptor "()B" = some ⟨[], some .byte⟩ := by decide +kernel
theorem ef_jdk_42_method_54_code (m : MethodId) (x0 : Addr) : entryFrame m #[(.ref x0)] 1 = mkF m 0 #[.val (.ref x0)] [] := by first | (simp [entryFrame, mkF, argsToLocals, Value.category]; done) | rfl
set_option maxRecDepth 65536 in
set_option maxHeartbeats 40000000 in
theorem rmL (l : Launch) (Z : State) (a0 : Array Value) (hw : ∀ d ∈ tables_1, d.before a0 Z = true) (ws : List Jvm.Cond) (sa sb : Addr) (kb : ClassId) (cs : Int32) (h0 : Heap) (n0 : Nat) (Z0 : n0 ≤ h0.size) (ES : Exa Z h0 sa "java/lang/String") (CS : Fld Z h0 sa "java/lang/String" "coder" "B" (.int (0 : Int32))) (VS : Fld Z h0 sa "java/lang/String" "value" "[B" (.ref sb)) (KS : Arv Z h0 sb kb .byte (1 : Int32) [(.int (114 : Int32))] (.int 0)) (S_c : Sta Z h0 "java/lang/String" "COMPACT_STRINGS" "Z" (.int cs)) (hcs : ¬ (cs = (0 : Int32)))  :
    MetFree l (⟨"java/lang/String", "length", "()I"⟩ : MethodName) (head1 (Jvm.Cond.code (⟨"java/lang/String", "length", "()I"⟩ : MethodName) jdk_42_method_54_code 1 (some .int) :: ws) ({ frames := 1, cells := 0, slots := 0, locals := 13 } : Room)) (fun a U => a = #[(.ref sa)] ∧ Z.Warmed39 U.vm ∧ U.heap = h0) (fun _ _ _ _ _ => True) (fun _ U o U' => ∃ v L, o = .returned v ∧ QP (some (.int (1 : Int32))) h0 n0 v U'.heap L ∧ FrameEnd U o U' L ({ frames := 1, cells := 0, slots := 0, locals := 13 } : Room).cells ({ frames := 1, cells := 0, slots := 0, locals := 13 } : Room).slots) := by
  refine MetFree.of_bodySF (plainFor_of_name pn_java_lang_String) hisR ?_
  intro p e s m args below meth c s₁ Bd hml0 hP hK
  obtain ⟨rfl, hZ, hh⟩ := hP
  have hx := Bd.exec
  have hby := Bd.bytes
  have hml : c.maxLocals = 1 := hml0
  have hown : s.vm.findClass "java/lang/String" = some m.cls := findClass_of_methodNamed Bd.named
  have hnm := (name_of_methodNamed Bd.named Bd.method).1
  have X0 : Stand p l e ({ frames := 1, cells := 0, slots := 0, locals := 13 } : Room) s m #[(.ref sa)] below meth c s₁ [] 0 0 := Stand.of_body Bd
  have e0 : s₁.heap = h0 := by rw [← hh, Bd.state]; rfl
  have N0 := Fr.nil n0
  have pre0 : ∀ t, Steps p.tables e below (s₁.setTop (mkF m 0 #[.val (.ref sa)] [])) t → Steps p.tables e below (s₁.setTop (entryFrame m #[(.ref sa)] 1)) t := fun t k => castTop (ef_jdk_42_method_54_code m sa) k
  obtain ⟨T1, X1, e1, st1⟩ := getF X0 hx hZ hown (host := "") (Or.inl (hw _ (List.mem_of_getElem? (i := 38) rfl))) Via.refl e0 VS (g := (mkF m 1 #[.val (.ref sa)] [(.ref sa)])) rfl rfl (hb hby d_jdk_42_method_54_code_1)
  obtain ⟨cl2, Ar2, -, S2, Nn2, -, -⟩ := id KS
  obtain ⟨cq3, kq3, q3a, q3b, q3c⟩ := isOf hZ e1 ES
  obtain ⟨_, _, ⟨T3, L3, k3, n3⟩, -, X3, ⟨Lc3, hQ3, l3, y3, z3⟩, st3⟩ := X1.virtualBack hx (y := (⟨"java/lang/String", "coder", "()B"⟩ : MethodName)) (z := (⟨"java/lang/String", "coder", "()B"⟩ : MethodName)) hown (mvT hZ (hw _ (List.mem_of_getElem? (i := 44) rfl))) (mvT hZ (hw _ (List.mem_of_getElem? (i := 45) rfl))) (notFace_of_selects (args := #[]) (mvT hZ (hw _ (List.mem_of_getElem? (i := 47) rfl)))) (mvT hZ (hw _ (List.mem_of_getElem? (i := 47) rfl))) (mvT hZ (hw _ (List.mem_of_getElem? (i := 46) rfl))) (by decide) (backOf (W := 1) (rmC l Z a0 hw [] sa cs h0 n0 Z0 CS S_c hcs) hZ (hw _ (List.mem_of_getElem? (i := 48) rfl)) (hw _ (List.mem_of_getElem? (i := 5) rfl)) (by decide) (by decide)) q3a q3c (g := (mkF m 6 #[.val (.ref sa)] [(.ref sa), (.int (1 : Int32))])) rfl (by rw [hml]; rfl) (Steps.refl _) (argsL := []) (rest := [(.int (1 : Int32))]) (lenOf pd___B rfl) rfl (by show 2 * 0 + _ ≤ _; exact Nat.le_of_eq rfl) (hb hby d_jdk_42_method_54_code_6) (fun _ _ => ⟨rfl, e1, (by decide : 0 + 0 ≤ _), (by decide : 0 + 0 ≤ _)⟩)
  dsimp only [Pt.U, Pt.locs, Pt.cells, Pt.slots] at X3 l3 y3 z3 st3 hQ3
  subst l3 y3 z3
  obtain ⟨rfl, N3q, eq3⟩ := hQ3
  have N3 := Fr.app N0 N3q
  obtain ⟨fs, hr, hrun, hended, hW, hsame⟩ := X3.leave (v := some (.int (1 : Int32))) (fun h => by rw [Bd.returns] at h; cases h)
  refine ⟨_, _, pre0 _ ?_, hrun, hended, _, _, rfl, ?_, ⟨_, rfl⟩, hW, hsame.mono (by decide) (by decide)⟩
  · show Steps p.tables e below (s₁.setTop (mkF m 0 #[.val (.ref sa)] [])) _
    refine XS.aloadN X0.here hx rfl (hb hby d_jdk_42_method_54_code_0) rfl rfl ?_
    show Steps p.tables e below (s₁.setTop (mkF m 1 #[.val (.ref sa)] [(.ref sa)])) _
    refine st1 _ ?_
    show Steps p.tables e below (T1.setTop (mkF m 4 #[.val (.ref sa)] [(.ref sb)])) _
    refine X1.arraylength hx (by rw [e1]; exact Ar2.1) (State.isArrayOf_alike hZ.alike Ar2.2.1) (g := (mkF m 4 #[.val (.ref sa)] [(.ref sb)])) rfl rfl (hb hby d_jdk_42_method_54_code_4) _ ?_
    rw [len_of S2 Nn2]
    show Steps p.tables e below (T1.setTop (mkF m 5 #[.val (.ref sa)] [(.int (1 : Int32))])) _
    refine XS.aloadN X1.here hx rfl (hb hby d_jdk_42_method_54_code_5) rfl rfl ?_
    show Steps p.tables e below (T1.setTop (mkF m 6 #[.val (.ref sa)] [(.ref sa), (.int (1 : Int32))])) _
    refine st3.trans ?_
    show Steps p.tables e below (T3.setTop (mkF m 9 #[.val (.ref sa)] [(.int (0 : Int32)), (.int (1 : Int32))])) _
    refine XS.ishr X3.here hx rfl (hb hby d_jdk_42_method_54_code_9) rfl ?_
    show Steps p.tables e below (T3.setTop (mkF m 10 #[.val (.ref sa)] [(.int ((1 : Int32) >>> ((0 : Int32) &&& 31)))])) _
    rw [show ((1 : Int32) >>> ((0 : Int32) &&& 31)) = (1 : Int32) from (by decide)]
    show Steps p.tables e below (T3.setTop (mkF m 10 #[.val (.ref sa)] [(.int (1 : Int32))])) _
    exact retOut X3 hx (t := .int) Bd.returns rfl (Or.inl ⟨rfl, Or.inl rfl, _, rfl⟩) (hb hby d_jdk_42_method_54_code_10) hr
  · show QP (some (.int (1 : Int32))) h0 n0 _ T3.heap _
    rw [eq3]
    exact ⟨rfl, N3, rfl⟩
theorem d_jdk_41_method_11_code_0 : decode jdk_41_method_11_code 0 = .ok (.iload_n 0, 1) := by decide +kernel
theorem d_jdk_41_method_11_code_1 : decode jdk_41_method_11_code 1 = .ok (.ifCond .lt 8, 3) := by decide +kernel
theorem d_jdk_41_method_11_code_4 : decode jdk_41_method_11_code 4 = .ok (.iload_n 0, 1) := by decide +kernel
theorem d_jdk_41_method_11_code_5 : decode jdk_41_method_11_code 5 = .ok (.iload_n 1, 1) := by decide +kernel
theorem d_jdk_41_method_11_code_6 : decode jdk_41_method_11_code 6 = .ok (.if_icmp .lt 10, 3) := by decide +kernel
theorem d_jdk_41_method_11_code_16 : decode jdk_41_method_11_code 16 = .ok (.iload_n 0, 1) := by decide +kernel
theorem d_jdk_41_method_11_code_17 : decode jdk_41_method_11_code 17 = .ok (.ireturn, 1) := by decide +kernel
theorem pn_jdk_internal_util_Preconditions : plainName "jdk/internal/util/Preconditions" = true := by first | (simp [plainName, overriddenIn]; done) | decide +kernel
theorem ef_jdk_41_method_11_code_r (m : MethodId) (ff : Addr) : entryFrame m #[(.int (0 : Int32)), (.int (1 : Int32)), (.ref ff)] 3 = mkF m 0 #[.val (.int (0 : Int32)), .val (.int (1 : Int32)), .val (.ref ff)] [] := by first | (simp [entryFrame, mkF, argsToLocals, Value.category]; done) | rfl
set_option maxRecDepth 65536 in
set_option maxHeartbeats 40000000 in
theorem rmXr (l : Launch) (Z : State) (a0 : Array Value) (hw : ∀ d ∈ tables_1, d.before a0 Z = true) (ws : List Jvm.Cond)  (ff : Addr) (h0 : Heap) (n0 : Nat) (Z0 : n0 ≤ h0.size)   :
    MetFree l (⟨"jdk/internal/util/Preconditions", "checkIndex", "(IILjava/util/function/BiFunction;)I"⟩ : MethodName) (head1 (Jvm.Cond.code (⟨"jdk/internal/util/Preconditions", "checkIndex", "(IILjava/util/function/BiFunction;)I"⟩ : MethodName) jdk_41_method_11_code 3 (some .int) :: ws) ({ frames := 0, cells := 0, slots := 0, locals := 0 } : Room)) (fun a U => a = #[(.int (0 : Int32)), (.int (1 : Int32)), (.ref ff)] ∧ Z.Warmed39 U.vm ∧ U.heap = h0) (fun _ _ _ _ _ => True) (fun _ U o U' => ∃ v L, o = .returned v ∧ QP (some (.int (0 : Int32))) h0 n0 v U'.heap L ∧ FrameEnd U o U' L ({ frames := 0, cells := 0, slots := 0, locals := 0 } : Room).cells ({ frames := 0, cells := 0, slots := 0, locals := 0 } : Room).slots) := by
  refine MetFree.of_bodySF (plainFor_of_name pn_jdk_internal_util_Preconditions) hisR ?_
  intro p e s m args below meth c s₁ Bd hml0 hP hK
  obtain ⟨rfl, hZ, hh⟩ := hP
  have hx := Bd.exec
  have hby := Bd.bytes
  have hml : c.maxLocals = 3 := hml0
  have hown : s.vm.findClass "jdk/internal/util/Preconditions" = some m.cls := findClass_of_methodNamed Bd.named
  have hnm := (name_of_methodNamed Bd.named Bd.method).1
  have X0 : Stand p l e ({ frames := 0, cells := 0, slots := 0, locals := 0 } : Room) s m #[(.int (0 : Int32)), (.int (1 : Int32)), (.ref ff)] below meth c s₁ [] 0 0 := Stand.of_body Bd
  have e0 : s₁.heap = h0 := by rw [← hh, Bd.state]; rfl
  have N0 := Fr.nil n0
  have pre0 : ∀ t, Steps p.tables e below (s₁.setTop (mkF m 0 #[.val (.int (0 : Int32)), .val (.int (1 : Int32)), .val (.ref ff)] [])) t → Steps p.tables e below (s₁.setTop (entryFrame m #[(.int (0 : Int32)), (.int (1 : Int32)), (.ref ff)] 3)) t := fun t k => castTop (ef_jdk_41_method_11_code_r m ff) k
  obtain ⟨fs, hr, hrun, hended, hW, hsame⟩ := X0.leave (v := some (.int (0 : Int32))) (fun h => by rw [Bd.returns] at h; cases h)
  refine ⟨_, _, pre0 _ ?_, hrun, hended, _, _, rfl, ?_, ⟨_, rfl⟩, hW, hsame.mono (by decide) (by decide)⟩
  · show Steps p.tables e below (s₁.setTop (mkF m 0 #[.val (.int (0 : Int32)), .val (.int (1 : Int32)), .val (.ref ff)] [])) _
    refine XS.iloadN X0.here hx rfl (hb hby d_jdk_41_method_11_code_0) rfl ?_
    show Steps p.tables e below (s₁.setTop (mkF m 1 #[.val (.int (0 : Int32)), .val (.int (1 : Int32)), .val (.ref ff)] [(.int (0 : Int32))])) _
    refine XS.ifNo X0.here hx rfl (hb hby d_jdk_41_method_11_code_1) rfl ((if0 _ _).trans (flt (by decide : ¬ ((0 : Int32) < (0 : Int32)))).1) ?_
    show Steps p.tables e below (s₁.setTop (mkF m 4 #[.val (.int (0 : Int32)), .val (.int (1 : Int32)), .val (.ref ff)] [])) _
    refine XS.iloadN X0.here hx rfl (hb hby d_jdk_41_method_11_code_4) rfl ?_
    show Steps p.tables e below (s₁.setTop (mkF m 5 #[.val (.int (0 : Int32)), .val (.int (1 : Int32)), .val (.ref ff)] [(.int (0 : Int32))])) _
    refine XS.iloadN X0.here hx rfl (hb hby d_jdk_41_method_11_code_5) rfl ?_
    show Steps p.tables e below (s₁.setTop (mkF m 6 #[.val (.int (0 : Int32)), .val (.int (1 : Int32)), .val (.ref ff)] [(.int (1 : Int32)), (.int (0 : Int32))])) _
    refine XS.icmpYes X0.here hx rfl (pc0 := 6) (pc' := 16) rfl (hb hby d_jdk_41_method_11_code_6) rfl (tlt (by decide : (0 : Int32) < (1 : Int32))).1 (by decide) (by decide) ?_
    show Steps p.tables e below (s₁.setTop (mkF m 16 #[.val (.int (0 : Int32)), .val (.int (1 : Int32)), .val (.ref ff)] [])) _
    refine XS.iloadN X0.here hx rfl (hb hby d_jdk_41_method_11_code_16) rfl ?_
    show Steps p.tables e below (s₁.setTop (mkF m 17 #[.val (.int (0 : Int32)), .val (.int (1 : Int32)), .val (.ref ff)] [(.int (0 : Int32))])) _
    exact retOut X0 hx (t := .int) Bd.returns rfl (Or.inl ⟨rfl, Or.inl rfl, _, rfl⟩) (hb hby d_jdk_41_method_11_code_17) hr
  · show QP (some (.int (0 : Int32))) h0 n0 _ s₁.heap _
    rw [e0]
    exact ⟨rfl, N0, rfl⟩
theorem d_jdk_42_method_155_code_0 : decode jdk_42_method_155_code 0 = .ok (.iload_n 0, 1) := by decide +kernel
theorem d_jdk_42_method_155_code_1 : decode jdk_42_method_155_code 1 = .ok (.iload_n 1, 1) := by decide +kernel
theorem d_jdk_42_method_155_code_2 : decode jdk_42_method_155_code 2 = .ok (.getstatic 1053, 3) := by decide +kernel
theorem d_jdk_42_method_155_code_5 : decode jdk_42_method_155_code 5 = .ok (.invokestatic 1059, 3) := by decide +kernel
theorem d_jdk_42_method_155_code_8 : decode jdk_42_method_155_code 8 = .ok (.pop, 1) := by decide +kernel
theorem d_jdk_42_method_155_code_9 : decode jdk_42_method_155_code 9 = .ok (.return_, 1) := by decide +kernel
theorem pd__IILjava_util_function_BiFunction__I : parseMethodDescriptor "(IILjava/util/function/BiFunction;)I" = some ⟨[.int, .int, (.object "java/util/function/BiFunction")], some .int⟩ := by decide +kernel
theorem ef_jdk_42_method_155_code (m : MethodId) (x0 : Int32) (x1 : Int32) : entryFrame m #[(.int x0), (.int x1)] 2 = mkF m 0 #[.val (.int x0), .val (.int x1)] [] := by first | (simp [entryFrame, mkF, argsToLocals, Value.category]; done) | rfl
set_option maxRecDepth 65536 in
set_option maxHeartbeats 40000000 in
theorem rmKr (l : Launch) (Z : State) (a0 : Array Value) (hw : ∀ d ∈ tables_1, d.before a0 Z = true) (ws : List Jvm.Cond)  (ff : Addr) (h0 : Heap) (n0 : Nat) (Z0 : n0 ≤ h0.size) (S_f : Sta Z h0 "jdk/internal/util/Preconditions" "SIOOBE_FORMATTER" "Ljava/util/function/BiFunction;" (.ref ff))  :
    MetFree l (⟨"java/lang/String", "checkIndex", "(II)V"⟩ : MethodName) (head1 (Jvm.Cond.code (⟨"java/lang/String", "checkIndex", "(II)V"⟩ : MethodName) jdk_42_method_155_code 2 none :: ws) ({ frames := 1, cells := 0, slots := 0, locals := 14 } : Room)) (fun a U => a = #[(.int (0 : Int32)), (.int (1 : Int32))] ∧ Z.Warmed39 U.vm ∧ U.heap = h0) (fun _ _ _ _ _ => True) (fun _ U o U' => ∃ v L, o = .returned v ∧ QP none h0 n0 v U'.heap L ∧ FrameEnd U o U' L ({ frames := 1, cells := 0, slots := 0, locals := 14 } : Room).cells ({ frames := 1, cells := 0, slots := 0, locals := 14 } : Room).slots) := by
  refine MetFree.of_bodySF (plainFor_of_name pn_java_lang_String) hisR ?_
  intro p e s m args below meth c s₁ Bd hml0 hP hK
  obtain ⟨rfl, hZ, hh⟩ := hP
  have hx := Bd.exec
  have hby := Bd.bytes
  have hml : c.maxLocals = 2 := hml0
  have hown : s.vm.findClass "java/lang/String" = some m.cls := findClass_of_methodNamed Bd.named
  have hnm := (name_of_methodNamed Bd.named Bd.method).1
  have X0 : Stand p l e ({ frames := 1, cells := 0, slots := 0, locals := 14 } : Room) s m #[(.int (0 : Int32)), (.int (1 : Int32))] below meth c s₁ [] 0 0 := Stand.of_body Bd
  have e0 : s₁.heap = h0 := by rw [← hh, Bd.state]; rfl
  have N0 := Fr.nil n0
  have pre0 : ∀ t, Steps p.tables e below (s₁.setTop (mkF m 0 #[.val (.int (0 : Int32)), .val (.int (1 : Int32))] [])) t → Steps p.tables e below (s₁.setTop (entryFrame m #[(.int (0 : Int32)), (.int (1 : Int32))] 2)) t := fun t k => castTop (ef_jdk_42_method_155_code m (0 : Int32) (1 : Int32)) k
  obtain ⟨T1, X1, e1, st1⟩ := getS2 X0 hx hZ hown (host := "") (Or.inl (hw _ (List.mem_of_getElem? (i := 68) rfl))) Via.refl e0 S_f (g := (mkF m 2 #[.val (.int (0 : Int32)), .val (.int (1 : Int32))] [(.int (1 : Int32)), (.int (0 : Int32))])) rfl (hb hby d_jdk_42_method_155_code_2)
  obtain ⟨_, _, ⟨T2, L2, k2, n2⟩, -, X2, ⟨Lc2, hQ2, l2, y2, z2⟩, st2⟩ := Jvm.LawKit.callS X1 hx (y := (⟨"jdk/internal/util/Preconditions", "checkIndex", "(IILjava/util/function/BiFunction;)I"⟩ : MethodName)) hown (mvT hZ (hw _ (List.mem_of_getElem? (i := 70) rfl))) (mvT hZ (hw _ (List.mem_of_getElem? (i := 71) rfl))) (mvT hZ (hw _ (List.mem_of_getElem? (i := 69) rfl))) (mvT hZ (hw _ (List.mem_of_getElem? (i := 72) rfl))) (by decide) (backOf (W := 0) (rmXr l Z a0 hw [] ff h0 n0 Z0) hZ (hw _ (List.mem_of_getElem? (i := 72) rfl)) (hw _ (List.mem_of_getElem? (i := 69) rfl)) (by decide) (by decide)) (g := (mkF m 5 #[.val (.int (0 : Int32)), .val (.int (1 : Int32))] [(.ref ff), (.int (1 : Int32)), (.int (0 : Int32))])) rfl (by rw [hml]; rfl) (argsL := [(.int (0 : Int32)), (.int (1 : Int32)), (.ref ff)]) (rest := []) (lenOf pd__IILjava_util_function_BiFunction__I rfl) rfl (by show 2 * 0 + _ ≤ _; exact Nat.le_of_eq rfl) (hb hby d_jdk_42_method_155_code_5) (fun _ _ => ⟨rfl, e1, (by decide : 0 + 0 ≤ _), (by decide : 0 + 0 ≤ _)⟩)
  dsimp only [Pt.U, Pt.locs, Pt.cells, Pt.slots] at X2 l2 y2 z2 st2 hQ2
  subst l2 y2 z2
  obtain ⟨rfl, N2q, eq2⟩ := hQ2
  have N2 := Fr.app N0 N2q
  obtain ⟨fs, hr, hrun, hended, hW, hsame⟩ := X2.leave (v := none) (fun _ => rfl)
  refine ⟨_, _, pre0 _ ?_, hrun, hended, _, _, rfl, ?_, ⟨_, rfl⟩, hW, hsame.mono (by decide) (by decide)⟩
  · show Steps p.tables e below (s₁.setTop (mkF m 0 #[.val (.int (0 : Int32)), .val (.int (1 : Int32))] [])) _
    refine XS.iloadN X0.here hx rfl (hb hby d_jdk_42_method_155_code_0) rfl ?_
    show Steps p.tables e below (s₁.setTop (mkF m 1 #[.val (.int (0 : Int32)), .val (.int (1 : Int32))] [(.int (0 : Int32))])) _
    refine XS.iloadN X0.here hx rfl (hb hby d_jdk_42_method_155_code_1) rfl ?_
    show Steps p.tables e below (s₁.setTop (mkF m 2 #[.val (.int (0 : Int32)), .val (.int (1 : Int32))] [(.int (1 : Int32)), (.int (0 : Int32))])) _
    refine st1 _ ?_
    show Steps p.tables e below (T1.setTop (mkF m 5 #[.val (.int (0 : Int32)), .val (.int (1 : Int32))] [(.ref ff), (.int (1 : Int32)), (.int (0 : Int32))])) _
    refine st2 _ ?_
    show Steps p.tables e below (T2.setTop (mkF m 8 #[.val (.int (0 : Int32)), .val (.int (1 : Int32))] [(.int (0 : Int32))])) _
    refine XS.pop X2.here hx rfl (hb hby d_jdk_42_method_155_code_8) rfl rfl ?_
    show Steps p.tables e below (T2.setTop (mkF m 9 #[.val (.int (0 : Int32)), .val (.int (1 : Int32))] [])) _
    exact X2.returnOut hx Bd.returns (hb hby d_jdk_42_method_155_code_9) hr
  · show QP none h0 n0 _ T2.heap _
    rw [eq2]
    exact ⟨rfl, N2, rfl⟩
theorem ef_jdk_41_method_11_code_n (m : MethodId) : entryFrame m #[(.int (0 : Int32)), (.int (1 : Int32)), .null] 3 = mkF m 0 #[.val (.int (0 : Int32)), .val (.int (1 : Int32)), .val .null] [] := by first | (simp [entryFrame, mkF, argsToLocals, Value.category]; done) | rfl
set_option maxRecDepth 65536 in
set_option maxHeartbeats 40000000 in
theorem rmXn (l : Launch) (Z : State) (a0 : Array Value) (hw : ∀ d ∈ tables_1, d.before a0 Z = true) (ws : List Jvm.Cond)  (h0 : Heap) (n0 : Nat) (Z0 : n0 ≤ h0.size)   :
    MetFree l (⟨"jdk/internal/util/Preconditions", "checkIndex", "(IILjava/util/function/BiFunction;)I"⟩ : MethodName) (head1 (Jvm.Cond.code (⟨"jdk/internal/util/Preconditions", "checkIndex", "(IILjava/util/function/BiFunction;)I"⟩ : MethodName) jdk_41_method_11_code 3 (some .int) :: ws) ({ frames := 0, cells := 0, slots := 0, locals := 0 } : Room)) (fun a U => a = #[(.int (0 : Int32)), (.int (1 : Int32)), .null] ∧ Z.Warmed39 U.vm ∧ U.heap = h0) (fun _ _ _ _ _ => True) (fun _ U o U' => ∃ v L, o = .returned v ∧ QP (some (.int (0 : Int32))) h0 n0 v U'.heap L ∧ FrameEnd U o U' L ({ frames := 0, cells := 0, slots := 0, locals := 0 } : Room).cells ({ frames := 0, cells := 0, slots := 0, locals := 0 } : Room).slots) := by
  refine MetFree.of_bodySF (plainFor_of_name pn_jdk_internal_util_Preconditions) hisR ?_
  intro p e s m args below meth c s₁ Bd hml0 hP hK
  obtain ⟨rfl, hZ, hh⟩ := hP
  have hx := Bd.exec
  have hby := Bd.bytes
  have hml : c.maxLocals = 3 := hml0
  have hown : s.vm.findClass "jdk/internal/util/Preconditions" = some m.cls := findClass_of_methodNamed Bd.named
  have hnm := (name_of_methodNamed Bd.named Bd.method).1
  have X0 : Stand p l e ({ frames := 0, cells := 0, slots := 0, locals := 0 } : Room) s m #[(.int (0 : Int32)), (.int (1 : Int32)), .null] below meth c s₁ [] 0 0 := Stand.of_body Bd
  have e0 : s₁.heap = h0 := by rw [← hh, Bd.state]; rfl
  have N0 := Fr.nil n0
  have pre0 : ∀ t, Steps p.tables e below (s₁.setTop (mkF m 0 #[.val (.int (0 : Int32)), .val (.int (1 : Int32)), .val .null] [])) t → Steps p.tables e below (s₁.setTop (entryFrame m #[(.int (0 : Int32)), (.int (1 : Int32)), .null] 3)) t := fun t k => castTop (ef_jdk_41_method_11_code_n m) k
  obtain ⟨fs, hr, hrun, hended, hW, hsame⟩ := X0.leave (v := some (.int (0 : Int32))) (fun h => by rw [Bd.returns] at h; cases h)
  refine ⟨_, _, pre0 _ ?_, hrun, hended, _, _, rfl, ?_, ⟨_, rfl⟩, hW, hsame.mono (by decide) (by decide)⟩
  · show Steps p.tables e below (s₁.setTop (mkF m 0 #[.val (.int (0 : Int32)), .val (.int (1 : Int32)), .val .null] [])) _
    refine XS.iloadN X0.here hx rfl (hb hby d_jdk_41_method_11_code_0) rfl ?_
    show Steps p.tables e below (s₁.setTop (mkF m 1 #[.val (.int (0 : Int32)), .val (.int (1 : Int32)), .val .null] [(.int (0 : Int32))])) _
    refine XS.ifNo X0.here hx rfl (hb hby d_jdk_41_method_11_code_1) rfl ((if0 _ _).trans (flt (by decide : ¬ ((0 : Int32) < (0 : Int32)))).1) ?_
    show Steps p.tables e below (s₁.setTop (mkF m 4 #[.val (.int (0 : Int32)), .val (.int (1 : Int32)), .val .null] [])) _
    refine XS.iloadN X0.here hx rfl (hb hby d_jdk_41_method_11_code_4) rfl ?_
    show Steps p.tables e below (s₁.setTop (mkF m 5 #[.val (.int (0 : Int32)), .val (.int (1 : Int32)), .val .null] [(.int (0 : Int32))])) _
    refine XS.iloadN X0.here hx rfl (hb hby d_jdk_41_method_11_code_5) rfl ?_
    show Steps p.tables e below (s₁.setTop (mkF m 6 #[.val (.int (0 : Int32)), .val (.int (1 : Int32)), .val .null] [(.int (1 : Int32)), (.int (0 : Int32))])) _
    refine XS.icmpYes X0.here hx rfl (pc0 := 6) (pc' := 16) rfl (hb hby d_jdk_41_method_11_code_6) rfl (tlt (by decide : (0 : Int32) < (1 : Int32))).1 (by decide) (by decide) ?_
    show Steps p.tables e below (s₁.setTop (mkF m 16 #[.val (.int (0 : Int32)), .val (.int (1 : Int32)), .val .null] [])) _
    refine XS.iloadN X0.here hx rfl (hb hby d_jdk_41_method_11_code_16) rfl ?_
    show Steps p.tables e below (s₁.setTop (mkF m 17 #[.val (.int (0 : Int32)), .val (.int (1 : Int32)), .val .null] [(.int (0 : Int32))])) _
    exact retOut X0 hx (t := .int) Bd.returns rfl (Or.inl ⟨rfl, Or.inl rfl, _, rfl⟩) (hb hby d_jdk_41_method_11_code_17) hr
  · show QP (some (.int (0 : Int32))) h0 n0 _ s₁.heap _
    rw [e0]
    exact ⟨rfl, N0, rfl⟩
set_option maxRecDepth 65536 in
set_option maxHeartbeats 40000000 in
theorem rmKn (l : Launch) (Z : State) (a0 : Array Value) (hw : ∀ d ∈ tables_1, d.before a0 Z = true) (ws : List Jvm.Cond)  (h0 : Heap) (n0 : Nat) (Z0 : n0 ≤ h0.size) (S_f : Sta Z h0 "jdk/internal/util/Preconditions" "SIOOBE_FORMATTER" "Ljava/util/function/BiFunction;" .null)  :
    MetFree l (⟨"java/lang/String", "checkIndex", "(II)V"⟩ : MethodName) (head1 (Jvm.Cond.code (⟨"java/lang/String", "checkIndex", "(II)V"⟩ : MethodName) jdk_42_method_155_code 2 none :: ws) ({ frames := 1, cells := 0, slots := 0, locals := 14 } : Room)) (fun a U => a = #[(.int (0 : Int32)), (.int (1 : Int32))] ∧ Z.Warmed39 U.vm ∧ U.heap = h0) (fun _ _ _ _ _ => True) (fun _ U o U' => ∃ v L, o = .returned v ∧ QP none h0 n0 v U'.heap L ∧ FrameEnd U o U' L ({ frames := 1, cells := 0, slots := 0, locals := 14 } : Room).cells ({ frames := 1, cells := 0, slots := 0, locals := 14 } : Room).slots) := by
  refine MetFree.of_bodySF (plainFor_of_name pn_java_lang_String) hisR ?_
  intro p e s m args below meth c s₁ Bd hml0 hP hK
  obtain ⟨rfl, hZ, hh⟩ := hP
  have hx := Bd.exec
  have hby := Bd.bytes
  have hml : c.maxLocals = 2 := hml0
  have hown : s.vm.findClass "java/lang/String" = some m.cls := findClass_of_methodNamed Bd.named
  have hnm := (name_of_methodNamed Bd.named Bd.method).1
  have X0 : Stand p l e ({ frames := 1, cells := 0, slots := 0, locals := 14 } : Room) s m #[(.int (0 : Int32)), (.int (1 : Int32))] below meth c s₁ [] 0 0 := Stand.of_body Bd
  have e0 : s₁.heap = h0 := by rw [← hh, Bd.state]; rfl
  have N0 := Fr.nil n0
  have pre0 : ∀ t, Steps p.tables e below (s₁.setTop (mkF m 0 #[.val (.int (0 : Int32)), .val (.int (1 : Int32))] [])) t → Steps p.tables e below (s₁.setTop (entryFrame m #[(.int (0 : Int32)), (.int (1 : Int32))] 2)) t := fun t k => castTop (ef_jdk_42_method_155_code m (0 : Int32) (1 : Int32)) k
  obtain ⟨T1, X1, e1, st1⟩ := getS2 X0 hx hZ hown (host := "") (Or.inl (hw _ (List.mem_of_getElem? (i := 68) rfl))) Via.refl e0 S_f (g := (mkF m 2 #[.val (.int (0 : Int32)), .val (.int (1 : Int32))] [(.int (1 : Int32)), (.int (0 : Int32))])) rfl (hb hby d_jdk_42_method_155_code_2)
  obtain ⟨_, _, ⟨T2, L2, k2, n2⟩, -, X2, ⟨Lc2, hQ2, l2, y2, z2⟩, st2⟩ := Jvm.LawKit.callS X1 hx (y := (⟨"jdk/internal/util/Preconditions", "checkIndex", "(IILjava/util/function/BiFunction;)I"⟩ : MethodName)) hown (mvT hZ (hw _ (List.mem_of_getElem? (i := 70) rfl))) (mvT hZ (hw _ (List.mem_of_getElem? (i := 71) rfl))) (mvT hZ (hw _ (List.mem_of_getElem? (i := 69) rfl))) (mvT hZ (hw _ (List.mem_of_getElem? (i := 72) rfl))) (by decide) (backOf (W := 0) (rmXn l Z a0 hw [] h0 n0 Z0) hZ (hw _ (List.mem_of_getElem? (i := 72) rfl)) (hw _ (List.mem_of_getElem? (i := 69) rfl)) (by decide) (by decide)) (g := (mkF m 5 #[.val (.int (0 : Int32)), .val (.int (1 : Int32))] [.null, (.int (1 : Int32)), (.int (0 : Int32))])) rfl (by rw [hml]; rfl) (argsL := [(.int (0 : Int32)), (.int (1 : Int32)), .null]) (rest := []) (lenOf pd__IILjava_util_function_BiFunction__I rfl) rfl (by show 2 * 0 + _ ≤ _; exact Nat.le_of_eq rfl) (hb hby d_jdk_42_method_155_code_5) (fun _ _ => ⟨rfl, e1, (by decide : 0 + 0 ≤ _), (by decide : 0 + 0 ≤ _)⟩)
  dsimp only [Pt.U, Pt.locs, Pt.cells, Pt.slots] at X2 l2 y2 z2 st2 hQ2
  subst l2 y2 z2
  obtain ⟨rfl, N2q, eq2⟩ := hQ2
  have N2 := Fr.app N0 N2q
  obtain ⟨fs, hr, hrun, hended, hW, hsame⟩ := X2.leave (v := none) (fun _ => rfl)
  refine ⟨_, _, pre0 _ ?_, hrun, hended, _, _, rfl, ?_, ⟨_, rfl⟩, hW, hsame.mono (by decide) (by decide)⟩
  · show Steps p.tables e below (s₁.setTop (mkF m 0 #[.val (.int (0 : Int32)), .val (.int (1 : Int32))] [])) _
    refine XS.iloadN X0.here hx rfl (hb hby d_jdk_42_method_155_code_0) rfl ?_
    show Steps p.tables e below (s₁.setTop (mkF m 1 #[.val (.int (0 : Int32)), .val (.int (1 : Int32))] [(.int (0 : Int32))])) _
    refine XS.iloadN X0.here hx rfl (hb hby d_jdk_42_method_155_code_1) rfl ?_
    show Steps p.tables e below (s₁.setTop (mkF m 2 #[.val (.int (0 : Int32)), .val (.int (1 : Int32))] [(.int (1 : Int32)), (.int (0 : Int32))])) _
    refine st1 _ ?_
    show Steps p.tables e below (T1.setTop (mkF m 5 #[.val (.int (0 : Int32)), .val (.int (1 : Int32))] [.null, (.int (1 : Int32)), (.int (0 : Int32))])) _
    refine st2 _ ?_
    show Steps p.tables e below (T2.setTop (mkF m 8 #[.val (.int (0 : Int32)), .val (.int (1 : Int32))] [(.int (0 : Int32))])) _
    refine XS.pop X2.here hx rfl (hb hby d_jdk_42_method_155_code_8) rfl rfl ?_
    show Steps p.tables e below (T2.setTop (mkF m 9 #[.val (.int (0 : Int32)), .val (.int (1 : Int32))] [])) _
    exact X2.returnOut hx Bd.returns (hb hby d_jdk_42_method_155_code_9) hr
  · show QP none h0 n0 _ T2.heap _
    rw [eq2]
    exact ⟨rfl, N2, rfl⟩
theorem rmK (l : Launch) (Z : State) (a0 : Array Value) (hw : ∀ d ∈ tables_1, d.before a0 Z = true) (ws : List Jvm.Cond) (fv : Value) (h0 : Heap) (n0 : Nat) (Z0 : n0 ≤ h0.size) (S_f : Sta Z h0 "jdk/internal/util/Preconditions" "SIOOBE_FORMATTER" "Ljava/util/function/BiFunction;" fv) (hfv : fv.isRef = true) :
    MetFree l (⟨"java/lang/String", "checkIndex", "(II)V"⟩ : MethodName) (head1 (Jvm.Cond.code (⟨"java/lang/String", "checkIndex", "(II)V"⟩ : MethodName) jdk_42_method_155_code 2 none :: ws) ({ frames := 1, cells := 0, slots := 0, locals := 14 } : Room)) (fun a U => a = #[(.int (0 : Int32)), (.int (1 : Int32))] ∧ Z.Warmed39 U.vm ∧ U.heap = h0) (fun _ _ _ _ _ => True) (fun _ U o U' => ∃ v L, o = .returned v ∧ QP none h0 n0 v U'.heap L ∧ FrameEnd U o U' L ({ frames := 1, cells := 0, slots := 0, locals := 14 } : Room).cells ({ frames := 1, cells := 0, slots := 0, locals := 14 } : Room).slots) := by
  rcases ref_cases hfv with rfl | ⟨ff, rfl⟩
  · exact rmKn l Z a0 hw ws h0 n0 Z0 S_f
  · exact rmKr l Z a0 hw ws ff h0 n0 Z0 S_f
theorem d_jdk_43_method_2_code_0 : decode jdk_43_method_2_code 0 = .ok (.iload_n 1, 1) := by decide +kernel
theorem d_jdk_43_method_2_code_1 : decode jdk_43_method_2_code 1 = .ok (.aload_n 0, 1) := by decide +kernel
theorem d_jdk_43_method_2_code_2 : decode jdk_43_method_2_code 2 = .ok (.arraylength, 1) := by decide +kernel
theorem d_jdk_43_method_2_code_3 : decode jdk_43_method_2_code 3 = .ok (.invokestatic 9, 3) := by decide +kernel
theorem d_jdk_43_method_2_code_6 : decode jdk_43_method_2_code 6 = .ok (.aload_n 0, 1) := by decide +kernel
theorem d_jdk_43_method_2_code_7 : decode jdk_43_method_2_code 7 = .ok (.iload_n 1, 1) := by decide +kernel
theorem d_jdk_43_method_2_code_8 : decode jdk_43_method_2_code 8 = .ok (.baload, 1) := by decide +kernel
theorem d_jdk_43_method_2_code_9 : decode jdk_43_method_2_code 9 = .ok (.sipush 255, 3) := by decide +kernel
theorem d_jdk_43_method_2_code_12 : decode jdk_43_method_2_code 12 = .ok (.iand, 1) := by decide +kernel
theorem d_jdk_43_method_2_code_13 : decode jdk_43_method_2_code 13 = .ok (.i2c, 1) := by decide +kernel
theorem d_jdk_43_method_2_code_14 : decode jdk_43_method_2_code 14 = .ok (.ireturn, 1) := by decide +kernel
theorem pd__II_V : parseMethodDescriptor "(II)V" = some ⟨[.int, .int], none⟩ := by decide +kernel
theorem pn_java_lang_StringLatin1 : plainName "java/lang/StringLatin1" = true := by first | (simp [plainName, overriddenIn]; done) | decide +kernel
theorem ef_jdk_43_method_2_code (m : MethodId) (x0 : Addr) (x1 : Int32) : entryFrame m #[(.ref x0), (.int x1)] 2 = mkF m 0 #[.val (.ref x0), .val (.int x1)] [] := by first | (simp [entryFrame, mkF, argsToLocals, Value.category]; done) | rfl
set_option maxRecDepth 65536 in
set_option maxHeartbeats 40000000 in
theorem rmSC (l : Launch) (Z : State) (a0 : Array Value) (hw : ∀ d ∈ tables_1, d.before a0 Z = true) (ws : List Jvm.Cond) (sb : Addr) (kb : ClassId) (fv : Value) (h0 : Heap) (n0 : Nat) (Z0 : n0 ≤ h0.size) (KS : Arv Z h0 sb kb .byte (1 : Int32) [(.int (114 : Int32))] (.int 0)) (S_f : Sta Z h0 "jdk/internal/util/Preconditions" "SIOOBE_FORMATTER" "Ljava/util/function/BiFunction;" fv) (hfv : fv.isRef = true)  :
    MetFree l (⟨"java/lang/StringLatin1", "charAt", "([BI)C"⟩ : MethodName) (head1 (Jvm.Cond.code (⟨"java/lang/StringLatin1", "charAt", "([BI)C"⟩ : MethodName) jdk_43_method_2_code 2 (some .char) :: ws) ({ frames := 2, cells := 0, slots := 0, locals := 27 } : Room)) (fun a U => a = #[(.ref sb), (.int (0 : Int32))] ∧ Z.Warmed39 U.vm ∧ U.heap = h0) (fun _ _ _ _ _ => True) (fun _ U o U' => ∃ v L, o = .returned v ∧ QP (some (.int (114 : Int32))) h0 n0 v U'.heap L ∧ FrameEnd U o U' L ({ frames := 2, cells := 0, slots := 0, locals := 27 } : Room).cells ({ frames := 2, cells := 0, slots := 0, locals := 27 } : Room).slots) := by
  refine MetFree.of_bodySF (plainFor_of_name pn_java_lang_StringLatin1) hisR ?_
  intro p e s m args below meth c s₁ Bd hml0 hP hK
  obtain ⟨rfl, hZ, hh⟩ := hP
  have hx := Bd.exec
  have hby := Bd.bytes
  have hml : c.maxLocals = 2 := hml0
  have hown : s.vm.findClass "java/lang/StringLatin1" = some m.cls := findClass_of_methodNamed Bd.named
  have hnm := (name_of_methodNamed Bd.named Bd.method).1
  have X0 : Stand p l e ({ frames := 2, cells := 0, slots := 0, locals := 27 } : Room) s m #[(.ref sb), (.int (0 : Int32))] below meth c s₁ [] 0 0 := Stand.of_body Bd
  have e0 : s₁.heap = h0 := by rw [← hh, Bd.state]; rfl
  have N0 := Fr.nil n0
  have pre0 : ∀ t, Steps p.tables e below (s₁.setTop (mkF m 0 #[.val (.ref sb), .val (.int (0 : Int32))] [])) t → Steps p.tables e below (s₁.setTop (entryFrame m #[(.ref sb), (.int (0 : Int32))] 2)) t := fun t k => castTop (ef_jdk_43_method_2_code m sb (0 : Int32)) k
  obtain ⟨cl1, Ar1, -, S1, Nn1, -, -⟩ := id KS
  obtain ⟨_, _, ⟨T2, L2, k2, n2⟩, -, X2, ⟨Lc2, hQ2, l2, y2, z2⟩, st2⟩ := Jvm.LawKit.callS X0 hx (y := (⟨"java/lang/String", "checkIndex", "(II)V"⟩ : MethodName)) hown (mvT hZ (hw _ (List.mem_of_getElem? (i := 65) rfl))) (mvT hZ (hw _ (List.mem_of_getElem? (i := 66) rfl))) (mvT hZ (hw _ (List.mem_of_getElem? (i := 5) rfl))) (mvT hZ (hw _ (List.mem_of_getElem? (i := 67) rfl))) (by decide) (backOf (W := 0) (rmK l Z a0 hw [] fv h0 n0 Z0 S_f hfv) hZ (hw _ (List.mem_of_getElem? (i := 67) rfl)) (hw _ (List.mem_of_getElem? (i := 5) rfl)) (by decide) (by decide)) (g := (mkF m 3 #[.val (.ref sb), .val (.int (0 : Int32))] [(.int (1 : Int32)), (.int (0 : Int32))])) rfl (by rw [hml]; rfl) (argsL := [(.int (0 : Int32)), (.int (1 : Int32))]) (rest := []) (lenOf pd__II_V rfl) rfl (by show 2 * 0 + _ ≤ _; exact Nat.le_of_eq rfl) (hb hby d_jdk_43_method_2_code_3) (fun _ _ => ⟨rfl, e0, (by decide : 0 + 0 ≤ _), (by decide : 0 + 0 ≤ _)⟩)
  dsimp only [Pt.U, Pt.locs, Pt.cells, Pt.slots] at X2 l2 y2 z2 st2 hQ2
  subst l2 y2 z2
  obtain ⟨rfl, N2q, eq2⟩ := hQ2
  have N2 := Fr.app N0 N2q
  obtain ⟨cl3, Ar3, -, S3, Nn3, H3, -⟩ := id KS
  have hin3 : ¬ ((0 : Int32) < 0 ∨ cl3.slots.size ≤ ((0 : Int32)).toNatClampNeg) := inb_of S3 ⟨by decide, by decide⟩
  have hat3 : cl3.slots[((0 : Int32)).toNatClampNeg]? = some (.int (114 : Int32)) := H3.at hin3 rfl
  obtain ⟨fs, hr, hrun, hended, hW, hsame⟩ := X2.leave (v := some (.int (114 : Int32))) (fun h => by rw [Bd.returns] at h; cases h)
  refine ⟨_, _, pre0 _ ?_, hrun, hended, _, _, rfl, ?_, ⟨_, rfl⟩, hW, hsame.mono (by decide) (by decide)⟩
  · show Steps p.tables e below (s₁.setTop (mkF m 0 #[.val (.ref sb), .val (.int (0 : Int32))] [])) _
    refine XS.iloadN X0.here hx rfl (hb hby d_jdk_43_method_2_code_0) rfl ?_
    show Steps p.tables e below (s₁.setTop (mkF m 1 #[.val (.ref sb), .val (.int (0 : Int32))] [(.int (0 : Int32))])) _
    refine XS.aloadN X0.here hx rfl (hb hby d_jdk_43_method_2_code_1) rfl rfl ?_
    show Steps p.tables e below (s₁.setTop (mkF m 2 #[.val (.ref sb), .val (.int (0 : Int32))] [(.ref sb), (.int (0 : Int32))])) _
    refine X0.arraylength hx (by rw [e0]; exact Ar1.1) (State.isArrayOf_alike hZ.alike Ar1.2.1) (g := (mkF m 2 #[.val (.ref sb), .val (.int (0 : Int32))] [(.ref sb), (.int (0 : Int32))])) rfl rfl (hb hby d_jdk_43_method_2_code_2) _ ?_
    rw [len_of S1 Nn1]
    show Steps p.tables e below (s₁.setTop (mkF m 3 #[.val (.ref sb), .val (.int (0 : Int32))] [(.int (1 : Int32)), (.int (0 : Int32))])) _
    refine st2 _ ?_
    show Steps p.tables e below (T2.setTop (mkF m 6 #[.val (.ref sb), .val (.int (0 : Int32))] [])) _
    refine XS.aloadN X2.here hx rfl (hb hby d_jdk_43_method_2_code_6) rfl rfl ?_
    show Steps p.tables e below (T2.setTop (mkF m 7 #[.val (.ref sb), .val (.int (0 : Int32))] [(.ref sb)])) _
    refine XS.iloadN X2.here hx rfl (hb hby d_jdk_43_method_2_code_7) rfl ?_
    show Steps p.tables e below (T2.setTop (mkF m 8 #[.val (.ref sb), .val (.int (0 : Int32))] [(.int (0 : Int32)), (.ref sb)])) _
    refine X2.baloadBytes hx (j := (0 : Int32)) (v := (.int (114 : Int32))) (by rw [eq2]; exact Ar3.1) (State.isArrayOf_alike hZ.alike Ar3.2.1) Ar3.2.2 hin3 hat3 (g := (mkF m 8 #[.val (.ref sb), .val (.int (0 : Int32))] [(.int (0 : Int32)), (.ref sb)])) rfl rfl (hb hby d_jdk_43_method_2_code_8) _ ?_
    show Steps p.tables e below (T2.setTop (mkF m 9 #[.val (.ref sb), .val (.int (0 : Int32))] [(.int (114 : Int32))])) _
    refine XS.sipush X2.here hx rfl (hb hby d_jdk_43_method_2_code_9) ?_
    show Steps p.tables e below (T2.setTop (mkF m 12 #[.val (.ref sb), .val (.int (0 : Int32))] [(.int (255 : Int32)), (.int (114 : Int32))])) _
    refine XS.iand X2.here hx rfl (hb hby d_jdk_43_method_2_code_12) rfl ?_
    show Steps p.tables e below (T2.setTop (mkF m 13 #[.val (.ref sb), .val (.int (0 : Int32))] [(.int ((114 : Int32) &&& (255 : Int32)))])) _
    rw [show ((114 : Int32) &&& (255 : Int32)) = (114 : Int32) from (by decide)]
    show Steps p.tables e below (T2.setTop (mkF m 13 #[.val (.ref sb), .val (.int (0 : Int32))] [(.int (114 : Int32))])) _
    refine XS.i2c X2.here hx rfl (hb hby d_jdk_43_method_2_code_13) rfl ?_
    show Steps p.tables e below (T2.setTop (mkF m 14 #[.val (.ref sb), .val (.int (0 : Int32))] [(.int ((114 : Int32).toUInt32.toUInt16.toUInt32.toInt32))])) _
    rw [show ((114 : Int32).toUInt32.toUInt16.toUInt32.toInt32) = (114 : Int32) from (by decide)]
    show Steps p.tables e below (T2.setTop (mkF m 14 #[.val (.ref sb), .val (.int (0 : Int32))] [(.int (114 : Int32))])) _
    exact retN X2 hx (t := .char) Bd.returns (by simp) (hb hby d_jdk_43_method_2_code_14) hr
  · show QP (some (.int (114 : Int32))) h0 n0 _ T2.heap _
    rw [eq2]
    exact ⟨rfl, N2, rfl⟩
theorem d_jdk_42_method_56_code_0 : decode jdk_42_method_56_code 0 = .ok (.aload_n 0, 1) := by decide +kernel
theorem d_jdk_42_method_56_code_1 : decode jdk_42_method_56_code 1 = .ok (.invokevirtual 492, 3) := by decide +kernel
theorem d_jdk_42_method_56_code_4 : decode jdk_42_method_56_code 4 = .ok (.ifCond .eq 12, 3) := by decide +kernel
theorem d_jdk_42_method_56_code_7 : decode jdk_42_method_56_code 7 = .ok (.aload_n 0, 1) := by decide +kernel
theorem d_jdk_42_method_56_code_8 : decode jdk_42_method_56_code 8 = .ok (.getfield 9, 3) := by decide +kernel
theorem d_jdk_42_method_56_code_11 : decode jdk_42_method_56_code 11 = .ok (.iload_n 1, 1) := by decide +kernel
theorem d_jdk_42_method_56_code_12 : decode jdk_42_method_56_code 12 = .ok (.invokestatic 495, 3) := by decide +kernel
theorem d_jdk_42_method_56_code_15 : decode jdk_42_method_56_code 15 = .ok (.ireturn, 1) := by decide +kernel
theorem pd___Z : parseMethodDescriptor "()Z" = some ⟨[], some .boolean⟩ := by decide +kernel
theorem pd___BI_C : parseMethodDescriptor "([BI)C" = some ⟨[(.array .byte), .int], some .char⟩ := by decide +kernel
theorem ef_jdk_42_method_56_code (m : MethodId) (x0 : Addr) (x1 : Int32) : entryFrame m #[(.ref x0), (.int x1)] 2 = mkF m 0 #[.val (.ref x0), .val (.int x1)] [] := by first | (simp [entryFrame, mkF, argsToLocals, Value.category]; done) | rfl
set_option maxRecDepth 65536 in
set_option maxHeartbeats 40000000 in
theorem rmCA (l : Launch) (Z : State) (a0 : Array Value) (hw : ∀ d ∈ tables_1, d.before a0 Z = true) (ws : List Jvm.Cond) (sa sb : Addr) (kb : ClassId) (cs : Int32) (fv : Value) (h0 : Heap) (n0 : Nat) (Z0 : n0 ≤ h0.size) (ES : Exa Z h0 sa "java/lang/String") (CS : Fld Z h0 sa "java/lang/String" "coder" "B" (.int (0 : Int32))) (VS : Fld Z h0 sa "java/lang/String" "value" "[B" (.ref sb)) (KS : Arv Z h0 sb kb .byte (1 : Int32) [(.int (114 : Int32))] (.int 0)) (S_c : Sta Z h0 "java/lang/String" "COMPACT_STRINGS" "Z" (.int cs)) (hcs : ¬ (cs = (0 : Int32))) (S_f : Sta Z h0 "jdk/internal/util/Preconditions" "SIOOBE_FORMATTER" "Ljava/util/function/BiFunction;" fv) (hfv : fv.isRef = true)  :
    MetFree l (⟨"java/lang/String", "charAt", "(I)C"⟩ : MethodName) (head1 (Jvm.Cond.code (⟨"java/lang/String", "charAt", "(I)C"⟩ : MethodName) jdk_42_method_56_code 2 (some .char) :: ws) ({ frames := 3, cells := 0, slots := 0, locals := 40 } : Room)) (fun a U => a = #[(.ref sa), (.int (0 : Int32))] ∧ Z.Warmed39 U.vm ∧ U.heap = h0) (fun _ _ _ _ _ => True) (fun _ U o U' => ∃ v L, o = .returned v ∧ QP (some (.int (114 : Int32))) h0 n0 v U'.heap L ∧ FrameEnd U o U' L ({ frames := 3, cells := 0, slots := 0, locals := 40 } : Room).cells ({ frames := 3, cells := 0, slots := 0, locals := 40 } : Room).slots) := by
  refine MetFree.of_bodySF (plainFor_of_name pn_java_lang_String) hisR ?_
  intro p e s m args below meth c s₁ Bd hml0 hP hK
  obtain ⟨rfl, hZ, hh⟩ := hP
  have hx := Bd.exec
  have hby := Bd.bytes
  have hml : c.maxLocals = 2 := hml0
  have hown : s.vm.findClass "java/lang/String" = some m.cls := findClass_of_methodNamed Bd.named
  have hnm := (name_of_methodNamed Bd.named Bd.method).1
  have X0 : Stand p l e ({ frames := 3, cells := 0, slots := 0, locals := 40 } : Room) s m #[(.ref sa), (.int (0 : Int32))] below meth c s₁ [] 0 0 := Stand.of_body Bd
  have e0 : s₁.heap = h0 := by rw [← hh, Bd.state]; rfl
  have N0 := Fr.nil n0
  have pre0 : ∀ t, Steps p.tables e below (s₁.setTop (mkF m 0 #[.val (.ref sa), .val (.int (0 : Int32))] [])) t → Steps p.tables e below (s₁.setTop (entryFrame m #[(.ref sa), (.int (0 : Int32))] 2)) t := fun t k => castTop (ef_jdk_42_method_56_code m sa (0 : Int32)) k
  obtain ⟨cq1, kq1, q1a, q1b, q1c⟩ := isOf hZ e0 ES
  obtain ⟨_, _, ⟨T1, L1, k1, n1⟩, -, X1, ⟨Lc1, hQ1, l1, y1, z1⟩, st1⟩ := X0.virtualBack hx (y := (⟨"java/lang/String", "isLatin1", "()Z"⟩ : MethodName)) (z := (⟨"java/lang/String", "isLatin1", "()Z"⟩ : MethodName)) hown (mvT hZ (hw _ (List.mem_of_getElem? (i := 56) rfl))) (mvT hZ (hw _ (List.mem_of_getElem? (i := 57) rfl))) (notFace_of_selects (args := #[]) (mvT hZ (hw _ (List.mem_of_getElem? (i := 59) rfl)))) (mvT hZ (hw _ (List.mem_of_getElem? (i := 59) rfl))) (mvT hZ (hw _ (List.mem_of_getElem? (i := 58) rfl))) (by decide) (backOf (W := 0) (rmI1 l Z a0 hw [] sa cs h0 n0 Z0 CS S_c hcs) hZ (hw _ (List.mem_of_getElem? (i := 60) rfl)) (hw _ (List.mem_of_getElem? (i := 5) rfl)) (by decide) (by decide)) q1a q1c (g := (mkF m 1 #[.val (.ref sa), .val (.int (0 : Int32))] [(.ref sa)])) rfl (by rw [hml]; rfl) (Steps.refl _) (argsL := []) (rest := []) (lenOf pd___Z rfl) rfl (by show 2 * 0 + _ ≤ _; exact Nat.le_of_eq rfl) (hb hby d_jdk_42_method_56_code_1) (fun _ _ => ⟨rfl, e0, (by decide : 0 + 0 ≤ _), (by decide : 0 + 0 ≤ _)⟩)
  dsimp only [Pt.U, Pt.locs, Pt.cells, Pt.slots] at X1 l1 y1 z1 st1 hQ1
  subst l1 y1 z1
  obtain ⟨rfl, N1q, eq1⟩ := hQ1
  have N1 := Fr.app N0 N1q
  obtain ⟨T2, X2, e2, st2⟩ := getF X1 hx hZ hown (host := "") (Or.inl (hw _ (List.mem_of_getElem? (i := 38) rfl))) Via.refl eq1 VS (g := (mkF m 8 #[.val (.ref sa), .val (.int (0 : Int32))] [(.ref sa)])) rfl rfl (hb hby d_jdk_42_method_56_code_8)
  obtain ⟨_, _, ⟨T3, L3, k3, n3⟩, -, X3, ⟨Lc3, hQ3, l3, y3, z3⟩, st3⟩ := Jvm.LawKit.callS X2 hx (y := (⟨"java/lang/StringLatin1", "charAt", "([BI)C"⟩ : MethodName)) hown (mvT hZ (hw _ (List.mem_of_getElem? (i := 61) rfl))) (mvT hZ (hw _ (List.mem_of_getElem? (i := 62) rfl))) (mvT hZ (hw _ (List.mem_of_getElem? (i := 63) rfl))) (mvT hZ (hw _ (List.mem_of_getElem? (i := 64) rfl))) (by decide) (backOf (W := 0) (rmSC l Z a0 hw [] sb kb fv h0 n0 Z0 KS S_f hfv) hZ (hw _ (List.mem_of_getElem? (i := 64) rfl)) (hw _ (List.mem_of_getElem? (i := 63) rfl)) (by decide) (by decide)) (g := (mkF m 12 #[.val (.ref sa), .val (.int (0 : Int32))] [(.int (0 : Int32)), (.ref sb)])) rfl (by rw [hml]; rfl) (argsL := [(.ref sb), (.int (0 : Int32))]) (rest := []) (lenOf pd___BI_C rfl) rfl (by show 2 * 0 + _ ≤ _; exact Nat.le_of_eq rfl) (hb hby d_jdk_42_method_56_code_12) (fun _ _ => ⟨rfl, e2, (by decide : 0 + 0 ≤ _), (by decide : 0 + 0 ≤ _)⟩)
  dsimp only [Pt.U, Pt.locs, Pt.cells, Pt.slots] at X3 l3 y3 z3 st3 hQ3
  subst l3 y3 z3
  obtain ⟨rfl, N3q, eq3⟩ := hQ3
  have N3 := Fr.app N1 N3q
  obtain ⟨fs, hr, hrun, hended, hW, hsame⟩ := X3.leave (v := some (.int (114 : Int32))) (fun h => by rw [Bd.returns] at h; cases h)
  refine ⟨_, _, pre0 _ ?_, hrun, hended, _, _, rfl, ?_, ⟨_, rfl⟩, hW, hsame.mono (by decide) (by decide)⟩
  · show Steps p.tables e below (s₁.setTop (mkF m 0 #[.val (.ref sa), .val (.int (0 : Int32))] [])) _
    refine XS.aloadN X0.here hx rfl (hb hby d_jdk_42_method_56_code_0) rfl rfl ?_
    show Steps p.tables e below (s₁.setTop (mkF m 1 #[.val (.ref sa), .val (.int (0 : Int32))] [(.ref sa)])) _
    refine st1.trans ?_
    show Steps p.tables e below (T1.setTop (mkF m 4 #[.val (.ref sa), .val (.int (0 : Int32))] [(.int (1 : Int32))])) _
    refine XS.ifNo X1.here hx rfl (hb hby d_jdk_42_method_56_code_4) rfl ((if0 _ _).trans (feq (by decide : ¬ ((1 : Int32) = (0 : Int32)))).1) ?_
    show Steps p.tables e below (T1.setTop (mkF m 7 #[.val (.ref sa), .val (.int (0 : Int32))] [])) _
    refine XS.aloadN X1.here hx rfl (hb hby d_jdk_42_method_56_code_7) rfl rfl ?_
    show Steps p.tables e below (T1.setTop (mkF m 8 #[.val (.ref sa), .val (.int (0 : Int32))] [(.ref sa)])) _
    refine st2 _ ?_
    show Steps p.tables e below (T2.setTop (mkF m 11 #[.val (.ref sa), .val (.int (0 : Int32))] [(.ref sb)])) _
    refine XS.iloadN X2.here hx rfl (hb hby d_jdk_42_method_56_code_11) rfl ?_
    show Steps p.tables e below (T2.setTop (mkF m 12 #[.val (.ref sa), .val (.int (0 : Int32))] [(.int (0 : Int32)), (.ref sb)])) _
    refine st3 _ ?_
    show Steps p.tables e below (T3.setTop (mkF m 15 #[.val (.ref sa), .val (.int (0 : Int32))] [(.int (114 : Int32))])) _
    exact retN X3 hx (t := .char) Bd.returns (by simp) (hb hby d_jdk_42_method_56_code_15) hr
  · show QP (some (.int (114 : Int32))) h0 n0 _ T3.heap _
    rw [eq3]
    exact ⟨rfl, N3, rfl⟩
theorem d_jdk_89_method_89_code_0 : decode jdk_89_method_89_code 0 = .ok (.iload_n 0, 1) := by decide +kernel
theorem d_jdk_89_method_89_code_1 : decode jdk_89_method_89_code 1 = .ok (.sipush 159, 3) := by decide +kernel
theorem d_jdk_89_method_89_code_4 : decode jdk_89_method_89_code 4 = .ok (.if_icmp .gt 19, 3) := by decide +kernel
theorem d_jdk_89_method_89_code_7 : decode jdk_89_method_89_code 7 = .ok (.iload_n 0, 1) := by decide +kernel
theorem d_jdk_89_method_89_code_8 : decode jdk_89_method_89_code 8 = .ok (.bipush 127, 2) := by decide +kernel
theorem d_jdk_89_method_89_code_10 : decode jdk_89_method_89_code 10 = .ok (.if_icmp .ge 9, 3) := by decide +kernel
theorem d_jdk_89_method_89_code_13 : decode jdk_89_method_89_code 13 = .ok (.iload_n 0, 1) := by decide +kernel
theorem d_jdk_89_method_89_code_14 : decode jdk_89_method_89_code 14 = .ok (.iconst 5, 1) := by decide +kernel
theorem d_jdk_89_method_89_code_15 : decode jdk_89_method_89_code 15 = .ok (.iushr, 1) := by decide +kernel
theorem d_jdk_89_method_89_code_16 : decode jdk_89_method_89_code 16 = .ok (.ifCond .ne 7, 3) := by decide +kernel
theorem d_jdk_89_method_89_code_23 : decode jdk_89_method_89_code 23 = .ok (.iconst 0, 1) := by decide +kernel
theorem d_jdk_89_method_89_code_24 : decode jdk_89_method_89_code 24 = .ok (.ireturn, 1) := by decide +kernel
theorem pn_java_lang_Character : plainName "java/lang/Character" = true := by first | (simp [plainName, overriddenIn]; done) | decide +kernel
theorem ef_jdk_89_method_89_code (m : MethodId) (x0 : Int32) : entryFrame m #[(.int x0)] 1 = mkF m 0 #[.val (.int x0)] [] := by first | (simp [entryFrame, mkF, argsToLocals, Value.category]; done) | rfl
set_option maxRecDepth 65536 in
set_option maxHeartbeats 40000000 in
theorem rmY (l : Launch) (Z : State) (a0 : Array Value) (hw : ∀ d ∈ tables_1, d.before a0 Z = true) (ws : List Jvm.Cond)  (h0 : Heap) (n0 : Nat) (Z0 : n0 ≤ h0.size)   :
    MetFree l (⟨"java/lang/Character", "isISOControl", "(I)Z"⟩ : MethodName) (head1 (Jvm.Cond.code (⟨"java/lang/Character", "isISOControl", "(I)Z"⟩ : MethodName) jdk_89_method_89_code 1 (some .boolean) :: ws) ({ frames := 0, cells := 0, slots := 0, locals := 0 } : Room)) (fun a U => a = #[(.int (114 : Int32))] ∧ Z.Warmed39 U.vm ∧ U.heap = h0) (fun _ _ _ _ _ => True) (fun _ U o U' => ∃ v L, o = .returned v ∧ QP (some (.int (0 : Int32))) h0 n0 v U'.heap L ∧ FrameEnd U o U' L ({ frames := 0, cells := 0, slots := 0, locals := 0 } : Room).cells ({ frames := 0, cells := 0, slots := 0, locals := 0 } : Room).slots) := by
  refine MetFree.of_bodySF (plainFor_of_name pn_java_lang_Character) hisR ?_
  intro p e s m args below meth c s₁ Bd hml0 hP hK
  obtain ⟨rfl, hZ, hh⟩ := hP
  have hx := Bd.exec
  have hby := Bd.bytes
  have hml : c.maxLocals = 1 := hml0
  have hown : s.vm.findClass "java/lang/Character" = some m.cls := findClass_of_methodNamed Bd.named
  have hnm := (name_of_methodNamed Bd.named Bd.method).1
  have X0 : Stand p l e ({ frames := 0, cells := 0, slots := 0, locals := 0 } : Room) s m #[(.int (114 : Int32))] below meth c s₁ [] 0 0 := Stand.of_body Bd
  have e0 : s₁.heap = h0 := by rw [← hh, Bd.state]; rfl
  have N0 := Fr.nil n0
  have pre0 : ∀ t, Steps p.tables e below (s₁.setTop (mkF m 0 #[.val (.int (114 : Int32))] [])) t → Steps p.tables e below (s₁.setTop (entryFrame m #[(.int (114 : Int32))] 1)) t := fun t k => castTop (ef_jdk_89_method_89_code m (114 : Int32)) k
  obtain ⟨fs, hr, hrun, hended, hW, hsame⟩ := X0.leave (v := some (.int (0 : Int32))) (fun h => by rw [Bd.returns] at h; cases h)
  refine ⟨_, _, pre0 _ ?_, hrun, hended, _, _, rfl, ?_, ⟨_, rfl⟩, hW, hsame.mono (by decide) (by decide)⟩
  · show Steps p.tables e below (s₁.setTop (mkF m 0 #[.val (.int (114 : Int32))] [])) _
    refine XS.iloadN X0.here hx rfl (hb hby d_jdk_89_method_89_code_0) rfl ?_
    show Steps p.tables e below (s₁.setTop (mkF m 1 #[.val (.int (114 : Int32))] [(.int (114 : Int32))])) _
    refine XS.sipush X0.here hx rfl (hb hby d_jdk_89_method_89_code_1) ?_
    show Steps p.tables e below (s₁.setTop (mkF m 4 #[.val (.int (114 : Int32))] [(.int (159 : Int32)), (.int (114 : Int32))])) _
    refine XS.icmpNo X0.here hx rfl (hb hby d_jdk_89_method_89_code_4) rfl (flt (by decide : ¬ ((159 : Int32) < (114 : Int32)))).2.2.1 ?_
    show Steps p.tables e below (s₁.setTop (mkF m 7 #[.val (.int (114 : Int32))] [])) _
    refine XS.iloadN X0.here hx rfl (hb hby d_jdk_89_method_89_code_7) rfl ?_
    show Steps p.tables e below (s₁.setTop (mkF m 8 #[.val (.int (114 : Int32))] [(.int (114 : Int32))])) _
    refine XS.bipush X0.here hx rfl (hb hby d_jdk_89_method_89_code_8) ?_
    show Steps p.tables e below (s₁.setTop (mkF m 10 #[.val (.int (114 : Int32))] [(.int (127 : Int32)), (.int (114 : Int32))])) _
    refine XS.icmpNo X0.here hx rfl (hb hby d_jdk_89_method_89_code_10) rfl (tlt (by decide : (114 : Int32) < (127 : Int32))).2.1 ?_
    show Steps p.tables e below (s₁.setTop (mkF m 13 #[.val (.int (114 : Int32))] [])) _
    refine XS.iloadN X0.here hx rfl (hb hby d_jdk_89_method_89_code_13) rfl ?_
    show Steps p.tables e below (s₁.setTop (mkF m 14 #[.val (.int (114 : Int32))] [(.int (114 : Int32))])) _
    refine XS.iconst X0.here hx rfl (hb hby d_jdk_89_method_89_code_14) ?_
    show Steps p.tables e below (s₁.setTop (mkF m 15 #[.val (.int (114 : Int32))] [(.int (5 : Int32)), (.int (114 : Int32))])) _
    refine XS.iushr X0.here hx rfl (hb hby d_jdk_89_method_89_code_15) rfl ?_
    show Steps p.tables e below (s₁.setTop (mkF m 16 #[.val (.int (114 : Int32))] [(.int (((114 : Int32).toUInt32 >>> ((5 : Int32) &&& 31).toUInt32).toInt32))])) _
    rw [show (((114 : Int32).toUInt32 >>> ((5 : Int32) &&& 31).toUInt32).toInt32) = (3 : Int32) from (by decide)]
    show Steps p.tables e below (s₁.setTop (mkF m 16 #[.val (.int (114 : Int32))] [(.int (3 : Int32))])) _
    refine XS.ifYes X0.here hx rfl (pc0 := 16) (pc' := 23) rfl (hb hby d_jdk_89_method_89_code_16) rfl ((if0 _ _).trans (feq (by decide : ¬ ((3 : Int32) = (0 : Int32)))).2) (by decide) (by decide) ?_
    show Steps p.tables e below (s₁.setTop (mkF m 23 #[.val (.int (114 : Int32))] [])) _
    refine XS.iconst X0.here hx rfl (hb hby d_jdk_89_method_89_code_23) ?_
    show Steps p.tables e below (s₁.setTop (mkF m 24 #[.val (.int (114 : Int32))] [(.int (0 : Int32))])) _
    exact retN X0 hx (t := .boolean) Bd.returns (by simp) (hb hby d_jdk_89_method_89_code_24) hr
  · show QP (some (.int (0 : Int32))) h0 n0 _ s₁.heap _
    rw [e0]
    exact ⟨rfl, N0, rfl⟩
theorem d_jdk_89_method_88_code_0 : decode jdk_89_method_88_code 0 = .ok (.iload_n 0, 1) := by decide +kernel
theorem d_jdk_89_method_88_code_1 : decode jdk_89_method_88_code 1 = .ok (.invokestatic 266, 3) := by decide +kernel
theorem d_jdk_89_method_88_code_4 : decode jdk_89_method_88_code 4 = .ok (.ireturn, 1) := by decide +kernel
theorem pd__I_Z : parseMethodDescriptor "(I)Z" = some ⟨[.int], some .boolean⟩ := by decide +kernel
theorem ef_jdk_89_method_88_code (m : MethodId) (x0 : Int32) : entryFrame m #[(.int x0)] 1 = mkF m 0 #[.val (.int x0)] [] := by first | (simp [entryFrame, mkF, argsToLocals, Value.category]; done) | rfl
set_option maxRecDepth 65536 in
set_option maxHeartbeats 40000000 in
theorem rmYc (l : Launch) (Z : State) (a0 : Array Value) (hw : ∀ d ∈ tables_1, d.before a0 Z = true) (ws : List Jvm.Cond)  (h0 : Heap) (n0 : Nat) (Z0 : n0 ≤ h0.size)   :
    MetFree l (⟨"java/lang/Character", "isISOControl", "(C)Z"⟩ : MethodName) (head1 (Jvm.Cond.code (⟨"java/lang/Character", "isISOControl", "(C)Z"⟩ : MethodName) jdk_89_method_88_code 1 (some .boolean) :: ws) ({ frames := 1, cells := 0, slots := 0, locals := 12 } : Room)) (fun a U => a = #[(.int (114 : Int32))] ∧ Z.Warmed39 U.vm ∧ U.heap = h0) (fun _ _ _ _ _ => True) (fun _ U o U' => ∃ v L, o = .returned v ∧ QP (some (.int (0 : Int32))) h0 n0 v U'.heap L ∧ FrameEnd U o U' L ({ frames := 1, cells := 0, slots := 0, locals := 12 } : Room).cells ({ frames := 1, cells := 0, slots := 0, locals := 12 } : Room).slots) := by
  refine MetFree.of_bodySF (plainFor_of_name pn_java_lang_Character) hisR ?_
  intro p e s m args below meth c s₁ Bd hml0 hP hK
  obtain ⟨rfl, hZ, hh⟩ := hP
  have hx := Bd.exec
  have hby := Bd.bytes
  have hml : c.maxLocals = 1 := hml0
  have hown : s.vm.findClass "java/lang/Character" = some m.cls := findClass_of_methodNamed Bd.named
  have hnm := (name_of_methodNamed Bd.named Bd.method).1
  have X0 : Stand p l e ({ frames := 1, cells := 0, slots := 0, locals := 12 } : Room) s m #[(.int (114 : Int32))] below meth c s₁ [] 0 0 := Stand.of_body Bd
  have e0 : s₁.heap = h0 := by rw [← hh, Bd.state]; rfl
  have N0 := Fr.nil n0
  have pre0 : ∀ t, Steps p.tables e below (s₁.setTop (mkF m 0 #[.val (.int (114 : Int32))] [])) t → Steps p.tables e below (s₁.setTop (entryFrame m #[(.int (114 : Int32))] 1)) t := fun t k => castTop (ef_jdk_89_method_88_code m (114 : Int32)) k
  obtain ⟨_, _, ⟨T1, L1, k1, n1⟩, -, X1, ⟨Lc1, hQ1, l1, y1, z1⟩, st1⟩ := Jvm.LawKit.callS X0 hx (y := (⟨"java/lang/Character", "isISOControl", "(I)Z"⟩ : MethodName)) hown (mvT hZ (hw _ (List.mem_of_getElem? (i := 77) rfl))) (mvT hZ (hw _ (List.mem_of_getElem? (i := 78) rfl))) (mvT hZ (hw _ (List.mem_of_getElem? (i := 75) rfl))) (mvT hZ (hw _ (List.mem_of_getElem? (i := 79) rfl))) (by decide) (backOf (W := 0) (rmY l Z a0 hw [] h0 n0 Z0) hZ (hw _ (List.mem_of_getElem? (i := 79) rfl)) (hw _ (List.mem_of_getElem? (i := 75) rfl)) (by decide) (by decide)) (g := (mkF m 1 #[.val (.int (114 : Int32))] [(.int (114 : Int32))])) rfl (by rw [hml]; rfl) (argsL := [(.int (114 : Int32))]) (rest := []) (lenOf pd__I_Z rfl) rfl (by show 2 * 0 + _ ≤ _; exact Nat.le_of_eq rfl) (hb hby d_jdk_89_method_88_code_1) (fun _ _ => ⟨rfl, e0, (by decide : 0 + 0 ≤ _), (by decide : 0 + 0 ≤ _)⟩)
  dsimp only [Pt.U, Pt.locs, Pt.cells, Pt.slots] at X1 l1 y1 z1 st1 hQ1
  subst l1 y1 z1
  obtain ⟨rfl, N1q, eq1⟩ := hQ1
  have N1 := Fr.app N0 N1q
  obtain ⟨fs, hr, hrun, hended, hW, hsame⟩ := X1.leave (v := some (.int (0 : Int32))) (fun h => by rw [Bd.returns] at h; cases h)
  refine ⟨_, _, pre0 _ ?_, hrun, hended, _, _, rfl, ?_, ⟨_, rfl⟩, hW, hsame.mono (by decide) (by decide)⟩
  · show Steps p.tables e below (s₁.setTop (mkF m 0 #[.val (.int (114 : Int32))] [])) _
    refine XS.iloadN X0.here hx rfl (hb hby d_jdk_89_method_88_code_0) rfl ?_
    show Steps p.tables e below (s₁.setTop (mkF m 1 #[.val (.int (114 : Int32))] [(.int (114 : Int32))])) _
    refine st1 _ ?_
    show Steps p.tables e below (T1.setTop (mkF m 4 #[.val (.int (114 : Int32))] [(.int (0 : Int32))])) _
    exact retN X1 hx (t := .boolean) Bd.returns (by simp) (hb hby d_jdk_89_method_88_code_4) hr
  · show QP (some (.int (0 : Int32))) h0 n0 _ T1.heap _
    rw [eq1]
    exact ⟨rfl, N1, rfl⟩
theorem d_jdk_117_method_8_code_0 : decode jdk_117_method_8_code 0 = .ok (.dload_n 0, 1) := by decide +kernel
theorem d_jdk_117_method_8_code_1 : decode jdk_117_method_8_code 1 = .ok (.invokestatic 38, 3) := by decide +kernel
theorem d_jdk_117_method_8_code_4 : decode jdk_117_method_8_code 4 = .ok (.ldc2_w 111, 3) := by decide +kernel
theorem d_jdk_117_method_8_code_7 : decode jdk_117_method_8_code 7 = .ok (.dcmp .g, 1) := by decide +kernel
theorem d_jdk_117_method_8_code_8 : decode jdk_117_method_8_code 8 = .ok (.ifCond .gt 7, 3) := by decide +kernel
theorem d_jdk_117_method_8_code_11 : decode jdk_117_method_8_code 11 = .ok (.iconst 1, 1) := by decide +kernel
theorem d_jdk_117_method_8_code_12 : decode jdk_117_method_8_code 12 = .ok (.goto 4, 3) := by decide +kernel
theorem d_jdk_117_method_8_code_16 : decode jdk_117_method_8_code 16 = .ok (.ireturn, 1) := by decide +kernel
theorem pd__D_D : parseMethodDescriptor "(D)D" = some ⟨[.double], some .double⟩ := by decide +kernel
theorem pn_java_lang_Double : plainName "java/lang/Double" = true := by first | (simp [plainName, overriddenIn]; done) | decide +kernel
theorem ef_jdk_117_method_8_code (m : MethodId) (x0 : UInt64) : entryFrame m #[(.double x0)] 2 = mkF m 0 #[.val (.double x0), .second] [] := by first | (simp [entryFrame, mkF, argsToLocals, Value.category]; done) | rfl
set_option maxRecDepth 65536 in
set_option maxHeartbeats 40000000 in
theorem rmF (l : Launch) (Z : State) (a0 : Array Value) (hw : ∀ d ∈ tables_1, d.before a0 Z = true) (ws : List Jvm.Cond) (dd : UInt64) (h0 : Heap) (n0 : Nat) (Z0 : n0 ≤ h0.size) (hnn : Jvm.Free.Fl.NoNaN64 dd) (hfin : ¬ ((0 : Int32) < cmpValue (FP.dcmp (dd &&& 0x7fffffffffffffff) (9218868437227405311 : UInt64)) .g))  :
    MetFree l (⟨"java/lang/Double", "isFinite", "(D)Z"⟩ : MethodName) (head1 (Jvm.Cond.code (⟨"java/lang/Double", "isFinite", "(D)Z"⟩ : MethodName) jdk_117_method_8_code 2 (some .boolean) :: ws) ({ frames := 1, cells := 0, slots := 0, locals := 13 } : Room)) (fun a U => a = #[(.double dd)] ∧ Z.Warmed39 U.vm ∧ U.heap = h0) (fun _ _ _ _ _ => True) (fun _ U o U' => ∃ v L, o = .returned v ∧ QP (some (.int (1 : Int32))) h0 n0 v U'.heap L ∧ FrameEnd U o U' L ({ frames := 1, cells := 0, slots := 0, locals := 13 } : Room).cells ({ frames := 1, cells := 0, slots := 0, locals := 13 } : Room).slots) := by
  refine MetFree.of_bodySF (plainFor_of_name pn_java_lang_Double) hisR ?_
  intro p e s m args below meth c s₁ Bd hml0 hP hK
  obtain ⟨rfl, hZ, hh⟩ := hP
  have hx := Bd.exec
  have hby := Bd.bytes
  have hml : c.maxLocals = 2 := hml0
  have hown : s.vm.findClass "java/lang/Double" = some m.cls := findClass_of_methodNamed Bd.named
  have hnm := (name_of_methodNamed Bd.named Bd.method).1
  have X0 : Stand p l e ({ frames := 1, cells := 0, slots := 0, locals := 13 } : Room) s m #[(.double dd)] below meth c s₁ [] 0 0 := Stand.of_body Bd
  have e0 : s₁.heap = h0 := by rw [← hh, Bd.state]; rfl
  have N0 := Fr.nil n0
  have pre0 : ∀ t, Steps p.tables e below (s₁.setTop (mkF m 0 #[.val (.double dd), .second] [])) t → Steps p.tables e below (s₁.setTop (entryFrame m #[(.double dd)] 2)) t := fun t k => castTop (ef_jdk_117_method_8_code m dd) k
  obtain ⟨T1, X1, e1, st1⟩ := natS X0 hx hZ hown (hw _ (List.mem_of_getElem? (i := 88) rfl)) (hw _ (List.mem_of_getElem? (i := 89) rfl)) (hw _ (List.mem_of_getElem? (i := 90) rfl)) (hw _ (List.mem_of_getElem? (i := 91) rfl)) (by decide) e0 (W := 0) (F := fun a' => a' = #[.double dd] ∧ Jvm.Free.Fl.NoNaN64 dd) (val := .double (dd &&& 0x7fffffffffffffff)) (val' := .double (dd &&& 0x7fffffffffffffff)) (fun hc => Jvm.Free.Fl.Abs.absD_pays (W := 0) dd hc (by decide) (by decide)) (g := (mkF m 1 #[.val (.double dd), .second] [(.double dd)])) rfl (by rw [hml]; rfl) (argsL := [.double dd]) (rest := []) (lenOf pd__D_D rfl) rfl (by show 2 * 0 + _ ≤ _; exact Nat.le_of_eq rfl) (hb hby d_jdk_117_method_8_code_1) (by decide) (by decide) ⟨rfl, hnn⟩ rfl
  obtain ⟨fs, hr, hrun, hended, hW, hsame⟩ := X1.leave (v := some (.int (1 : Int32))) (fun h => by rw [Bd.returns] at h; cases h)
  refine ⟨_, _, pre0 _ ?_, hrun, hended, _, _, rfl, ?_, ⟨_, rfl⟩, hW, hsame.mono (by decide) (by decide)⟩
  · show Steps p.tables e below (s₁.setTop (mkF m 0 #[.val (.double dd), .second] [])) _
    refine XS.dloadN X0.here hx rfl (hb hby d_jdk_117_method_8_code_0) rfl ?_
    show Steps p.tables e below (s₁.setTop (mkF m 1 #[.val (.double dd), .second] [(.double dd)])) _
    refine st1 _ ?_
    show Steps p.tables e below (T1.setTop (mkF m 4 #[.val (.double dd), .second] [(.double (dd &&& 0x7fffffffffffffff))])) _
    refine X1.ldc2DoubleC hx hown (mvT hZ (hw _ (List.mem_of_getElem? (i := 92) rfl))) (g := (mkF m 4 #[.val (.double dd), .second] [(.double (dd &&& 0x7fffffffffffffff))])) rfl (hb hby d_jdk_117_method_8_code_4) _ ?_
    show Steps p.tables e below (T1.setTop (mkF m 7 #[.val (.double dd), .second] [(.double (9218868437227405311 : UInt64)), (.double (dd &&& 0x7fffffffffffffff))])) _
    refine XS.dcmpS X1.here hx rfl (hb hby d_jdk_117_method_8_code_7) rfl (v := (cmpValue (FP.dcmp (dd &&& 0x7fffffffffffffff) (9218868437227405311 : UInt64)) .g)) (rfl) ?_
    show Steps p.tables e below (T1.setTop (mkF m 8 #[.val (.double dd), .second] [(.int (cmpValue (FP.dcmp (dd &&& 0x7fffffffffffffff) (9218868437227405311 : UInt64)) .g))])) _
    refine XS.ifNo X1.here hx rfl (hb hby d_jdk_117_method_8_code_8) rfl ((if0 _ _).trans (flt (hfin : ¬ ((0 : Int32) < (cmpValue (FP.dcmp (dd &&& 0x7fffffffffffffff) (9218868437227405311 : UInt64)) .g)))).2.2.1) ?_
    show Steps p.tables e below (T1.setTop (mkF m 11 #[.val (.double dd), .second] [])) _
    refine XS.iconst X1.here hx rfl (hb hby d_jdk_117_method_8_code_11) ?_
    show Steps p.tables e below (T1.setTop (mkF m 12 #[.val (.double dd), .second] [(.int (1 : Int32))])) _
    refine XS.goto X1.here hx rfl (pc0 := 12) (pc' := 16) rfl (hb hby d_jdk_117_method_8_code_12) (by decide) (by decide) ?_
    show Steps p.tables e below (T1.setTop (mkF m 16 #[.val (.double dd), .second] [(.int (1 : Int32))])) _
    exact retN X1 hx (t := .boolean) Bd.returns (by simp) (hb hby d_jdk_117_method_8_code_16) hr
  · show QP (some (.int (1 : Int32))) h0 n0 _ T1.heap _
    rw [e1]
    exact ⟨rfl, N0, rfl⟩
theorem d_jdk_117_method_6_code_0 : decode jdk_117_method_6_code 0 = .ok (.dload_n 0, 1) := by decide +kernel
theorem d_jdk_117_method_6_code_1 : decode jdk_117_method_6_code 1 = .ok (.dload_n 0, 1) := by decide +kernel
theorem d_jdk_117_method_6_code_2 : decode jdk_117_method_6_code 2 = .ok (.dcmp .l, 1) := by decide +kernel
theorem d_jdk_117_method_6_code_3 : decode jdk_117_method_6_code 3 = .ok (.ifCond .eq 7, 3) := by decide +kernel
theorem d_jdk_117_method_6_code_10 : decode jdk_117_method_6_code 10 = .ok (.iconst 0, 1) := by decide +kernel
theorem d_jdk_117_method_6_code_11 : decode jdk_117_method_6_code 11 = .ok (.ireturn, 1) := by decide +kernel
theorem ef_jdk_117_method_6_code (m : MethodId) (x0 : UInt64) : entryFrame m #[(.double x0)] 2 = mkF m 0 #[.val (.double x0), .second] [] := by first | (simp [entryFrame, mkF, argsToLocals, Value.category]; done) | rfl
set_option maxRecDepth 65536 in
set_option maxHeartbeats 40000000 in
theorem rmNaN (l : Launch) (Z : State) (a0 : Array Value) (hw : ∀ d ∈ tables_1, d.before a0 Z = true) (ws : List Jvm.Cond) (dd : UInt64) (h0 : Heap) (n0 : Nat) (Z0 : n0 ≤ h0.size) (hnn : Jvm.Free.Fl.NoNaN64 dd)  :
    MetFree l (⟨"java/lang/Double", "isNaN", "(D)Z"⟩ : MethodName) (head1 (Jvm.Cond.code (⟨"java/lang/Double", "isNaN", "(D)Z"⟩ : MethodName) jdk_117_method_6_code 2 (some .boolean) :: ws) ({ frames := 0, cells := 0, slots := 0, locals := 0 } : Room)) (fun a U => a = #[(.double dd)] ∧ Z.Warmed39 U.vm ∧ U.heap = h0) (fun _ _ _ _ _ => True) (fun _ U o U' => ∃ v L, o = .returned v ∧ QP (some (.int (0 : Int32))) h0 n0 v U'.heap L ∧ FrameEnd U o U' L ({ frames := 0, cells := 0, slots := 0, locals := 0 } : Room).cells ({ frames := 0, cells := 0, slots := 0, locals := 0 } : Room).slots) := by
  refine MetFree.of_bodySF (plainFor_of_name pn_java_lang_Double) hisR ?_
  intro p e s m args below meth c s₁ Bd hml0 hP hK
  obtain ⟨rfl, hZ, hh⟩ := hP
  have hx := Bd.exec
  have hby := Bd.bytes
  have hml : c.maxLocals = 2 := hml0
  have hown : s.vm.findClass "java/lang/Double" = some m.cls := findClass_of_methodNamed Bd.named
  have hnm := (name_of_methodNamed Bd.named Bd.method).1
  have X0 : Stand p l e ({ frames := 0, cells := 0, slots := 0, locals := 0 } : Room) s m #[(.double dd)] below meth c s₁ [] 0 0 := Stand.of_body Bd
  have e0 : s₁.heap = h0 := by rw [← hh, Bd.state]; rfl
  have N0 := Fr.nil n0
  have pre0 : ∀ t, Steps p.tables e below (s₁.setTop (mkF m 0 #[.val (.double dd), .second] [])) t → Steps p.tables e below (s₁.setTop (entryFrame m #[(.double dd)] 2)) t := fun t k => castTop (ef_jdk_117_method_6_code m dd) k
  obtain ⟨fs, hr, hrun, hended, hW, hsame⟩ := X0.leave (v := some (.int (0 : Int32))) (fun h => by rw [Bd.returns] at h; cases h)
  refine ⟨_, _, pre0 _ ?_, hrun, hended, _, _, rfl, ?_, ⟨_, rfl⟩, hW, hsame.mono (by decide) (by decide)⟩
  · show Steps p.tables e below (s₁.setTop (mkF m 0 #[.val (.double dd), .second] [])) _
    refine XS.dloadN X0.here hx rfl (hb hby d_jdk_117_method_6_code_0) rfl ?_
    show Steps p.tables e below (s₁.setTop (mkF m 1 #[.val (.double dd), .second] [(.double dd)])) _
    refine XS.dloadN X0.here hx rfl (hb hby d_jdk_117_method_6_code_1) rfl ?_
    show Steps p.tables e below (s₁.setTop (mkF m 2 #[.val (.double dd), .second] [(.double dd), (.double dd)])) _
    refine XS.dcmpS X0.here hx rfl (hb hby d_jdk_117_method_6_code_2) rfl (v := (0 : Int32)) (dcmpV_self hnn _) ?_
    show Steps p.tables e below (s₁.setTop (mkF m 3 #[.val (.double dd), .second] [(.int (0 : Int32))])) _
    refine XS.ifYes X0.here hx rfl (pc0 := 3) (pc' := 10) rfl (hb hby d_jdk_117_method_6_code_3) rfl ((if0 _ _).trans (teq (by decide : (0 : Int32) = (0 : Int32))).1) (by decide) (by decide) ?_
    show Steps p.tables e below (s₁.setTop (mkF m 10 #[.val (.double dd), .second] [])) _
    refine XS.iconst X0.here hx rfl (hb hby d_jdk_117_method_6_code_10) ?_
    show Steps p.tables e below (s₁.setTop (mkF m 11 #[.val (.double dd), .second] [(.int (0 : Int32))])) _
    exact retN X0 hx (t := .boolean) Bd.returns (by simp) (hb hby d_jdk_117_method_6_code_11) hr
  · show QP (some (.int (0 : Int32))) h0 n0 _ s₁.heap _
    rw [e0]
    exact ⟨rfl, N0, rfl⟩
theorem d_prog_70_method_9_code_0 : decode prog_70_method_9_code 0 = .ok (.dload_n 1, 1) := by decide +kernel
theorem d_prog_70_method_9_code_1 : decode prog_70_method_9_code 1 = .ok (.invokestatic 117, 3) := by decide +kernel
theorem d_prog_70_method_9_code_4 : decode prog_70_method_9_code 4 = .ok (.ifCond .ne 17, 3) := by decide +kernel
theorem d_prog_70_method_9_code_21 : decode prog_70_method_9_code 21 = .ok (.dload_n 1, 1) := by decide +kernel
theorem d_prog_70_method_9_code_22 : decode prog_70_method_9_code 22 = .ok (.dconst 0, 1) := by decide +kernel
theorem d_prog_70_method_9_code_23 : decode prog_70_method_9_code 23 = .ok (.dcmp .g, 1) := by decide +kernel
theorem d_prog_70_method_9_code_24 : decode prog_70_method_9_code 24 = .ok (.ifCond .ge 18, 3) := by decide +kernel
theorem d_prog_70_method_9_code_42 : decode prog_70_method_9_code 42 = .ok (.dload_n 1, 1) := by decide +kernel
theorem d_prog_70_method_9_code_43 : decode prog_70_method_9_code 43 = .ok (.dconst 0, 1) := by decide +kernel
theorem d_prog_70_method_9_code_44 : decode prog_70_method_9_code 44 = .ok (.dadd, 1) := by decide +kernel
theorem d_prog_70_method_9_code_45 : decode prog_70_method_9_code 45 = .ok (.dreturn, 1) := by decide +kernel
theorem pd__D_Z : parseMethodDescriptor "(D)Z" = some ⟨[.double], some .boolean⟩ := by decide +kernel
theorem pn_com_example_itinerant_itinerant_requests_Request : plainName "com/example/itinerant/itinerant/requests/Request" = true := by first | (simp [plainName, overriddenIn]; done) | decide +kernel
theorem ef_prog_70_method_9_code (m : MethodId) (x0 : Addr) (x1 : UInt64) : entryFrame m #[(.ref x0), (.double x1)] 3 = mkF m 0 #[.val (.ref x0), .val (.double x1), .second] [] := by first | (simp [entryFrame, mkF, argsToLocals, Value.category]; done) | rfl
set_option maxRecDepth 65536 in
set_option maxHeartbeats 40000000 in
theorem rmG (l : Launch) (Z : State) (a0 : Array Value) (hw : ∀ d ∈ tables_1, d.before a0 Z = true) (ws : List Jvm.Cond) (a1 : Addr) (dd : UInt64) (h0 : Heap) (n0 : Nat) (Z0 : n0 ≤ h0.size) (hN : NonNeg dd)  :
    MetFree l (⟨"com/example/itinerant/itinerant/requests/Request", "nonNegative", "(Ljava/lang/String;D)D"⟩ : MethodName) (head1 (Jvm.Cond.code (⟨"com/example/itinerant/itinerant/requests/Request", "nonNegative", "(Ljava/lang/String;D)D"⟩ : MethodName) prog_70_method_9_code 3 (some .double) :: ws) ({ frames := 2, cells := 0, slots := 0, locals := 26 } : Room)) (fun a U => a = #[(.ref a1), (.double dd)] ∧ Z.Warmed39 U.vm ∧ U.heap = h0) (fun _ _ _ _ _ => True) (fun _ U o U' => ∃ v L, o = .returned v ∧ QP (some (.double dd)) h0 n0 v U'.heap L ∧ FrameEnd U o U' L ({ frames := 2, cells := 0, slots := 0, locals := 26 } : Room).cells ({ frames := 2, cells := 0, slots := 0, locals := 26 } : Room).slots) := by
  refine MetFree.of_bodySF (plainFor_of_name pn_com_example_itinerant_itinerant_requests_Request) hisR ?_
  intro p e s m args below meth c s₁ Bd hml0 hP hK
  obtain ⟨rfl, hZ, hh⟩ := hP
  have hx := Bd.exec
  have hby := Bd.bytes
  have hml : c.maxLocals = 3 := hml0
  have hown : s.vm.findClass "com/example/itinerant/itinerant/requests/Request" = some m.cls := findClass_of_methodNamed Bd.named
  have hnm := (name_of_methodNamed Bd.named Bd.method).1
  have X0 : Stand p l e ({ frames := 2, cells := 0, slots := 0, locals := 26 } : Room) s m #[(.ref a1), (.double dd)] below meth c s₁ [] 0 0 := Stand.of_body Bd
  have e0 : s₁.heap = h0 := by rw [← hh, Bd.state]; rfl
  have N0 := Fr.nil n0
  have pre0 : ∀ t, Steps p.tables e below (s₁.setTop (mkF m 0 #[.val (.ref a1), .val (.double dd), .second] [])) t → Steps p.tables e below (s₁.setTop (entryFrame m #[(.ref a1), (.double dd)] 3)) t := fun t k => castTop (ef_prog_70_method_9_code m a1 dd) k
  obtain ⟨_, _, ⟨T1, L1, k1, n1⟩, -, X1, ⟨Lc1, hQ1, l1, y1, z1⟩, st1⟩ := Jvm.LawKit.callS X0 hx (y := (⟨"java/lang/Double", "isFinite", "(D)Z"⟩ : MethodName)) hown (mvT hZ (hw _ (List.mem_of_getElem? (i := 84) rfl))) (mvT hZ (hw _ (List.mem_of_getElem? (i := 85) rfl))) (mvT hZ (hw _ (List.mem_of_getElem? (i := 86) rfl))) (mvT hZ (hw _ (List.mem_of_getElem? (i := 87) rfl))) (by decide) (backOf (W := 0) (rmF l Z a0 hw [] dd h0 n0 Z0 hN.1 hN.2.1) hZ (hw _ (List.mem_of_getElem? (i := 87) rfl)) (hw _ (List.mem_of_getElem? (i := 86) rfl)) (by decide) (by decide)) (g := (mkF m 1 #[.val (.ref a1), .val (.double dd), .second] [(.double dd)])) rfl (by rw [hml]; rfl) (argsL := [(.double dd)]) (rest := []) (lenOf pd__D_Z rfl) rfl (by show 2 * 0 + _ ≤ _; exact Nat.le_of_eq rfl) (hb hby d_prog_70_method_9_code_1) (fun _ _ => ⟨rfl, e0, (by decide : 0 + 0 ≤ _), (by decide : 0 + 0 ≤ _)⟩)
  dsimp only [Pt.U, Pt.locs, Pt.cells, Pt.slots] at X1 l1 y1 z1 st1 hQ1
  subst l1 y1 z1
  obtain ⟨rfl, N1q, eq1⟩ := hQ1
  have N1 := Fr.app N0 N1q
  obtain ⟨fs, hr, hrun, hended, hW, hsame⟩ := X1.leave (v := some (.double dd)) (fun h => by rw [Bd.returns] at h; cases h)
  refine ⟨_, _, pre0 _ ?_, hrun, hended, _, _, rfl, ?_, ⟨_, rfl⟩, hW, hsame.mono (by decide) (by decide)⟩
  · show Steps p.tables e below (s₁.setTop (mkF m 0 #[.val (.ref a1), .val (.double dd), .second] [])) _
    refine XS.dloadN X0.here hx rfl (hb hby d_prog_70_method_9_code_0) rfl ?_
    show Steps p.tables e below (s₁.setTop (mkF m 1 #[.val (.ref a1), .val (.double dd), .second] [(.double dd)])) _
    refine st1 _ ?_
    show Steps p.tables e below (T1.setTop (mkF m 4 #[.val (.ref a1), .val (.double dd), .second] [(.int (1 : Int32))])) _
    refine XS.ifYes X1.here hx rfl (pc0 := 4) (pc' := 21) rfl (hb hby d_prog_70_method_9_code_4) rfl ((if0 _ _).trans (feq (by decide : ¬ ((1 : Int32) = (0 : Int32)))).2) (by decide) (by decide) ?_
    show Steps p.tables e below (T1.setTop (mkF m 21 #[.val (.ref a1), .val (.double dd), .second] [])) _
    refine XS.dloadN X1.here hx rfl (hb hby d_prog_70_method_9_code_21) rfl ?_
    show Steps p.tables e below (T1.setTop (mkF m 22 #[.val (.ref a1), .val (.double dd), .second] [(.double dd)])) _
    refine XS.dconst0 X1.here hx rfl (hb hby d_prog_70_method_9_code_22) (v := (0 : UInt64)) rfl ?_
    show Steps p.tables e below (T1.setTop (mkF m 23 #[.val (.ref a1), .val (.double dd), .second] [(.double (0 : UInt64)), (.double dd)])) _
    refine XS.dcmpS X1.here hx rfl (hb hby d_prog_70_method_9_code_23) rfl (v := (cmpValue (FP.dcmp dd (0 : UInt64)) .g)) (rfl) ?_
    show Steps p.tables e below (T1.setTop (mkF m 24 #[.val (.ref a1), .val (.double dd), .second] [(.int (cmpValue (FP.dcmp dd (0 : UInt64)) .g))])) _
    refine XS.ifYes X1.here hx rfl (pc0 := 24) (pc' := 42) rfl (hb hby d_prog_70_method_9_code_24) rfl ((if0 _ _).trans (flt (hN.2.2.1 : ¬ ((cmpValue (FP.dcmp dd (0 : UInt64)) .g) < (0 : Int32)))).2.1) (by decide) (by decide) ?_
    show Steps p.tables e below (T1.setTop (mkF m 42 #[.val (.ref a1), .val (.double dd), .second] [])) _
    refine XS.dloadN X1.here hx rfl (hb hby d_prog_70_method_9_code_42) rfl ?_
    show Steps p.tables e below (T1.setTop (mkF m 43 #[.val (.ref a1), .val (.double dd), .second] [(.double dd)])) _
    refine XS.dconst0 X1.here hx rfl (hb hby d_prog_70_method_9_code_43) (v := (0 : UInt64)) rfl ?_
    show Steps p.tables e below (T1.setTop (mkF m 44 #[.val (.ref a1), .val (.double dd), .second] [(.double (0 : UInt64)), (.double dd)])) _
    refine XS.daddS X1.here hx rfl (hb hby d_prog_70_method_9_code_44) rfl (by rw [hN.2.2.2]; exact hN.1) (v := dd) (hN.2.2.2) ?_
    show Steps p.tables e below (T1.setTop (mkF m 45 #[.val (.ref a1), .val (.double dd), .second] [(.double dd)])) _
    exact retOut X1 hx (t := .double) Bd.returns rfl (Or.inr (Or.inr (Or.inl ⟨rfl, rfl, _, rfl⟩))) (hb hby d_prog_70_method_9_code_45) hr
  · show QP (some (.double dd)) h0 n0 _ T1.heap _
    rw [eq1]
    exact ⟨rfl, N1, rfl⟩
theorem d_prog_70_method_7_code_0 : decode prog_70_method_7_code 0 = .ok (.aload_n 0, 1) := by decide +kernel
theorem d_prog_70_method_7_code_1 : decode prog_70_method_7_code 1 = .ok (.getfield 84, 3) := by decide +kernel
theorem d_prog_70_method_7_code_4 : decode prog_70_method_7_code 4 = .ok (.ldc2_w 89, 3) := by decide +kernel
theorem d_prog_70_method_7_code_7 : decode prog_70_method_7_code 7 = .ok (.dcmp .l, 1) := by decide +kernel
theorem d_prog_70_method_7_code_8 : decode prog_70_method_7_code 8 = .ok (.ifCond .ne 7, 3) := by decide +kernel
theorem d_prog_70_method_7_code_11 : decode prog_70_method_7_code 11 = .ok (.iconst 1, 1) := by decide +kernel
theorem d_prog_70_method_7_code_12 : decode prog_70_method_7_code 12 = .ok (.goto 4, 3) := by decide +kernel
theorem d_prog_70_method_7_code_16 : decode prog_70_method_7_code 16 = .ok (.ireturn, 1) := by decide +kernel
theorem ef_prog_70_method_7_code (m : MethodId) (x0 : Addr) : entryFrame m #[(.ref x0)] 1 = mkF m 0 #[.val (.ref x0)] [] := by first | (simp [entryFrame, mkF, argsToLocals, Value.category]; done) | rfl
set_option maxRecDepth 65536 in
set_option maxHeartbeats 40000000 in
theorem rmBt (l : Launch) (Z : State) (a0 : Array Value) (hw : ∀ d ∈ tables_1, d.before a0 Z = true) (ws : List Jvm.Cond) (a1 : Addr) (dd : UInt64) (h0 : Heap) (n0 : Nat) (Z0 : n0 ≤ h0.size) (F_p : Fld Z h0 a1 "com/example/itinerant/itinerant/requests/Request" "penalty" "D" (.double dd)) (hv7 : cmpValue (FP.dcmp dd (9218868437227405312 : UInt64)) .l = (0 : Int32))  :
    MetFree l (⟨"com/example/itinerant/itinerant/requests/Request", "mustBeServed", "()Z"⟩ : MethodName) (head1 (Jvm.Cond.code (⟨"com/example/itinerant/itinerant/requests/Request", "mustBeServed", "()Z"⟩ : MethodName) prog_70_method_7_code 1 (some .boolean) :: ws) ({ frames := 0, cells := 0, slots := 0, locals := 0 } : Room)) (fun a U => a = #[(.ref a1)] ∧ Z.Warmed39 U.vm ∧ U.heap = h0) (fun _ _ _ _ _ => True) (fun _ U o U' => ∃ v L, o = .returned v ∧ QP (some (.int (1 : Int32))) h0 n0 v U'.heap L ∧ FrameEnd U o U' L ({ frames := 0, cells := 0, slots := 0, locals := 0 } : Room).cells ({ frames := 0, cells := 0, slots := 0, locals := 0 } : Room).slots) := by
  refine MetFree.of_bodySF (plainFor_of_name pn_com_example_itinerant_itinerant_requests_Request) hisR ?_
  intro p e s m args below meth c s₁ Bd hml0 hP hK
  obtain ⟨rfl, hZ, hh⟩ := hP
  have hx := Bd.exec
  have hby := Bd.bytes
  have hml : c.maxLocals = 1 := hml0
  have hown : s.vm.findClass "com/example/itinerant/itinerant/requests/Request" = some m.cls := findClass_of_methodNamed Bd.named
  have hnm := (name_of_methodNamed Bd.named Bd.method).1
  have X0 : Stand p l e ({ frames := 0, cells := 0, slots := 0, locals := 0 } : Room) s m #[(.ref a1)] below meth c s₁ [] 0 0 := Stand.of_body Bd
  have e0 : s₁.heap = h0 := by rw [← hh, Bd.state]; rfl
  have N0 := Fr.nil n0
  have pre0 : ∀ t, Steps p.tables e below (s₁.setTop (mkF m 0 #[.val (.ref a1)] [])) t → Steps p.tables e below (s₁.setTop (entryFrame m #[(.ref a1)] 1)) t := fun t k => castTop (ef_prog_70_method_7_code m a1) k
  obtain ⟨T1, X1, e1, st1⟩ := getF X0 hx hZ hown (host := "") (Or.inl (hw _ (List.mem_of_getElem? (i := 107) rfl))) Via.refl e0 F_p (g := (mkF m 1 #[.val (.ref a1)] [(.ref a1)])) rfl rfl (hb hby d_prog_70_method_7_code_1)
  obtain ⟨fs, hr, hrun, hended, hW, hsame⟩ := X1.leave (v := some (.int (1 : Int32))) (fun h => by rw [Bd.returns] at h; cases h)
  refine ⟨_, _, pre0 _ ?_, hrun, hended, _, _, rfl, ?_, ⟨_, rfl⟩, hW, hsame.mono (by decide) (by decide)⟩
  · show Steps p.tables e below (s₁.setTop (mkF m 0 #[.val (.ref a1)] [])) _
    refine XS.aloadN X0.here hx rfl (hb hby d_prog_70_method_7_code_0) rfl rfl ?_
    show Steps p.tables e below (s₁.setTop (mkF m 1 #[.val (.ref a1)] [(.ref a1)])) _
    refine st1 _ ?_
    show Steps p.tables e below (T1.setTop (mkF m 4 #[.val (.ref a1)] [(.double dd)])) _
    refine X1.ldc2DoubleC hx hown (mvT hZ (hw _ (List.mem_of_getElem? (i := 16) rfl))) (g := (mkF m 4 #[.val (.ref a1)] [(.double dd)])) rfl (hb hby d_prog_70_method_7_code_4) _ ?_
    show Steps p.tables e below (T1.setTop (mkF m 7 #[.val (.ref a1)] [(.double (9218868437227405312 : UInt64)), (.double dd)])) _
    refine XS.dcmpS X1.here hx rfl (hb hby d_prog_70_method_7_code_7) rfl (v := (0 : Int32)) (hv7) ?_
    show Steps p.tables e below (T1.setTop (mkF m 8 #[.val (.ref a1)] [(.int (0 : Int32))])) _
    refine XS.ifNo X1.here hx rfl (hb hby d_prog_70_method_7_code_8) rfl ((if0 _ _).trans (teq (by decide : (0 : Int32) = (0 : Int32))).2) ?_
    show Steps p.tables e below (T1.setTop (mkF m 11 #[.val (.ref a1)] [])) _
    refine XS.iconst X1.here hx rfl (hb hby d_prog_70_method_7_code_11) ?_
    show Steps p.tables e below (T1.setTop (mkF m 12 #[.val (.ref a1)] [(.int (1 : Int32))])) _
    refine XS.goto X1.here hx rfl (pc0 := 12) (pc' := 16) rfl (hb hby d_prog_70_method_7_code_12) (by decide) (by decide) ?_
    show Steps p.tables e below (T1.setTop (mkF m 16 #[.val (.ref a1)] [(.int (1 : Int32))])) _
    exact retN X1 hx (t := .boolean) Bd.returns (by simp) (hb hby d_prog_70_method_7_code_16) hr
  · show QP (some (.int (1 : Int32))) h0 n0 _ T1.heap _
    rw [e1]
    exact ⟨rfl, N0, rfl⟩
theorem d_prog_70_method_7_code_15 : decode prog_70_method_7_code 15 = .ok (.iconst 0, 1) := by decide +kernel
set_option maxRecDepth 65536 in
set_option maxHeartbeats 40000000 in
theorem rmBf (l : Launch) (Z : State) (a0 : Array Value) (hw : ∀ d ∈ tables_1, d.before a0 Z = true) (ws : List Jvm.Cond) (a1 : Addr) (dd : UInt64) (h0 : Heap) (n0 : Nat) (Z0 : n0 ≤ h0.size) (F_p : Fld Z h0 a1 "com/example/itinerant/itinerant/requests/Request" "penalty" "D" (.double dd)) (hv7 : cmpValue (FP.dcmp dd (9218868437227405312 : UInt64)) .l = (-1 : Int32))  :
    MetFree l (⟨"com/example/itinerant/itinerant/requests/Request", "mustBeServed", "()Z"⟩ : MethodName) (head1 (Jvm.Cond.code (⟨"com/example/itinerant/itinerant/requests/Request", "mustBeServed", "()Z"⟩ : MethodName) prog_70_method_7_code 1 (some .boolean) :: ws) ({ frames := 0, cells := 0, slots := 0, locals := 0 } : Room)) (fun a U => a = #[(.ref a1)] ∧ Z.Warmed39 U.vm ∧ U.heap = h0) (fun _ _ _ _ _ => True) (fun _ U o U' => ∃ v L, o = .returned v ∧ QP (some (.int (0 : Int32))) h0 n0 v U'.heap L ∧ FrameEnd U o U' L ({ frames := 0, cells := 0, slots := 0, locals := 0 } : Room).cells ({ frames := 0, cells := 0, slots := 0, locals := 0 } : Room).slots) := by
  refine MetFree.of_bodySF (plainFor_of_name pn_com_example_itinerant_itinerant_requests_Request) hisR ?_
  intro p e s m args below meth c s₁ Bd hml0 hP hK
  obtain ⟨rfl, hZ, hh⟩ := hP
  have hx := Bd.exec
  have hby := Bd.bytes
  have hml : c.maxLocals = 1 := hml0
  have hown : s.vm.findClass "com/example/itinerant/itinerant/requests/Request" = some m.cls := findClass_of_methodNamed Bd.named
  have hnm := (name_of_methodNamed Bd.named Bd.method).1
  have X0 : Stand p l e ({ frames := 0, cells := 0, slots := 0, locals := 0 } : Room) s m #[(.ref a1)] below meth c s₁ [] 0 0 := Stand.of_body Bd
  have e0 : s₁.heap = h0 := by rw [← hh, Bd.state]; rfl
  have N0 := Fr.nil n0
  have pre0 : ∀ t, Steps p.tables e below (s₁.setTop (mkF m 0 #[.val (.ref a1)] [])) t → Steps p.tables e below (s₁.setTop (entryFrame m #[(.ref a1)] 1)) t := fun t k => castTop (ef_prog_70_method_7_code m a1) k
  obtain ⟨T1, X1, e1, st1⟩ := getF X0 hx hZ hown (host := "") (Or.inl (hw _ (List.mem_of_getElem? (i := 107) rfl))) Via.refl e0 F_p (g := (mkF m 1 #[.val (.ref a1)] [(.ref a1)])) rfl rfl (hb hby d_prog_70_method_7_code_1)
  obtain ⟨fs, hr, hrun, hended, hW, hsame⟩ := X1.leave (v := some (.int (0 : Int32))) (fun h => by rw [Bd.returns] at h; cases h)
  refine ⟨_, _, pre0 _ ?_, hrun, hended, _, _, rfl, ?_, ⟨_, rfl⟩, hW, hsame.mono (by decide) (by decide)⟩
  · show Steps p.tables e below (s₁.setTop (mkF m 0 #[.val (.ref a1)] [])) _
    refine XS.aloadN X0.here hx rfl (hb hby d_prog_70_method_7_code_0) rfl rfl ?_
    show Steps p.tables e below (s₁.setTop (mkF m 1 #[.val (.ref a1)] [(.ref a1)])) _
    refine st1 _ ?_
    show Steps p.tables e below (T1.setTop (mkF m 4 #[.val (.ref a1)] [(.double dd)])) _
    refine X1.ldc2DoubleC hx hown (mvT hZ (hw _ (List.mem_of_getElem? (i := 16) rfl))) (g := (mkF m 4 #[.val (.ref a1)] [(.double dd)])) rfl (hb hby d_prog_70_method_7_code_4) _ ?_
    show Steps p.tables e below (T1.setTop (mkF m 7 #[.val (.ref a1)] [(.double (9218868437227405312 : UInt64)), (.double dd)])) _
    refine XS.dcmpS X1.here hx rfl (hb hby d_prog_70_method_7_code_7) rfl (v := (-1 : Int32)) (hv7) ?_
    show Steps p.tables e below (T1.setTop (mkF m 8 #[.val (.ref a1)] [(.int (-1 : Int32))])) _
    refine XS.ifYes X1.here hx rfl (pc0 := 8) (pc' := 15) rfl (hb hby d_prog_70_method_7_code_8) rfl ((if0 _ _).trans (feq (by decide : ¬ ((-1 : Int32) = (0 : Int32)))).2) (by decide) (by decide) ?_
    show Steps p.tables e below (T1.setTop (mkF m 15 #[.val (.ref a1)] [])) _
    refine XS.iconst X1.here hx rfl (hb hby d_prog_70_method_7_code_15) ?_
    show Steps p.tables e below (T1.setTop (mkF m 16 #[.val (.ref a1)] [(.int (0 : Int32))])) _
    exact retN X1 hx (t := .boolean) Bd.returns (by simp) (hb hby d_prog_70_method_7_code_16) hr
  · show QP (some (.int (0 : Int32))) h0 n0 _ T1.heap _
    rw [e1]
    exact ⟨rfl, N0, rfl⟩
def QI (Z : State) (a1 sa : Addr) (dl dr dd dp dw : UInt64) (h0 : Heap) (n0 : Nat) (v : Option Value) (h : Heap) (L : List Loc) : Prop := v = none ∧ Fr n0 L ∧ Keep h0 h [a1] ∧ Exa Z h a1 "com/example/itinerant/itinerant/requests/Request" ∧ Fld Z h a1 "com/example/itinerant/itinerant/requests/Request" "id" "Ljava/lang/String;" (.ref sa) ∧ Fld Z h a1 "com/example/itinerant/itinerant/requests/Request" "location" "D" (.double dl) ∧ Fld Z h a1 "com/example/itinerant/itinerant/requests/Request" "release" "D" (.double dr) ∧ Fld Z h a1 "com/example/itinerant/itinerant/requests/Request" "disclosure" "D" (.double dd) ∧ Fld Z h a1 "com/example/itinerant/itinerant/requests/Request" "penalty" "D" (.double dp) ∧ Fld Z h a1 "com/example/itinerant/itinerant/requests/Request" "weight" "D" (.double dw)
theorem d_prog_70_method_1_code_0 : decode prog_70_method_1_code 0 = .ok (.aload_n 0, 1) := by decide +kernel
theorem d_prog_70_method_1_code_1 : decode prog_70_method_1_code 1 = .ok (.invokespecial 1, 3) := by decide +kernel
theorem d_prog_70_method_1_code_4 : decode prog_70_method_1_code 4 = .ok (.aload_n 1, 1) := by decide +kernel
theorem d_prog_70_method_1_code_5 : decode prog_70_method_1_code 5 = .ok (.ldc 7, 2) := by decide +kernel
theorem d_prog_70_method_1_code_7 : decode prog_70_method_1_code 7 = .ok (.invokestatic 9, 3) := by decide +kernel
theorem d_prog_70_method_1_code_10 : decode prog_70_method_1_code 10 = .ok (.pop, 1) := by decide +kernel
theorem d_prog_70_method_1_code_11 : decode prog_70_method_1_code 11 = .ok (.aload_n 1, 1) := by decide +kernel
theorem d_prog_70_method_1_code_12 : decode prog_70_method_1_code 12 = .ok (.invokevirtual 15, 3) := by decide +kernel
theorem d_prog_70_method_1_code_15 : decode prog_70_method_1_code 15 = .ok (.ifCond .eq 13, 3) := by decide +kernel
theorem d_prog_70_method_1_code_28 : decode prog_70_method_1_code 28 = .ok (.iconst 0, 1) := by decide +kernel
theorem d_prog_70_method_1_code_29 : decode prog_70_method_1_code 29 = .ok (.istore 12, 2) := by decide +kernel
theorem d_prog_70_method_1_code_31 : decode prog_70_method_1_code 31 = .ok (.iload 12, 2) := by decide +kernel
theorem d_prog_70_method_1_code_33 : decode prog_70_method_1_code 33 = .ok (.aload_n 1, 1) := by decide +kernel
theorem d_prog_70_method_1_code_34 : decode prog_70_method_1_code 34 = .ok (.invokevirtual 28, 3) := by decide +kernel
theorem d_prog_70_method_1_code_37 : decode prog_70_method_1_code 37 = .ok (.if_icmp .ge 35, 3) := by decide +kernel
theorem d_prog_70_method_1_code_40 : decode prog_70_method_1_code 40 = .ok (.aload_n 1, 1) := by decide +kernel
theorem d_prog_70_method_1_code_41 : decode prog_70_method_1_code 41 = .ok (.iload 12, 2) := by decide +kernel
theorem d_prog_70_method_1_code_43 : decode prog_70_method_1_code 43 = .ok (.invokevirtual 32, 3) := by decide +kernel
theorem d_prog_70_method_1_code_46 : decode prog_70_method_1_code 46 = .ok (.invokestatic 36, 3) := by decide +kernel
theorem d_prog_70_method_1_code_49 : decode prog_70_method_1_code 49 = .ok (.ifCond .eq 17, 3) := by decide +kernel
theorem d_prog_70_method_1_code_66 : decode prog_70_method_1_code 66 = .ok (.iinc 12 1, 3) := by decide +kernel
theorem d_prog_70_method_1_code_69 : decode prog_70_method_1_code 69 = .ok (.goto (-38), 3) := by decide +kernel
theorem d_prog_70_method_1_code_72 : decode prog_70_method_1_code 72 = .ok (.ldc 46, 2) := by decide +kernel
theorem d_prog_70_method_1_code_74 : decode prog_70_method_1_code 74 = .ok (.dload_n 2, 1) := by decide +kernel
theorem d_prog_70_method_1_code_75 : decode prog_70_method_1_code 75 = .ok (.invokestatic 48, 3) := by decide +kernel
theorem d_prog_70_method_1_code_78 : decode prog_70_method_1_code 78 = .ok (.dstore_n 2, 1) := by decide +kernel
theorem d_prog_70_method_1_code_79 : decode prog_70_method_1_code 79 = .ok (.ldc 54, 2) := by decide +kernel
theorem d_prog_70_method_1_code_81 : decode prog_70_method_1_code 81 = .ok (.dload 4, 2) := by decide +kernel
theorem d_prog_70_method_1_code_83 : decode prog_70_method_1_code 83 = .ok (.invokestatic 48, 3) := by decide +kernel
theorem d_prog_70_method_1_code_86 : decode prog_70_method_1_code 86 = .ok (.dstore 4, 2) := by decide +kernel
theorem d_prog_70_method_1_code_88 : decode prog_70_method_1_code 88 = .ok (.ldc 56, 2) := by decide +kernel
theorem d_prog_70_method_1_code_90 : decode prog_70_method_1_code 90 = .ok (.dload 6, 2) := by decide +kernel
theorem d_prog_70_method_1_code_92 : decode prog_70_method_1_code 92 = .ok (.invokestatic 48, 3) := by decide +kernel
theorem d_prog_70_method_1_code_95 : decode prog_70_method_1_code 95 = .ok (.dstore 6, 2) := by decide +kernel
theorem d_prog_70_method_1_code_97 : decode prog_70_method_1_code 97 = .ok (.dload 6, 2) := by decide +kernel
theorem d_prog_70_method_1_code_99 : decode prog_70_method_1_code 99 = .ok (.dload 4, 2) := by decide +kernel
theorem d_prog_70_method_1_code_101 : decode prog_70_method_1_code 101 = .ok (.dcmp .l, 1) := by decide +kernel
theorem d_prog_70_method_1_code_102 : decode prog_70_method_1_code 102 = .ok (.ifCond .le 20, 3) := by decide +kernel
theorem d_prog_70_method_1_code_122 : decode prog_70_method_1_code 122 = .ok (.dload 8, 2) := by decide +kernel
theorem d_prog_70_method_1_code_124 : decode prog_70_method_1_code 124 = .ok (.invokestatic 61, 3) := by decide +kernel
theorem d_prog_70_method_1_code_127 : decode prog_70_method_1_code 127 = .ok (.ifCond .eq 13, 3) := by decide +kernel
theorem d_prog_70_method_1_code_140 : decode prog_70_method_1_code 140 = .ok (.dload 8, 2) := by decide +kernel
theorem d_prog_70_method_1_code_142 : decode prog_70_method_1_code 142 = .ok (.dconst 0, 1) := by decide +kernel
theorem d_prog_70_method_1_code_143 : decode prog_70_method_1_code 143 = .ok (.dcmp .g, 1) := by decide +kernel
theorem d_prog_70_method_1_code_144 : decode prog_70_method_1_code 144 = .ok (.ifCond .ge 18, 3) := by decide +kernel
theorem d_prog_70_method_1_code_162 : decode prog_70_method_1_code 162 = .ok (.ldc 72, 2) := by decide +kernel
theorem d_prog_70_method_1_code_164 : decode prog_70_method_1_code 164 = .ok (.dload 10, 2) := by decide +kernel
theorem d_prog_70_method_1_code_166 : decode prog_70_method_1_code 166 = .ok (.invokestatic 48, 3) := by decide +kernel
theorem d_prog_70_method_1_code_169 : decode prog_70_method_1_code 169 = .ok (.dstore 10, 2) := by decide +kernel
theorem d_prog_70_method_1_code_171 : decode prog_70_method_1_code 171 = .ok (.aload_n 0, 1) := by decide +kernel
theorem d_prog_70_method_1_code_172 : decode prog_70_method_1_code 172 = .ok (.aload_n 1, 1) := by decide +kernel
theorem d_prog_70_method_1_code_173 : decode prog_70_method_1_code 173 = .ok (.putfield 74, 3) := by decide +kernel
theorem d_prog_70_method_1_code_176 : decode prog_70_method_1_code 176 = .ok (.aload_n 0, 1) := by decide +kernel
theorem d_prog_70_method_1_code_177 : decode prog_70_method_1_code 177 = .ok (.dload_n 2, 1) := by decide +kernel
theorem d_prog_70_method_1_code_178 : decode prog_70_method_1_code 178 = .ok (.putfield 77, 3) := by decide +kernel
theorem d_prog_70_method_1_code_181 : decode prog_70_method_1_code 181 = .ok (.aload_n 0, 1) := by decide +kernel
theorem d_prog_70_method_1_code_182 : decode prog_70_method_1_code 182 = .ok (.dload 4, 2) := by decide +kernel
theorem d_prog_70_method_1_code_184 : decode prog_70_method_1_code 184 = .ok (.putfield 80, 3) := by decide +kernel
theorem d_prog_70_method_1_code_187 : decode prog_70_method_1_code 187 = .ok (.aload_n 0, 1) := by decide +kernel
theorem d_prog_70_method_1_code_188 : decode prog_70_method_1_code 188 = .ok (.dload 6, 2) := by decide +kernel
theorem d_prog_70_method_1_code_190 : decode prog_70_method_1_code 190 = .ok (.putfield 82, 3) := by decide +kernel
theorem d_prog_70_method_1_code_193 : decode prog_70_method_1_code 193 = .ok (.aload_n 0, 1) := by decide +kernel
theorem d_prog_70_method_1_code_194 : decode prog_70_method_1_code 194 = .ok (.dload 8, 2) := by decide +kernel
theorem d_prog_70_method_1_code_196 : decode prog_70_method_1_code 196 = .ok (.putfield 84, 3) := by decide +kernel
theorem d_prog_70_method_1_code_199 : decode prog_70_method_1_code 199 = .ok (.aload_n 0, 1) := by decide +kernel
theorem d_prog_70_method_1_code_200 : decode prog_70_method_1_code 200 = .ok (.dload 10, 2) := by decide +kernel
theorem d_prog_70_method_1_code_202 : decode prog_70_method_1_code 202 = .ok (.putfield 87, 3) := by decide +kernel
theorem d_prog_70_method_1_code_205 : decode prog_70_method_1_code 205 = .ok (.return_, 1) := by decide +kernel
theorem pd___V : parseMethodDescriptor "()V" = some ⟨[], none⟩ := by decide +kernel
theorem pd__Ljava_lang_Object_Ljava_lang_String__Ljava_lang_Object_ : parseMethodDescriptor "(Ljava/lang/Object;Ljava/lang/String;)Ljava/lang/Object;" = some ⟨[(.object "java/lang/Object"), (.object "java/lang/String")], some (.object "java/lang/Object")⟩ := by decide +kernel
theorem pd___I : parseMethodDescriptor "()I" = some ⟨[], some .int⟩ := by decide +kernel
theorem pd__I_C : parseMethodDescriptor "(I)C" = some ⟨[.int], some .char⟩ := by decide +kernel
theorem pd__C_Z : parseMethodDescriptor "(C)Z" = some ⟨[.char], some .boolean⟩ := by decide +kernel
theorem pd__Ljava_lang_String_D_D : parseMethodDescriptor "(Ljava/lang/String;D)D" = some ⟨[(.object "java/lang/String"), .double], some .double⟩ := by decide +kernel
theorem ef_prog_70_method_1_code (m : MethodId) (x0 : Addr) (x1 : Addr) (x2 : UInt64) (x3 : UInt64) (x4 : UInt64) (x5 : UInt64) (x6 : UInt64) : entryFrame m #[(.ref x0), (.ref x1), (.double x2), (.double x3), (.double x4), (.double x5), (.double x6)] 13 = mkF m 0 #[.val (.ref x0), .val (.ref x1), .val (.double x2), .second, .val (.double x3), .second, .val (.double x4), .second, .val (.double x5), .second, .val (.double x6), .second, .unset] [] := by first | (simp [entryFrame, mkF, argsToLocals, Value.category]; done) | rfl
set_option maxRecDepth 65536 in
set_option maxHeartbeats 40000000 in
theorem rm6 (l : Launch) (Z : State) (a0 : Array Value) (hw : ∀ d ∈ tables_1, d.before a0 Z = true) (ws : List Jvm.Cond) (a1 sa sb : Addr) (kb : ClassId) (cs : Int32) (fv : Value) (dl dr dd dp dw : UInt64) (h0 : Heap) (n0 : Nat) (Z0 : n0 ≤ h0.size) (E_a1 : Exa Z h0 a1 "com/example/itinerant/itinerant/requests/Request") (F_id : Fld Z h0 a1 "com/example/itinerant/itinerant/requests/Request" "id" "Ljava/lang/String;" .null) (F_location : Fld Z h0 a1 "com/example/itinerant/itinerant/requests/Request" "location" "D" (.double (0 : UInt64))) (F_release : Fld Z h0 a1 "com/example/itinerant/itinerant/requests/Request" "release" "D" (.double (0 : UInt64))) (F_disclosure : Fld Z h0 a1 "com/example/itinerant/itinerant/requests/Request" "disclosure" "D" (.double (0 : UInt64))) (F_penalty : Fld Z h0 a1 "com/example/itinerant/itinerant/requests/Request" "penalty" "D" (.double (0 : UInt64))) (F_weight : Fld Z h0 a1 "com/example/itinerant/itinerant/requests/Request" "weight" "D" (.double (0 : UInt64))) (g_a1 : n0 ≤ a1) (ES : Exa Z h0 sa "java/lang/String") (CS : Fld Z h0 sa "java/lang/String" "coder" "B" (.int (0 : Int32))) (VS : Fld Z h0 sa "java/lang/String" "value" "[B" (.ref sb)) (KS : Arv Z h0 sb kb .byte (1 : Int32) [(.int (114 : Int32))] (.int 0)) (S_c : Sta Z Z.heap "java/lang/String" "COMPACT_STRINGS" "Z" (.int cs)) (hcs : ¬ (cs = (0 : Int32))) (S_f : Sta Z Z.heap "jdk/internal/util/Preconditions" "SIOOBE_FORMATTER" "Ljava/util/function/BiFunction;" fv) (hfv : fv.isRef = true) (O0 : Old Z n0 h0) (hl : NonNeg dl) (hrl : NonNeg dr) (hdd : NonNeg dd) (hwt : NonNeg dw) (hpn : Jvm.Free.Fl.NoNaN64 dp) (hdr : ¬ ((0 : Int32) < cmpValue (FP.dcmp dd dr) .l)) (hp0 : ¬ (cmpValue (FP.dcmp dp (0 : UInt64)) .g < (0 : Int32)))  :
    MetFree l (⟨"com/example/itinerant/itinerant/requests/Request", "<init>", "(Ljava/lang/String;DDDDD)V"⟩ : MethodName) (head1 (Jvm.Cond.code (⟨"com/example/itinerant/itinerant/requests/Request", "<init>", "(Ljava/lang/String;DDDDD)V"⟩ : MethodName) prog_70_method_1_code 13 none :: ws) ({ frames := 4, cells := 10, slots := 152, locals := 53 } : Room)) (fun a U => a = #[(.ref a1), (.ref sa), (.double dl), (.double dr), (.double dd), (.double dp), (.double dw)] ∧ Z.Warmed39 U.vm ∧ U.heap = h0) (fun _ _ _ _ _ => True) (fun _ U o U' => ∃ v L, o = .returned v ∧ QI Z a1 sa dl dr dd dp dw h0 n0 v U'.heap L ∧ ReturnedEndW U o U' L ({ frames := 4, cells := 10, slots := 152, locals := 53 } : Room).cells ({ frames := 4, cells := 10, slots := 152, locals := 53 } : Room).slots) := by
  refine MetFree.of_bodySF (plainFor_of_name pn_com_example_itinerant_itinerant_requests_Request) hisR ?_
  intro p e s m args below meth c s₁ Bd hml0 hP hK
  obtain ⟨rfl, hZ, hh⟩ := hP
  have hx := Bd.exec
  have hby := Bd.bytes
  have hml : c.maxLocals = 13 := hml0
  have hown : s.vm.findClass "com/example/itinerant/itinerant/requests/Request" = some m.cls := findClass_of_methodNamed Bd.named
  have hnm := (name_of_methodNamed Bd.named Bd.method).1
  have X0 : Stand p l e ({ frames := 4, cells := 10, slots := 152, locals := 53 } : Room) (s.setVm s.vm) m #[(.ref a1), (.ref sa), (.double dl), (.double dr), (.double dd), (.double dp), (.double dw)] below meth c s₁ [] 0 0 := Stand.of_body Bd
  have e0 : s₁.heap = h0 := by rw [← hh, Bd.state]; rfl
  have N0 := Fr.nil n0
  have pre0 : ∀ t, Steps p.tables e below (s₁.setTop (mkF m 0 #[.val (.ref a1), .val (.ref sa), .val (.double dl), .second, .val (.double dr), .second, .val (.double dd), .second, .val (.double dp), .second, .val (.double dw), .second, .unset] [])) t → Steps p.tables e below (s₁.setTop (entryFrame m #[(.ref a1), (.ref sa), (.double dl), (.double dr), (.double dd), (.double dp), (.double dw)] 13)) t := fun t k => castTop (ef_prog_70_method_1_code m a1 sa dl dr dd dp dw) k
  have K0 := Keep.refl h0 [a1]
  have hS0 : s.Since s.vm 0 := (State.WarmedH.refl s).since 0
  have hk0 : 0 ≤ h0.size := Nat.zero_le _
  have ne_sa : sa ≠ a1 := Exa.ne ES E_a1 (by decide)
  have ne_sb : sb ≠ a1 := Ne.symm (Exa.neArv E_a1 KS (hw _ (List.mem_of_getElem? (i := 2) rfl)))
  obtain ⟨_, _, ⟨T1, L1, k1, n1⟩, -, X1, ⟨Lc1, hQ1, l1, y1, z1⟩, st1⟩ := X0.specialBack hx (y := (⟨"java/lang/Record", "<init>", "()V"⟩ : MethodName)) rfl hown (mvT hZ (hw _ (List.mem_of_getElem? (i := 20) rfl))) (mvT hZ (hw _ (List.mem_of_getElem? (i := 21) rfl))) (mvT hZ (hw _ (List.mem_of_getElem? (i := 24) rfl))) (by decide) (backOf (W := 0) (rmR l Z a0 hw [] a1 h0 n0 Z0) hZ (hw _ (List.mem_of_getElem? (i := 24) rfl)) (hw _ (List.mem_of_getElem? (i := 23) rfl)) (by decide) (by decide)) (g := (mkF m 1 #[.val (.ref a1), .val (.ref sa), .val (.double dl), .second, .val (.double dr), .second, .val (.double dd), .second, .val (.double dp), .second, .val (.double dw), .second, .unset] [(.ref a1)])) rfl (by rw [hml]; rfl) (Steps.refl _) (a := a1) (argsL := []) (rest := []) (lenOf pd___V rfl) rfl (by show 2 * 0 + _ ≤ _; exact Nat.le_of_eq rfl) (hb hby d_prog_70_method_1_code_1) (fun _ _ => ⟨rfl, e0, (by decide : 0 + 0 ≤ _), (by decide : 0 + 0 ≤ _)⟩)
  dsimp only [Pt.U, Pt.locs, Pt.cells, Pt.slots] at X1 l1 y1 z1 st1 hQ1
  subst l1 y1 z1
  obtain ⟨rfl, N1q, eq1⟩ := hQ1
  have N1 := Fr.app N0 N1q
  obtain ⟨a2, T2, h2, k2, X2, e2, E2, hS2, hk2, hZ2, hown2, st2⟩ := ldcS X1 hx hZ hown (hw _ (List.mem_of_getElem? (i := 28) rfl)) (own_wS hw) eq1 hS0 hk0 (g := (mkF m 5 #[.val (.ref a1), .val (.ref sa), .val (.double dl), .second, .val (.double dr), .second, .val (.double dd), .second, .val (.double dp), .second, .val (.double dw), .second, .unset] [(.ref sa)])) rfl (hb hby d_prog_70_method_1_code_5) (n := 8) (by decide) (by decide) (by decide) (by decide)
  have c2_0 := E_a1.ext E2
  have c2_1 := F_id.ext E2
  have c2_2 := F_location.ext E2
  have c2_3 := F_release.ext E2
  have c2_4 := F_disclosure.ext E2
  have c2_5 := F_penalty.ext E2
  have c2_6 := F_weight.ext E2
  have c2_7 := ES.ext E2
  have c2_8 := CS.ext E2
  have c2_9 := VS.ext E2
  have c2_10 := KS.ext E2
  have SZ2 := Nat.le_trans Z0 E2.1
  have K2 := K0.ext E2
  have O2 := Old.ext O0 E2
  obtain ⟨_, _, ⟨T3, L3, k3, n3⟩, -, X3, ⟨Lc3, hQ3, l3, y3, z3⟩, st3⟩ := Jvm.LawKit.callS X2 hx (y := (⟨"java/util/Objects", "requireNonNull", "(Ljava/lang/Object;Ljava/lang/String;)Ljava/lang/Object;"⟩ : MethodName)) hown2 (mvT hZ2 (hw _ (List.mem_of_getElem? (i := 29) rfl))) (mvT hZ2 (hw _ (List.mem_of_getElem? (i := 30) rfl))) (mvT hZ2 (hw _ (List.mem_of_getElem? (i := 31) rfl))) (mvT hZ2 (hw _ (List.mem_of_getElem? (i := 32) rfl))) (by decide) (backOf (W := 0) (rmNN l Z a0 hw [] sa a2 h2 n0 SZ2) hZ2 (hw _ (List.mem_of_getElem? (i := 32) rfl)) (hw _ (List.mem_of_getElem? (i := 31) rfl)) (by decide) (by decide)) (g := (mkF m 7 #[.val (.ref a1), .val (.ref sa), .val (.double dl), .second, .val (.double dr), .second, .val (.double dd), .second, .val (.double dp), .second, .val (.double dw), .second, .unset] [(.ref a2), (.ref sa)])) rfl (by rw [hml]; rfl) (argsL := [(.ref sa), (.ref a2)]) (rest := []) (lenOf pd__Ljava_lang_Object_Ljava_lang_String__Ljava_lang_Object_ rfl) rfl (by show 2 * 0 + _ ≤ _; exact Nat.le_of_eq rfl) (hb hby d_prog_70_method_1_code_7) (fun _ _ => ⟨rfl, e2, (by decide : 2 + 0 ≤ _), (by decide : 12 + 0 ≤ _)⟩)
  dsimp only [Pt.U, Pt.locs, Pt.cells, Pt.slots] at X3 l3 y3 z3 st3 hQ3
  subst l3 y3 z3
  obtain ⟨rfl, N3q, eq3⟩ := hQ3
  have N3 := Fr.app N1 N3q
  obtain ⟨cq4, kq4, q4a, q4b, q4c⟩ := isOf hZ2 eq3 c2_7
  obtain ⟨_, _, ⟨T4, L4, k4, n4⟩, -, X4, ⟨Lc4, hQ4, l4, y4, z4⟩, st4⟩ := X3.virtualBack hx (y := (⟨"java/lang/String", "isEmpty", "()Z"⟩ : MethodName)) (z := (⟨"java/lang/String", "isEmpty", "()Z"⟩ : MethodName)) hown2 (mvT hZ2 (hw _ (List.mem_of_getElem? (i := 33) rfl))) (mvT hZ2 (hw _ (List.mem_of_getElem? (i := 34) rfl))) (notFace_of_selects (args := #[]) (mvT hZ2 (hw _ (List.mem_of_getElem? (i := 36) rfl)))) (mvT hZ2 (hw _ (List.mem_of_getElem? (i := 36) rfl))) (mvT hZ2 (hw _ (List.mem_of_getElem? (i := 35) rfl))) (by decide) (backOf (W := 0) (rmE l Z a0 hw [] sa sb kb h2 n0 SZ2 c2_9 c2_10) hZ2 (hw _ (List.mem_of_getElem? (i := 37) rfl)) (hw _ (List.mem_of_getElem? (i := 5) rfl)) (by decide) (by decide)) q4a q4c (g := (mkF m 12 #[.val (.ref a1), .val (.ref sa), .val (.double dl), .second, .val (.double dr), .second, .val (.double dd), .second, .val (.double dp), .second, .val (.double dw), .second, .unset] [(.ref sa)])) rfl (by rw [hml]; rfl) (Steps.refl _) (argsL := []) (rest := []) (lenOf pd___Z rfl) rfl (by show 2 * 0 + _ ≤ _; exact Nat.le_of_eq rfl) (hb hby d_prog_70_method_1_code_12) (fun _ _ => ⟨rfl, eq3, (by decide : 2 + 0 ≤ _), (by decide : 12 + 0 ≤ _)⟩)
  dsimp only [Pt.U, Pt.locs, Pt.cells, Pt.slots] at X4 l4 y4 z4 st4 hQ4
  subst l4 y4 z4
  obtain ⟨rfl, N4q, eq4⟩ := hQ4
  have N4 := Fr.app N3 N4q
  obtain ⟨cq5, kq5, q5a, q5b, q5c⟩ := isOf hZ2 eq4 c2_7
  obtain ⟨_, _, ⟨T5, L5, k5, n5⟩, -, X5, ⟨Lc5, hQ5, l5, y5, z5⟩, st5⟩ := X4.virtualBack hx (y := (⟨"java/lang/String", "length", "()I"⟩ : MethodName)) (z := (⟨"java/lang/String", "length", "()I"⟩ : MethodName)) hown2 (mvT hZ2 (hw _ (List.mem_of_getElem? (i := 39) rfl))) (mvT hZ2 (hw _ (List.mem_of_getElem? (i := 40) rfl))) (notFace_of_selects (args := #[]) (mvT hZ2 (hw _ (List.mem_of_getElem? (i := 42) rfl)))) (mvT hZ2 (hw _ (List.mem_of_getElem? (i := 42) rfl))) (mvT hZ2 (hw _ (List.mem_of_getElem? (i := 41) rfl))) (by decide) (backOf (W := 1) (rmL l Z a0 hw [] sa sb kb cs h2 n0 SZ2 c2_7 c2_8 c2_9 c2_10 (S_c.ext O2.2) hcs) hZ2 (hw _ (List.mem_of_getElem? (i := 43) rfl)) (hw _ (List.mem_of_getElem? (i := 5) rfl)) (by decide) (by decide)) q5a q5c (g := (mkF m 34 #[.val (.ref a1), .val (.ref sa), .val (.double dl), .second, .val (.double dr), .second, .val (.double dd), .second, .val (.double dp), .second, .val (.double dw), .second, .val (.int (0 : Int32))] [(.ref sa), (.int (0 : Int32))])) rfl (by rw [hml]; rfl) (Steps.refl _) (argsL := []) (rest := [(.int (0 : Int32))]) (lenOf pd___I rfl) rfl (by show 2 * 0 + _ ≤ _; exact Nat.le_of_eq rfl) (hb hby d_prog_70_method_1_code_34) (fun _ _ => ⟨rfl, eq4, (by decide : 2 + 0 ≤ _), (by decide : 12 + 0 ≤ _)⟩)
  dsimp only [Pt.U, Pt.locs, Pt.cells, Pt.slots] at X5 l5 y5 z5 st5 hQ5
  subst l5 y5 z5
  obtain ⟨rfl, N5q, eq5⟩ := hQ5
  have N5 := Fr.app N4 N5q
  obtain ⟨cq6, kq6, q6a, q6b, q6c⟩ := isOf hZ2 eq5 c2_7
  obtain ⟨_, _, ⟨T6, L6, k6, n6⟩, -, X6, ⟨Lc6, hQ6, l6, y6, z6⟩, st6⟩ := X5.virtualBack hx (y := (⟨"java/lang/String", "charAt", "(I)C"⟩ : MethodName)) (z := (⟨"java/lang/String", "charAt", "(I)C"⟩ : MethodName)) hown2 (mvT hZ2 (hw _ (List.mem_of_getElem? (i := 51) rfl))) (mvT hZ2 (hw _ (List.mem_of_getElem? (i := 52) rfl))) (notFace_of_selects (args := #[]) (mvT hZ2 (hw _ (List.mem_of_getElem? (i := 54) rfl)))) (mvT hZ2 (hw _ (List.mem_of_getElem? (i := 54) rfl))) (mvT hZ2 (hw _ (List.mem_of_getElem? (i := 53) rfl))) (by decide) (backOf (W := 0) (rmCA l Z a0 hw [] sa sb kb cs fv h2 n0 SZ2 c2_7 c2_8 c2_9 c2_10 (S_c.ext O2.2) hcs (S_f.ext O2.2) hfv) hZ2 (hw _ (List.mem_of_getElem? (i := 55) rfl)) (hw _ (List.mem_of_getElem? (i := 5) rfl)) (by decide) (by decide)) q6a q6c (g := (mkF m 43 #[.val (.ref a1), .val (.ref sa), .val (.double dl), .second, .val (.double dr), .second, .val (.double dd), .second, .val (.double dp), .second, .val (.double dw), .second, .val (.int (0 : Int32))] [(.int (0 : Int32)), (.ref sa)])) rfl (by rw [hml]; rfl) (Steps.refl _) (argsL := [(.int (0 : Int32))]) (rest := []) (lenOf pd__I_C rfl) rfl (by show 2 * 0 + _ ≤ _; exact Nat.le_of_eq rfl) (hb hby d_prog_70_method_1_code_43) (fun _ _ => ⟨rfl, eq5, (by decide : 2 + 0 ≤ _), (by decide : 12 + 0 ≤ _)⟩)
  dsimp only [Pt.U, Pt.locs, Pt.cells, Pt.slots] at X6 l6 y6 z6 st6 hQ6
  subst l6 y6 z6
  obtain ⟨rfl, N6q, eq6⟩ := hQ6
  have N6 := Fr.app N5 N6q
  obtain ⟨_, _, ⟨T7, L7, k7, n7⟩, -, X7, ⟨Lc7, hQ7, l7, y7, z7⟩, st7⟩ := Jvm.LawKit.callS X6 hx (y := (⟨"java/lang/Character", "isISOControl", "(C)Z"⟩ : MethodName)) hown2 (mvT hZ2 (hw _ (List.mem_of_getElem? (i := 73) rfl))) (mvT hZ2 (hw _ (List.mem_of_getElem? (i := 74) rfl))) (mvT hZ2 (hw _ (List.mem_of_getElem? (i := 75) rfl))) (mvT hZ2 (hw _ (List.mem_of_getElem? (i := 76) rfl))) (by decide) (backOf (W := 0) (rmYc l Z a0 hw [] h2 n0 SZ2) hZ2 (hw _ (List.mem_of_getElem? (i := 76) rfl)) (hw _ (List.mem_of_getElem? (i := 75) rfl)) (by decide) (by decide)) (g := (mkF m 46 #[.val (.ref a1), .val (.ref sa), .val (.double dl), .second, .val (.double dr), .second, .val (.double dd), .second, .val (.double dp), .second, .val (.double dw), .second, .val (.int (0 : Int32))] [(.int (114 : Int32))])) rfl (by rw [hml]; rfl) (argsL := [(.int (114 : Int32))]) (rest := []) (lenOf pd__C_Z rfl) rfl (by show 2 * 0 + _ ≤ _; exact Nat.le_of_eq rfl) (hb hby d_prog_70_method_1_code_46) (fun _ _ => ⟨rfl, eq6, (by decide : 2 + 0 ≤ _), (by decide : 12 + 0 ≤ _)⟩)
  dsimp only [Pt.U, Pt.locs, Pt.cells, Pt.slots] at X7 l7 y7 z7 st7 hQ7
  subst l7 y7 z7
  obtain ⟨rfl, N7q, eq7⟩ := hQ7
  have N7 := Fr.app N6 N7q
  obtain ⟨cq8, kq8, q8a, q8b, q8c⟩ := isOf hZ2 eq7 c2_7
  obtain ⟨_, _, ⟨T8, L8, k8, n8⟩, -, X8, ⟨Lc8, hQ8, l8, y8, z8⟩, st8⟩ := X7.virtualBack hx (y := (⟨"java/lang/String", "length", "()I"⟩ : MethodName)) (z := (⟨"java/lang/String", "length", "()I"⟩ : MethodName)) hown2 (mvT hZ2 (hw _ (List.mem_of_getElem? (i := 39) rfl))) (mvT hZ2 (hw _ (List.mem_of_getElem? (i := 40) rfl))) (notFace_of_selects (args := #[]) (mvT hZ2 (hw _ (List.mem_of_getElem? (i := 42) rfl)))) (mvT hZ2 (hw _ (List.mem_of_getElem? (i := 42) rfl))) (mvT hZ2 (hw _ (List.mem_of_getElem? (i := 41) rfl))) (by decide) (backOf (W := 1) (rmL l Z a0 hw [] sa sb kb cs h2 n0 SZ2 c2_7 c2_8 c2_9 c2_10 (S_c.ext O2.2) hcs) hZ2 (hw _ (List.mem_of_getElem? (i := 43) rfl)) (hw _ (List.mem_of_getElem? (i := 5) rfl)) (by decide) (by decide)) q8a q8c (g := (mkF m 34 #[.val (.ref a1), .val (.ref sa), .val (.double dl), .second, .val (.double dr), .second, .val (.double dd), .second, .val (.double dp), .second, .val (.double dw), .second, .val (.int (1 : Int32))] [(.ref sa), (.int (1 : Int32))])) rfl (by rw [hml]; rfl) (Steps.refl _) (argsL := []) (rest := [(.int (1 : Int32))]) (lenOf pd___I rfl) rfl (by show 2 * 0 + _ ≤ _; exact Nat.le_of_eq rfl) (hb hby d_prog_70_method_1_code_34) (fun _ _ => ⟨rfl, eq7, (by decide : 2 + 0 ≤ _), (by decide : 12 + 0 ≤ _)⟩)
  dsimp only [Pt.U, Pt.locs, Pt.cells, Pt.slots] at X8 l8 y8 z8 st8 hQ8
  subst l8 y8 z8
  obtain ⟨rfl, N8q, eq8⟩ := hQ8
  have N8 := Fr.app N7 N8q
  obtain ⟨a9, T9, h9, k9, X9, e9, E9, hS9, hk9, hZ9, hown9, st9⟩ := ldcS X8 hx hZ2 hown2 (hw _ (List.mem_of_getElem? (i := 80) rfl)) (own_wS hw) eq8 hS2 hk2 (g := (mkF m 72 #[.val (.ref a1), .val (.ref sa), .val (.double dl), .second, .val (.double dr), .second, .val (.double dd), .second, .val (.double dp), .second, .val (.double dw), .second, .val (.int (1 : Int32))] [])) rfl (hb hby d_prog_70_method_1_code_72) (n := 32) (by decide) (by decide) (by decide) (by decide)
  have c9_0 := c2_0.ext E9
  have c9_1 := c2_1.ext E9
  have c9_2 := c2_2.ext E9
  have c9_3 := c2_3.ext E9
  have c9_4 := c2_4.ext E9
  have c9_5 := c2_5.ext E9
  have c9_6 := c2_6.ext E9
  have c9_7 := c2_7.ext E9
  have c9_8 := c2_8.ext E9
  have c9_9 := c2_9.ext E9
  have c9_10 := c2_10.ext E9
  have SZ9 := Nat.le_trans SZ2 E9.1
  have K9 := K2.ext E9
  have O9 := Old.ext O2 E9
  obtain ⟨_, _, ⟨T10, L10, k10, n10⟩, -, X10, ⟨Lc10, hQ10, l10, y10, z10⟩, st10⟩ := Jvm.LawKit.callS X9 hx (y := (⟨"com/example/itinerant/itinerant/requests/Request", "nonNegative", "(Ljava/lang/String;D)D"⟩ : MethodName)) hown9 (mvT hZ9 (hw _ (List.mem_of_getElem? (i := 81) rfl))) (mvT hZ9 (hw _ (List.mem_of_getElem? (i := 82) rfl))) (mvT hZ9 (hw _ (List.mem_of_getElem? (i := 3) rfl))) (mvT hZ9 (hw _ (List.mem_of_getElem? (i := 83) rfl))) (by decide) (backOf (W := 0) (rmG l Z a0 hw [] a9 dl h9 n0 SZ9 hl) hZ9 (hw _ (List.mem_of_getElem? (i := 83) rfl)) (hw _ (List.mem_of_getElem? (i := 3) rfl)) (by decide) (by decide)) (g := (mkF m 75 #[.val (.ref a1), .val (.ref sa), .val (.double dl), .second, .val (.double dr), .second, .val (.double dd), .second, .val (.double dp), .second, .val (.double dw), .second, .val (.int (1 : Int32))] [(.double dl), (.ref a9)])) rfl (by rw [hml]; rfl) (argsL := [(.ref a9), (.double dl)]) (rest := []) (lenOf pd__Ljava_lang_String_D_D rfl) rfl (by show 2 * 0 + _ ≤ _; exact Nat.le_of_eq rfl) (hb hby d_prog_70_method_1_code_75) (fun _ _ => ⟨rfl, e9, (by decide : 4 + 0 ≤ _), (by decide : 48 + 0 ≤ _)⟩)
  dsimp only [Pt.U, Pt.locs, Pt.cells, Pt.slots] at X10 l10 y10 z10 st10 hQ10
  subst l10 y10 z10
  obtain ⟨rfl, N10q, eq10⟩ := hQ10
  have N10 := Fr.app N8 N10q
  obtain ⟨a11, T11, h11, k11, X11, e11, E11, hS11, hk11, hZ11, hown11, st11⟩ := ldcS X10 hx hZ9 hown9 (hw _ (List.mem_of_getElem? (i := 93) rfl)) (own_wS hw) eq10 hS9 hk9 (g := (mkF m 79 #[.val (.ref a1), .val (.ref sa), .val (.double dl), .second, .val (.double dr), .second, .val (.double dd), .second, .val (.double dp), .second, .val (.double dw), .second, .val (.int (1 : Int32))] [])) rfl (hb hby d_prog_70_method_1_code_79) (n := 28) (by decide) (by decide) (by decide) (by decide)
  have c11_0 := c9_0.ext E11
  have c11_1 := c9_1.ext E11
  have c11_2 := c9_2.ext E11
  have c11_3 := c9_3.ext E11
  have c11_4 := c9_4.ext E11
  have c11_5 := c9_5.ext E11
  have c11_6 := c9_6.ext E11
  have c11_7 := c9_7.ext E11
  have c11_8 := c9_8.ext E11
  have c11_9 := c9_9.ext E11
  have c11_10 := c9_10.ext E11
  have SZ11 := Nat.le_trans SZ9 E11.1
  have K11 := K9.ext E11
  have O11 := Old.ext O9 E11
  obtain ⟨_, _, ⟨T12, L12, k12, n12⟩, -, X12, ⟨Lc12, hQ12, l12, y12, z12⟩, st12⟩ := Jvm.LawKit.callS X11 hx (y := (⟨"com/example/itinerant/itinerant/requests/Request", "nonNegative", "(Ljava/lang/String;D)D"⟩ : MethodName)) hown11 (mvT hZ11 (hw _ (List.mem_of_getElem? (i := 81) rfl))) (mvT hZ11 (hw _ (List.mem_of_getElem? (i := 82) rfl))) (mvT hZ11 (hw _ (List.mem_of_getElem? (i := 3) rfl))) (mvT hZ11 (hw _ (List.mem_of_getElem? (i := 83) rfl))) (by decide) (backOf (W := 0) (rmG l Z a0 hw [] a11 dr h11 n0 SZ11 hrl) hZ11 (hw _ (List.mem_of_getElem? (i := 83) rfl)) (hw _ (List.mem_of_getElem? (i := 3) rfl)) (by decide) (by decide)) (g := (mkF m 83 #[.val (.ref a1), .val (.ref sa), .val (.double dl), .second, .val (.double dr), .second, .val (.double dd), .second, .val (.double dp), .second, .val (.double dw), .second, .val (.int (1 : Int32))] [(.double dr), (.ref a11)])) rfl (by rw [hml]; rfl) (argsL := [(.ref a11), (.double dr)]) (rest := []) (lenOf pd__Ljava_lang_String_D_D rfl) rfl (by show 2 * 0 + _ ≤ _; exact Nat.le_of_eq rfl) (hb hby d_prog_70_method_1_code_83) (fun _ _ => ⟨rfl, e11, (by decide : 6 + 0 ≤ _), (by decide : 80 + 0 ≤ _)⟩)
  dsimp only [Pt.U, Pt.locs, Pt.cells, Pt.slots] at X12 l12 y12 z12 st12 hQ12
  subst l12 y12 z12
  obtain ⟨rfl, N12q, eq12⟩ := hQ12
  have N12 := Fr.app N10 N12q
  obtain ⟨a13, T13, h13, k13, X13, e13, E13, hS13, hk13, hZ13, hown13, st13⟩ := ldcS X12 hx hZ11 hown11 (hw _ (List.mem_of_getElem? (i := 94) rfl)) (own_wS hw) eq12 hS11 hk11 (g := (mkF m 88 #[.val (.ref a1), .val (.ref sa), .val (.double dl), .second, .val (.double dr), .second, .val (.double dd), .second, .val (.double dp), .second, .val (.double dw), .second, .val (.int (1 : Int32))] [])) rfl (hb hby d_prog_70_method_1_code_88) (n := 40) (by decide) (by decide) (by decide) (by decide)
  have c13_0 := c11_0.ext E13
  have c13_1 := c11_1.ext E13
  have c13_2 := c11_2.ext E13
  have c13_3 := c11_3.ext E13
  have c13_4 := c11_4.ext E13
  have c13_5 := c11_5.ext E13
  have c13_6 := c11_6.ext E13
  have c13_7 := c11_7.ext E13
  have c13_8 := c11_8.ext E13
  have c13_9 := c11_9.ext E13
  have c13_10 := c11_10.ext E13
  have SZ13 := Nat.le_trans SZ11 E13.1
  have K13 := K11.ext E13
  have O13 := Old.ext O11 E13
  obtain ⟨_, _, ⟨T14, L14, k14, n14⟩, -, X14, ⟨Lc14, hQ14, l14, y14, z14⟩, st14⟩ := Jvm.LawKit.callS X13 hx (y := (⟨"com/example/itinerant/itinerant/requests/Request", "nonNegative", "(Ljava/lang/String;D)D"⟩ : MethodName)) hown13 (mvT hZ13 (hw _ (List.mem_of_getElem? (i := 81) rfl))) (mvT hZ13 (hw _ (List.mem_of_getElem? (i := 82) rfl))) (mvT hZ13 (hw _ (List.mem_of_getElem? (i := 3) rfl))) (mvT hZ13 (hw _ (List.mem_of_getElem? (i := 83) rfl))) (by decide) (backOf (W := 0) (rmG l Z a0 hw [] a13 dd h13 n0 SZ13 hdd) hZ13 (hw _ (List.mem_of_getElem? (i := 83) rfl)) (hw _ (List.mem_of_getElem? (i := 3) rfl)) (by decide) (by decide)) (g := (mkF m 92 #[.val (.ref a1), .val (.ref sa), .val (.double dl), .second, .val (.double dr), .second, .val (.double dd), .second, .val (.double dp), .second, .val (.double dw), .second, .val (.int (1 : Int32))] [(.double dd), (.ref a13)])) rfl (by rw [hml]; rfl) (argsL := [(.ref a13), (.double dd)]) (rest := []) (lenOf pd__Ljava_lang_String_D_D rfl) rfl (by show 2 * 0 + _ ≤ _; exact Nat.le_of_eq rfl) (hb hby d_prog_70_method_1_code_92) (fun _ _ => ⟨rfl, e13, (by decide : 8 + 0 ≤ _), (by decide : 124 + 0 ≤ _)⟩)
  dsimp only [Pt.U, Pt.locs, Pt.cells, Pt.slots] at X14 l14 y14 z14 st14 hQ14
  subst l14 y14 z14
  obtain ⟨rfl, N14q, eq14⟩ := hQ14
  have N14 := Fr.app N12 N14q
  obtain ⟨_, _, ⟨T15, L15, k15, n15⟩, -, X15, ⟨Lc15, hQ15, l15, y15, z15⟩, st15⟩ := Jvm.LawKit.callS X14 hx (y := (⟨"java/lang/Double", "isNaN", "(D)Z"⟩ : MethodName)) hown13 (mvT hZ13 (hw _ (List.mem_of_getElem? (i := 95) rfl))) (mvT hZ13 (hw _ (List.mem_of_getElem? (i := 96) rfl))) (mvT hZ13 (hw _ (List.mem_of_getElem? (i := 86) rfl))) (mvT hZ13 (hw _ (List.mem_of_getElem? (i := 97) rfl))) (by decide) (backOf (W := 0) (rmNaN l Z a0 hw [] dp h13 n0 SZ13 hpn) hZ13 (hw _ (List.mem_of_getElem? (i := 97) rfl)) (hw _ (List.mem_of_getElem? (i := 86) rfl)) (by decide) (by decide)) (g := (mkF m 124 #[.val (.ref a1), .val (.ref sa), .val (.double dl), .second, .val (.double dr), .second, .val (.double dd), .second, .val (.double dp), .second, .val (.double dw), .second, .val (.int (1 : Int32))] [(.double dp)])) rfl (by rw [hml]; rfl) (argsL := [(.double dp)]) (rest := []) (lenOf pd__D_Z rfl) rfl (by show 2 * 0 + _ ≤ _; exact Nat.le_of_eq rfl) (hb hby d_prog_70_method_1_code_124) (fun _ _ => ⟨rfl, eq14, (by decide : 8 + 0 ≤ _), (by decide : 124 + 0 ≤ _)⟩)
  dsimp only [Pt.U, Pt.locs, Pt.cells, Pt.slots] at X15 l15 y15 z15 st15 hQ15
  subst l15 y15 z15
  obtain ⟨rfl, N15q, eq15⟩ := hQ15
  have N15 := Fr.app N14 N15q
  obtain ⟨a16, T16, h16, k16, X16, e16, E16, hS16, hk16, hZ16, hown16, st16⟩ := ldcS X15 hx hZ13 hown13 (hw _ (List.mem_of_getElem? (i := 98) rfl)) (own_wS hw) eq15 hS13 hk13 (g := (mkF m 162 #[.val (.ref a1), .val (.ref sa), .val (.double dl), .second, .val (.double dr), .second, .val (.double dd), .second, .val (.double dp), .second, .val (.double dw), .second, .val (.int (1 : Int32))] [])) rfl (hb hby d_prog_70_method_1_code_162) (n := 24) (by decide) (by decide) (by decide) (by decide)
  have c16_0 := c13_0.ext E16
  have c16_1 := c13_1.ext E16
  have c16_2 := c13_2.ext E16
  have c16_3 := c13_3.ext E16
  have c16_4 := c13_4.ext E16
  have c16_5 := c13_5.ext E16
  have c16_6 := c13_6.ext E16
  have c16_7 := c13_7.ext E16
  have c16_8 := c13_8.ext E16
  have c16_9 := c13_9.ext E16
  have c16_10 := c13_10.ext E16
  have SZ16 := Nat.le_trans SZ13 E16.1
  have K16 := K13.ext E16
  have O16 := Old.ext O13 E16
  obtain ⟨_, _, ⟨T17, L17, k17, n17⟩, -, X17, ⟨Lc17, hQ17, l17, y17, z17⟩, st17⟩ := Jvm.LawKit.callS X16 hx (y := (⟨"com/example/itinerant/itinerant/requests/Request", "nonNegative", "(Ljava/lang/String;D)D"⟩ : MethodName)) hown16 (mvT hZ16 (hw _ (List.mem_of_getElem? (i := 81) rfl))) (mvT hZ16 (hw _ (List.mem_of_getElem? (i := 82) rfl))) (mvT hZ16 (hw _ (List.mem_of_getElem? (i := 3) rfl))) (mvT hZ16 (hw _ (List.mem_of_getElem? (i := 83) rfl))) (by decide) (backOf (W := 0) (rmG l Z a0 hw [] a16 dw h16 n0 SZ16 hwt) hZ16 (hw _ (List.mem_of_getElem? (i := 83) rfl)) (hw _ (List.mem_of_getElem? (i := 3) rfl)) (by decide) (by decide)) (g := (mkF m 166 #[.val (.ref a1), .val (.ref sa), .val (.double dl), .second, .val (.double dr), .second, .val (.double dd), .second, .val (.double dp), .second, .val (.double dw), .second, .val (.int (1 : Int32))] [(.double dw), (.ref a16)])) rfl (by rw [hml]; rfl) (argsL := [(.ref a16), (.double dw)]) (rest := []) (lenOf pd__Ljava_lang_String_D_D rfl) rfl (by show 2 * 0 + _ ≤ _; exact Nat.le_of_eq rfl) (hb hby d_prog_70_method_1_code_166) (fun _ _ => ⟨rfl, e16, (by decide : 10 + 0 ≤ _), (by decide : 152 + 0 ≤ _)⟩)
  dsimp only [Pt.U, Pt.locs, Pt.cells, Pt.slots] at X17 l17 y17 z17 st17 hQ17
  subst l17 y17 z17
  obtain ⟨rfl, N17q, eq17⟩ := hQ17
  have N17 := Fr.app N15 N17q
  obtain ⟨T18, h18, X18, e18, W18, st18⟩ := putF X17 hx hZ16 hown16 (host := "") (Or.inl (hw _ (List.mem_of_getElem? (i := 99) rfl))) Via.refl eq17 c16_1 c16_0 (Or.inr ⟨(hw _ (List.mem_of_getElem? (i := 100) rfl)), rfl, hnm⟩) (hw _ (List.mem_of_getElem? (i := 2) rfl)) (ty := (.object "java/lang/String")) (by decide) rfl rfl (g := (mkF m 173 #[.val (.ref a1), .val (.ref sa), .val (.double dl), .second, .val (.double dr), .second, .val (.double dd), .second, .val (.double dp), .second, .val (.double dw), .second, .val (.int (1 : Int32))] [(.ref sa), (.ref a1)])) rfl rfl (hb hby d_prog_70_method_1_code_173)
  have c18_0 := c16_0.wr W18
  have c18_1 := c16_1.same W18
  have c18_2 := c16_2.other W18 (Or.inr (slot_ne (Or.inr (hw _ (List.mem_of_getElem? (i := 102) rfl))) (Or.inr (hw _ (List.mem_of_getElem? (i := 100) rfl))) (by decide) (t := .double) (t' := (.object "java/lang/String")) (by decide) (by decide)))
  have c18_3 := c16_3.other W18 (Or.inr (slot_ne (Or.inr (hw _ (List.mem_of_getElem? (i := 104) rfl))) (Or.inr (hw _ (List.mem_of_getElem? (i := 100) rfl))) (by decide) (t := .double) (t' := (.object "java/lang/String")) (by decide) (by decide)))
  have c18_4 := c16_4.other W18 (Or.inr (slot_ne (Or.inr (hw _ (List.mem_of_getElem? (i := 106) rfl))) (Or.inr (hw _ (List.mem_of_getElem? (i := 100) rfl))) (by decide) (t := .double) (t' := (.object "java/lang/String")) (by decide) (by decide)))
  have c18_5 := c16_5.other W18 (Or.inr (slot_ne (Or.inr (hw _ (List.mem_of_getElem? (i := 108) rfl))) (Or.inr (hw _ (List.mem_of_getElem? (i := 100) rfl))) (by decide) (t := .double) (t' := (.object "java/lang/String")) (by decide) (by decide)))
  have c18_6 := c16_6.other W18 (Or.inr (slot_ne (Or.inr (hw _ (List.mem_of_getElem? (i := 110) rfl))) (Or.inr (hw _ (List.mem_of_getElem? (i := 100) rfl))) (by decide) (t := .double) (t' := (.object "java/lang/String")) (by decide) (by decide)))
  have c18_7 := c16_7.wr W18
  have c18_8 := c16_8.other W18 (Or.inl ne_sa)
  have c18_9 := c16_9.other W18 (Or.inl ne_sa)
  have c18_10 := c16_10.other W18 ne_sb
  have SZ18 := Nat.le_trans SZ16 (Keep.of_wr W18).1
  have hk18 := Nat.le_trans hk16 (Keep.of_wr W18).1
  have O18 := Old.wr O16 W18 g_a1
  have K18 := K16.wr W18 (Or.inl (List.mem_of_getElem? (i := 0) rfl))
  have N18 := Fr.snoc X18 N17 g_a1
  obtain ⟨T19, h19, X19, e19, W19, st19⟩ := putF X18 hx hZ16 hown16 (host := "") (Or.inl (hw _ (List.mem_of_getElem? (i := 101) rfl))) Via.refl e18 c18_2 c18_0 (Or.inr ⟨(hw _ (List.mem_of_getElem? (i := 102) rfl)), rfl, hnm⟩) (hw _ (List.mem_of_getElem? (i := 2) rfl)) (ty := .double) (by decide) rfl rfl (g := (mkF m 178 #[.val (.ref a1), .val (.ref sa), .val (.double dl), .second, .val (.double dr), .second, .val (.double dd), .second, .val (.double dp), .second, .val (.double dw), .second, .val (.int (1 : Int32))] [(.double dl), (.ref a1)])) rfl rfl (hb hby d_prog_70_method_1_code_178)
  have c19_0 := c18_0.wr W19
  have c19_1 := c18_1.other W19 (Or.inr (slot_ne (Or.inr (hw _ (List.mem_of_getElem? (i := 100) rfl))) (Or.inr (hw _ (List.mem_of_getElem? (i := 102) rfl))) (by decide) (t := (.object "java/lang/String")) (t' := .double) (by decide) (by decide)))
  have c19_2 := c18_2.same W19
  have c19_3 := c18_3.other W19 (Or.inr (slot_ne (Or.inr (hw _ (List.mem_of_getElem? (i := 104) rfl))) (Or.inr (hw _ (List.mem_of_getElem? (i := 102) rfl))) (by decide) (t := .double) (t' := .double) (by decide) (by decide)))
  have c19_4 := c18_4.other W19 (Or.inr (slot_ne (Or.inr (hw _ (List.mem_of_getElem? (i := 106) rfl))) (Or.inr (hw _ (List.mem_of_getElem? (i := 102) rfl))) (by decide) (t := .double) (t' := .double) (by decide) (by decide)))
  have c19_5 := c18_5.other W19 (Or.inr (slot_ne (Or.inr (hw _ (List.mem_of_getElem? (i := 108) rfl))) (Or.inr (hw _ (List.mem_of_getElem? (i := 102) rfl))) (by decide) (t := .double) (t' := .double) (by decide) (by decide)))
  have c19_6 := c18_6.other W19 (Or.inr (slot_ne (Or.inr (hw _ (List.mem_of_getElem? (i := 110) rfl))) (Or.inr (hw _ (List.mem_of_getElem? (i := 102) rfl))) (by decide) (t := .double) (t' := .double) (by decide) (by decide)))
  have c19_7 := c18_7.wr W19
  have c19_8 := c18_8.other W19 (Or.inl ne_sa)
  have c19_9 := c18_9.other W19 (Or.inl ne_sa)
  have c19_10 := c18_10.other W19 ne_sb
  have SZ19 := Nat.le_trans SZ18 (Keep.of_wr W19).1
  have hk19 := Nat.le_trans hk18 (Keep.of_wr W19).1
  have O19 := Old.wr O18 W19 g_a1
  have K19 := K18.wr W19 (Or.inl (List.mem_of_getElem? (i := 0) rfl))
  have N19 := Fr.snoc X19 N18 g_a1
  obtain ⟨T20, h20, X20, e20, W20, st20⟩ := putF X19 hx hZ16 hown16 (host := "") (Or.inl (hw _ (List.mem_of_getElem? (i := 103) rfl))) Via.refl e19 c19_3 c19_0 (Or.inr ⟨(hw _ (List.mem_of_getElem? (i := 104) rfl)), rfl, hnm⟩) (hw _ (List.mem_of_getElem? (i := 2) rfl)) (ty := .double) (by decide) rfl rfl (g := (mkF m 184 #[.val (.ref a1), .val (.ref sa), .val (.double dl), .second, .val (.double dr), .second, .val (.double dd), .second, .val (.double dp), .second, .val (.double dw), .second, .val (.int (1 : Int32))] [(.double dr), (.ref a1)])) rfl rfl (hb hby d_prog_70_method_1_code_184)
  have c20_0 := c19_0.wr W20
  have c20_1 := c19_1.other W20 (Or.inr (slot_ne (Or.inr (hw _ (List.mem_of_getElem? (i := 100) rfl))) (Or.inr (hw _ (List.mem_of_getElem? (i := 104) rfl))) (by decide) (t := (.object "java/lang/String")) (t' := .double) (by decide) (by decide)))
  have c20_2 := c19_2.other W20 (Or.inr (slot_ne (Or.inr (hw _ (List.mem_of_getElem? (i := 102) rfl))) (Or.inr (hw _ (List.mem_of_getElem? (i := 104) rfl))) (by decide) (t := .double) (t' := .double) (by decide) (by decide)))
  have c20_3 := c19_3.same W20
  have c20_4 := c19_4.other W20 (Or.inr (slot_ne (Or.inr (hw _ (List.mem_of_getElem? (i := 106) rfl))) (Or.inr (hw _ (List.mem_of_getElem? (i := 104) rfl))) (by decide) (t := .double) (t' := .double) (by decide) (by decide)))
  have c20_5 := c19_5.other W20 (Or.inr (slot_ne (Or.inr (hw _ (List.mem_of_getElem? (i := 108) rfl))) (Or.inr (hw _ (List.mem_of_getElem? (i := 104) rfl))) (by decide) (t := .double) (t' := .double) (by decide) (by decide)))
  have c20_6 := c19_6.other W20 (Or.inr (slot_ne (Or.inr (hw _ (List.mem_of_getElem? (i := 110) rfl))) (Or.inr (hw _ (List.mem_of_getElem? (i := 104) rfl))) (by decide) (t := .double) (t' := .double) (by decide) (by decide)))
  have c20_7 := c19_7.wr W20
  have c20_8 := c19_8.other W20 (Or.inl ne_sa)
  have c20_9 := c19_9.other W20 (Or.inl ne_sa)
  have c20_10 := c19_10.other W20 ne_sb
  have SZ20 := Nat.le_trans SZ19 (Keep.of_wr W20).1
  have hk20 := Nat.le_trans hk19 (Keep.of_wr W20).1
  have O20 := Old.wr O19 W20 g_a1
  have K20 := K19.wr W20 (Or.inl (List.mem_of_getElem? (i := 0) rfl))
  have N20 := Fr.snoc X20 N19 g_a1
  obtain ⟨T21, h21, X21, e21, W21, st21⟩ := putF X20 hx hZ16 hown16 (host := "") (Or.inl (hw _ (List.mem_of_getElem? (i := 105) rfl))) Via.refl e20 c20_4 c20_0 (Or.inr ⟨(hw _ (List.mem_of_getElem? (i := 106) rfl)), rfl, hnm⟩) (hw _ (List.mem_of_getElem? (i := 2) rfl)) (ty := .double) (by decide) rfl rfl (g := (mkF m 190 #[.val (.ref a1), .val (.ref sa), .val (.double dl), .second, .val (.double dr), .second, .val (.double dd), .second, .val (.double dp), .second, .val (.double dw), .second, .val (.int (1 : Int32))] [(.double dd), (.ref a1)])) rfl rfl (hb hby d_prog_70_method_1_code_190)
  have c21_0 := c20_0.wr W21
  have c21_1 := c20_1.other W21 (Or.inr (slot_ne (Or.inr (hw _ (List.mem_of_getElem? (i := 100) rfl))) (Or.inr (hw _ (List.mem_of_getElem? (i := 106) rfl))) (by decide) (t := (.object "java/lang/String")) (t' := .double) (by decide) (by decide)))
  have c21_2 := c20_2.other W21 (Or.inr (slot_ne (Or.inr (hw _ (List.mem_of_getElem? (i := 102) rfl))) (Or.inr (hw _ (List.mem_of_getElem? (i := 106) rfl))) (by decide) (t := .double) (t' := .double) (by decide) (by decide)))
  have c21_3 := c20_3.other W21 (Or.inr (slot_ne (Or.inr (hw _ (List.mem_of_getElem? (i := 104) rfl))) (Or.inr (hw _ (List.mem_of_getElem? (i := 106) rfl))) (by decide) (t := .double) (t' := .double) (by decide) (by decide)))
  have c21_4 := c20_4.same W21
  have c21_5 := c20_5.other W21 (Or.inr (slot_ne (Or.inr (hw _ (List.mem_of_getElem? (i := 108) rfl))) (Or.inr (hw _ (List.mem_of_getElem? (i := 106) rfl))) (by decide) (t := .double) (t' := .double) (by decide) (by decide)))
  have c21_6 := c20_6.other W21 (Or.inr (slot_ne (Or.inr (hw _ (List.mem_of_getElem? (i := 110) rfl))) (Or.inr (hw _ (List.mem_of_getElem? (i := 106) rfl))) (by decide) (t := .double) (t' := .double) (by decide) (by decide)))
  have c21_7 := c20_7.wr W21
  have c21_8 := c20_8.other W21 (Or.inl ne_sa)
  have c21_9 := c20_9.other W21 (Or.inl ne_sa)
  have c21_10 := c20_10.other W21 ne_sb
  have SZ21 := Nat.le_trans SZ20 (Keep.of_wr W21).1
  have hk21 := Nat.le_trans hk20 (Keep.of_wr W21).1
  have O21 := Old.wr O20 W21 g_a1
  have K21 := K20.wr W21 (Or.inl (List.mem_of_getElem? (i := 0) rfl))
  have N21 := Fr.snoc X21 N20 g_a1
  obtain ⟨T22, h22, X22, e22, W22, st22⟩ := putF X21 hx hZ16 hown16 (host := "") (Or.inl (hw _ (List.mem_of_getElem? (i := 107) rfl))) Via.refl e21 c21_5 c21_0 (Or.inr ⟨(hw _ (List.mem_of_getElem? (i := 108) rfl)), rfl, hnm⟩) (hw _ (List.mem_of_getElem? (i := 2) rfl)) (ty := .double) (by decide) rfl rfl (g := (mkF m 196 #[.val (.ref a1), .val (.ref sa), .val (.double dl), .second, .val (.double dr), .second, .val (.double dd), .second, .val (.double dp), .second, .val (.double dw), .second, .val (.int (1 : Int32))] [(.double dp), (.ref a1)])) rfl rfl (hb hby d_prog_70_method_1_code_196)
  have c22_0 := c21_0.wr W22
  have c22_1 := c21_1.other W22 (Or.inr (slot_ne (Or.inr (hw _ (List.mem_of_getElem? (i := 100) rfl))) (Or.inr (hw _ (List.mem_of_getElem? (i := 108) rfl))) (by decide) (t := (.object "java/lang/String")) (t' := .double) (by decide) (by decide)))
  have c22_2 := c21_2.other W22 (Or.inr (slot_ne (Or.inr (hw _ (List.mem_of_getElem? (i := 102) rfl))) (Or.inr (hw _ (List.mem_of_getElem? (i := 108) rfl))) (by decide) (t := .double) (t' := .double) (by decide) (by decide)))
  have c22_3 := c21_3.other W22 (Or.inr (slot_ne (Or.inr (hw _ (List.mem_of_getElem? (i := 104) rfl))) (Or.inr (hw _ (List.mem_of_getElem? (i := 108) rfl))) (by decide) (t := .double) (t' := .double) (by decide) (by decide)))
  have c22_4 := c21_4.other W22 (Or.inr (slot_ne (Or.inr (hw _ (List.mem_of_getElem? (i := 106) rfl))) (Or.inr (hw _ (List.mem_of_getElem? (i := 108) rfl))) (by decide) (t := .double) (t' := .double) (by decide) (by decide)))
  have c22_5 := c21_5.same W22
  have c22_6 := c21_6.other W22 (Or.inr (slot_ne (Or.inr (hw _ (List.mem_of_getElem? (i := 110) rfl))) (Or.inr (hw _ (List.mem_of_getElem? (i := 108) rfl))) (by decide) (t := .double) (t' := .double) (by decide) (by decide)))
  have c22_7 := c21_7.wr W22
  have c22_8 := c21_8.other W22 (Or.inl ne_sa)
  have c22_9 := c21_9.other W22 (Or.inl ne_sa)
  have c22_10 := c21_10.other W22 ne_sb
  have SZ22 := Nat.le_trans SZ21 (Keep.of_wr W22).1
  have hk22 := Nat.le_trans hk21 (Keep.of_wr W22).1
  have O22 := Old.wr O21 W22 g_a1
  have K22 := K21.wr W22 (Or.inl (List.mem_of_getElem? (i := 0) rfl))
  have N22 := Fr.snoc X22 N21 g_a1
  obtain ⟨T23, h23, X23, e23, W23, st23⟩ := putF X22 hx hZ16 hown16 (host := "") (Or.inl (hw _ (List.mem_of_getElem? (i := 109) rfl))) Via.refl e22 c22_6 c22_0 (Or.inr ⟨(hw _ (List.mem_of_getElem? (i := 110) rfl)), rfl, hnm⟩) (hw _ (List.mem_of_getElem? (i := 2) rfl)) (ty := .double) (by decide) rfl rfl (g := (mkF m 202 #[.val (.ref a1), .val (.ref sa), .val (.double dl), .second, .val (.double dr), .second, .val (.double dd), .second, .val (.double dp), .second, .val (.double dw), .second, .val (.int (1 : Int32))] [(.double dw), (.ref a1)])) rfl rfl (hb hby d_prog_70_method_1_code_202)
  have c23_0 := c22_0.wr W23
  have c23_1 := c22_1.other W23 (Or.inr (slot_ne (Or.inr (hw _ (List.mem_of_getElem? (i := 100) rfl))) (Or.inr (hw _ (List.mem_of_getElem? (i := 110) rfl))) (by decide) (t := (.object "java/lang/String")) (t' := .double) (by decide) (by decide)))
  have c23_2 := c22_2.other W23 (Or.inr (slot_ne (Or.inr (hw _ (List.mem_of_getElem? (i := 102) rfl))) (Or.inr (hw _ (List.mem_of_getElem? (i := 110) rfl))) (by decide) (t := .double) (t' := .double) (by decide) (by decide)))
  have c23_3 := c22_3.other W23 (Or.inr (slot_ne (Or.inr (hw _ (List.mem_of_getElem? (i := 104) rfl))) (Or.inr (hw _ (List.mem_of_getElem? (i := 110) rfl))) (by decide) (t := .double) (t' := .double) (by decide) (by decide)))
  have c23_4 := c22_4.other W23 (Or.inr (slot_ne (Or.inr (hw _ (List.mem_of_getElem? (i := 106) rfl))) (Or.inr (hw _ (List.mem_of_getElem? (i := 110) rfl))) (by decide) (t := .double) (t' := .double) (by decide) (by decide)))
  have c23_5 := c22_5.other W23 (Or.inr (slot_ne (Or.inr (hw _ (List.mem_of_getElem? (i := 108) rfl))) (Or.inr (hw _ (List.mem_of_getElem? (i := 110) rfl))) (by decide) (t := .double) (t' := .double) (by decide) (by decide)))
  have c23_6 := c22_6.same W23
  have c23_7 := c22_7.wr W23
  have c23_8 := c22_8.other W23 (Or.inl ne_sa)
  have c23_9 := c22_9.other W23 (Or.inl ne_sa)
  have c23_10 := c22_10.other W23 ne_sb
  have SZ23 := Nat.le_trans SZ22 (Keep.of_wr W23).1
  have hk23 := Nat.le_trans hk22 (Keep.of_wr W23).1
  have O23 := Old.wr O22 W23 g_a1
  have K23 := K22.wr W23 (Or.inl (List.mem_of_getElem? (i := 0) rfl))
  have N23 := Fr.snoc X23 N22 g_a1
  obtain ⟨fs, hr, hrun, hended, hRW⟩ := X23.leaveW hS16 (show _ ≤ T23.heap.size from by rw [e23]; exact hk23) (v := none) (fun _ => rfl)
  refine ⟨_, _, pre0 _ ?_, hrun, hended, _, _, rfl, ?_, ⟨_, rfl⟩, hRW.2.1, hRW.2.2.1, hRW.2.2.2.mono (by decide) (by decide)⟩
  · show Steps p.tables e below (s₁.setTop (mkF m 0 #[.val (.ref a1), .val (.ref sa), .val (.double dl), .second, .val (.double dr), .second, .val (.double dd), .second, .val (.double dp), .second, .val (.double dw), .second, .unset] [])) _
    refine XS.aloadN X0.here hx rfl (hb hby d_prog_70_method_1_code_0) rfl rfl ?_
    show Steps p.tables e below (s₁.setTop (mkF m 1 #[.val (.ref a1), .val (.ref sa), .val (.double dl), .second, .val (.double dr), .second, .val (.double dd), .second, .val (.double dp), .second, .val (.double dw), .second, .unset] [(.ref a1)])) _
    refine st1.trans ?_
    show Steps p.tables e below (T1.setTop (mkF m 4 #[.val (.ref a1), .val (.ref sa), .val (.double dl), .second, .val (.double dr), .second, .val (.double dd), .second, .val (.double dp), .second, .val (.double dw), .second, .unset] [])) _
    refine XS.aloadN X1.here hx rfl (hb hby d_prog_70_method_1_code_4) rfl rfl ?_
    show Steps p.tables e below (T1.setTop (mkF m 5 #[.val (.ref a1), .val (.ref sa), .val (.double dl), .second, .val (.double dr), .second, .val (.double dd), .second, .val (.double dp), .second, .val (.double dw), .second, .unset] [(.ref sa)])) _
    refine st2 _ ?_
    show Steps p.tables e below (T2.setTop (mkF m 7 #[.val (.ref a1), .val (.ref sa), .val (.double dl), .second, .val (.double dr), .second, .val (.double dd), .second, .val (.double dp), .second, .val (.double dw), .second, .unset] [(.ref a2), (.ref sa)])) _
    refine st3 _ ?_
    show Steps p.tables e below (T3.setTop (mkF m 10 #[.val (.ref a1), .val (.ref sa), .val (.double dl), .second, .val (.double dr), .second, .val (.double dd), .second, .val (.double dp), .second, .val (.double dw), .second, .unset] [(.ref sa)])) _
    refine XS.pop X3.here hx rfl (hb hby d_prog_70_method_1_code_10) rfl rfl ?_
    show Steps p.tables e below (T3.setTop (mkF m 11 #[.val (.ref a1), .val (.ref sa), .val (.double dl), .second, .val (.double dr), .second, .val (.double dd), .second, .val (.double dp), .second, .val (.double dw), .second, .unset] [])) _
    refine XS.aloadN X3.here hx rfl (hb hby d_prog_70_method_1_code_11) rfl rfl ?_
    show Steps p.tables e below (T3.setTop (mkF m 12 #[.val (.ref a1), .val (.ref sa), .val (.double dl), .second, .val (.double dr), .second, .val (.double dd), .second, .val (.double dp), .second, .val (.double dw), .second, .unset] [(.ref sa)])) _
    refine st4.trans ?_
    show Steps p.tables e below (T4.setTop (mkF m 15 #[.val (.ref a1), .val (.ref sa), .val (.double dl), .second, .val (.double dr), .second, .val (.double dd), .second, .val (.double dp), .second, .val (.double dw), .second, .unset] [(.int (0 : Int32))])) _
    refine XS.ifYes X4.here hx rfl (pc0 := 15) (pc' := 28) rfl (hb hby d_prog_70_method_1_code_15) rfl ((if0 _ _).trans (teq (by decide : (0 : Int32) = (0 : Int32))).1) (by decide) (by decide) ?_
    show Steps p.tables e below (T4.setTop (mkF m 28 #[.val (.ref a1), .val (.ref sa), .val (.double dl), .second, .val (.double dr), .second, .val (.double dd), .second, .val (.double dp), .second, .val (.double dw), .second, .unset] [])) _
    refine XS.iconst X4.here hx rfl (hb hby d_prog_70_method_1_code_28) ?_
    show Steps p.tables e below (T4.setTop (mkF m 29 #[.val (.ref a1), .val (.ref sa), .val (.double dl), .second, .val (.double dr), .second, .val (.double dd), .second, .val (.double dp), .second, .val (.double dw), .second, .unset] [(.int (0 : Int32))])) _
    refine XS.istore X4.here hx rfl (hb hby d_prog_70_method_1_code_29) rfl (l' := #[.val (.ref a1), .val (.ref sa), .val (.double dl), .second, .val (.double dr), .second, .val (.double dd), .second, .val (.double dp), .second, .val (.double dw), .second, .val (.int (0 : Int32))]) rfl ?_
    show Steps p.tables e below (T4.setTop (mkF m 31 #[.val (.ref a1), .val (.ref sa), .val (.double dl), .second, .val (.double dr), .second, .val (.double dd), .second, .val (.double dp), .second, .val (.double dw), .second, .val (.int (0 : Int32))] [])) _
    refine XS.iload X4.here hx rfl (hb hby d_prog_70_method_1_code_31) rfl ?_
    show Steps p.tables e below (T4.setTop (mkF m 33 #[.val (.ref a1), .val (.ref sa), .val (.double dl), .second, .val (.double dr), .second, .val (.double dd), .second, .val (.double dp), .second, .val (.double dw), .second, .val (.int (0 : Int32))] [(.int (0 : Int32))])) _
    refine XS.aloadN X4.here hx rfl (hb hby d_prog_70_method_1_code_33) rfl rfl ?_
    show Steps p.tables e below (T4.setTop (mkF m 34 #[.val (.ref a1), .val (.ref sa), .val (.double dl), .second, .val (.double dr), .second, .val (.double dd), .second, .val (.double dp), .second, .val (.double dw), .second, .val (.int (0 : Int32))] [(.ref sa), (.int (0 : Int32))])) _
    refine st5.trans ?_
    show Steps p.tables e below (T5.setTop (mkF m 37 #[.val (.ref a1), .val (.ref sa), .val (.double dl), .second, .val (.double dr), .second, .val (.double dd), .second, .val (.double dp), .second, .val (.double dw), .second, .val (.int (0 : Int32))] [(.int (1 : Int32)), (.int (0 : Int32))])) _
    refine XS.icmpNo X5.here hx rfl (hb hby d_prog_70_method_1_code_37) rfl (tlt (by decide : (0 : Int32) < (1 : Int32))).2.1 ?_
    show Steps p.tables e below (T5.setTop (mkF m 40 #[.val (.ref a1), .val (.ref sa), .val (.double dl), .second, .val (.double dr), .second, .val (.double dd), .second, .val (.double dp), .second, .val (.double dw), .second, .val (.int (0 : Int32))] [])) _
    refine XS.aloadN X5.here hx rfl (hb hby d_prog_70_method_1_code_40) rfl rfl ?_
    show Steps p.tables e below (T5.setTop (mkF m 41 #[.val (.ref a1), .val (.ref sa), .val (.double dl), .second, .val (.double dr), .second, .val (.double dd), .second, .val (.double dp), .second, .val (.double dw), .second, .val (.int (0 : Int32))] [(.ref sa)])) _
    refine XS.iload X5.here hx rfl (hb hby d_prog_70_method_1_code_41) rfl ?_
    show Steps p.tables e below (T5.setTop (mkF m 43 #[.val (.ref a1), .val (.ref sa), .val (.double dl), .second, .val (.double dr), .second, .val (.double dd), .second, .val (.double dp), .second, .val (.double dw), .second, .val (.int (0 : Int32))] [(.int (0 : Int32)), (.ref sa)])) _
    refine st6.trans ?_
    show Steps p.tables e below (T6.setTop (mkF m 46 #[.val (.ref a1), .val (.ref sa), .val (.double dl), .second, .val (.double dr), .second, .val (.double dd), .second, .val (.double dp), .second, .val (.double dw), .second, .val (.int (0 : Int32))] [(.int (114 : Int32))])) _
    refine st7 _ ?_
    show Steps p.tables e below (T7.setTop (mkF m 49 #[.val (.ref a1), .val (.ref sa), .val (.double dl), .second, .val (.double dr), .second, .val (.double dd), .second, .val (.double dp), .second, .val (.double dw), .second, .val (.int (0 : Int32))] [(.int (0 : Int32))])) _
    refine XS.ifYes X7.here hx rfl (pc0 := 49) (pc' := 66) rfl (hb hby d_prog_70_method_1_code_49) rfl ((if0 _ _).trans (teq (by decide : (0 : Int32) = (0 : Int32))).1) (by decide) (by decide) ?_
    show Steps p.tables e below (T7.setTop (mkF m 66 #[.val (.ref a1), .val (.ref sa), .val (.double dl), .second, .val (.double dr), .second, .val (.double dd), .second, .val (.double dp), .second, .val (.double dw), .second, .val (.int (0 : Int32))] [])) _
    refine XS.iinc X7.here hx rfl (hb hby d_prog_70_method_1_code_66) rfl (l' := #[.val (.ref a1), .val (.ref sa), .val (.double dl), .second, .val (.double dr), .second, .val (.double dd), .second, .val (.double dp), .second, .val (.double dw), .second, .val (.int (1 : Int32))]) rfl ?_
    show Steps p.tables e below (T7.setTop (mkF m 69 #[.val (.ref a1), .val (.ref sa), .val (.double dl), .second, .val (.double dr), .second, .val (.double dd), .second, .val (.double dp), .second, .val (.double dw), .second, .val (.int (1 : Int32))] [])) _
    refine XS.goto X7.here hx rfl (pc0 := 69) (pc' := 31) rfl (hb hby d_prog_70_method_1_code_69) (by decide) (by decide) ?_
    show Steps p.tables e below (T7.setTop (mkF m 31 #[.val (.ref a1), .val (.ref sa), .val (.double dl), .second, .val (.double dr), .second, .val (.double dd), .second, .val (.double dp), .second, .val (.double dw), .second, .val (.int (1 : Int32))] [])) _
    refine XS.iload X7.here hx rfl (hb hby d_prog_70_method_1_code_31) rfl ?_
    show Steps p.tables e below (T7.setTop (mkF m 33 #[.val (.ref a1), .val (.ref sa), .val (.double dl), .second, .val (.double dr), .second, .val (.double dd), .second, .val (.double dp), .second, .val (.double dw), .second, .val (.int (1 : Int32))] [(.int (1 : Int32))])) _
    refine XS.aloadN X7.here hx rfl (hb hby d_prog_70_method_1_code_33) rfl rfl ?_
    show Steps p.tables e below (T7.setTop (mkF m 34 #[.val (.ref a1), .val (.ref sa), .val (.double dl), .second, .val (.double dr), .second, .val (.double dd), .second, .val (.double dp), .second, .val (.double dw), .second, .val (.int (1 : Int32))] [(.ref sa), (.int (1 : Int32))])) _
    refine st8.trans ?_
    show Steps p.tables e below (T8.setTop (mkF m 37 #[.val (.ref a1), .val (.ref sa), .val (.double dl), .second, .val (.double dr), .second, .val (.double dd), .second, .val (.double dp), .second, .val (.double dw), .second, .val (.int (1 : Int32))] [(.int (1 : Int32)), (.int (1 : Int32))])) _
    refine XS.icmpYes X8.here hx rfl (pc0 := 37) (pc' := 72) rfl (hb hby d_prog_70_method_1_code_37) rfl (flt (by decide : ¬ ((1 : Int32) < (1 : Int32)))).2.1 (by decide) (by decide) ?_
    show Steps p.tables e below (T8.setTop (mkF m 72 #[.val (.ref a1), .val (.ref sa), .val (.double dl), .second, .val (.double dr), .second, .val (.double dd), .second, .val (.double dp), .second, .val (.double dw), .second, .val (.int (1 : Int32))] [])) _
    refine st9 _ ?_
    show Steps p.tables e below (T9.setTop (mkF m 74 #[.val (.ref a1), .val (.ref sa), .val (.double dl), .second, .val (.double dr), .second, .val (.double dd), .second, .val (.double dp), .second, .val (.double dw), .second, .val (.int (1 : Int32))] [(.ref a9)])) _
    refine XS.dloadN X9.here hx rfl (hb hby d_prog_70_method_1_code_74) rfl ?_
    show Steps p.tables e below (T9.setTop (mkF m 75 #[.val (.ref a1), .val (.ref sa), .val (.double dl), .second, .val (.double dr), .second, .val (.double dd), .second, .val (.double dp), .second, .val (.double dw), .second, .val (.int (1 : Int32))] [(.double dl), (.ref a9)])) _
    refine st10 _ ?_
    show Steps p.tables e below (T10.setTop (mkF m 78 #[.val (.ref a1), .val (.ref sa), .val (.double dl), .second, .val (.double dr), .second, .val (.double dd), .second, .val (.double dp), .second, .val (.double dw), .second, .val (.int (1 : Int32))] [(.double dl)])) _
    refine XS.dstoreN X10.here hx rfl (hb hby d_prog_70_method_1_code_78) rfl (l' := #[.val (.ref a1), .val (.ref sa), .val (.double dl), .second, .val (.double dr), .second, .val (.double dd), .second, .val (.double dp), .second, .val (.double dw), .second, .val (.int (1 : Int32))]) rfl ?_
    show Steps p.tables e below (T10.setTop (mkF m 79 #[.val (.ref a1), .val (.ref sa), .val (.double dl), .second, .val (.double dr), .second, .val (.double dd), .second, .val (.double dp), .second, .val (.double dw), .second, .val (.int (1 : Int32))] [])) _
    refine st11 _ ?_
    show Steps p.tables e below (T11.setTop (mkF m 81 #[.val (.ref a1), .val (.ref sa), .val (.double dl), .second, .val (.double dr), .second, .val (.double dd), .second, .val (.double dp), .second, .val (.double dw), .second, .val (.int (1 : Int32))] [(.ref a11)])) _
    refine XS.dload X11.here hx rfl (hb hby d_prog_70_method_1_code_81) rfl ?_
    show Steps p.tables e below (T11.setTop (mkF m 83 #[.val (.ref a1), .val (.ref sa), .val (.double dl), .second, .val (.double dr), .second, .val (.double dd), .second, .val (.double dp), .second, .val (.double dw), .second, .val (.int (1 : Int32))] [(.double dr), (.ref a11)])) _
    refine st12 _ ?_
    show Steps p.tables e below (T12.setTop (mkF m 86 #[.val (.ref a1), .val (.ref sa), .val (.double dl), .second, .val (.double dr), .second, .val (.double dd), .second, .val (.double dp), .second, .val (.double dw), .second, .val (.int (1 : Int32))] [(.double dr)])) _
    refine XS.dstore X12.here hx rfl (hb hby d_prog_70_method_1_code_86) rfl (l' := #[.val (.ref a1), .val (.ref sa), .val (.double dl), .second, .val (.double dr), .second, .val (.double dd), .second, .val (.double dp), .second, .val (.double dw), .second, .val (.int (1 : Int32))]) rfl ?_
    show Steps p.tables e below (T12.setTop (mkF m 88 #[.val (.ref a1), .val (.ref sa), .val (.double dl), .second, .val (.double dr), .second, .val (.double dd), .second, .val (.double dp), .second, .val (.double dw), .second, .val (.int (1 : Int32))] [])) _
    refine st13 _ ?_
    show Steps p.tables e below (T13.setTop (mkF m 90 #[.val (.ref a1), .val (.ref sa), .val (.double dl), .second, .val (.double dr), .second, .val (.double dd), .second, .val (.double dp), .second, .val (.double dw), .second, .val (.int (1 : Int32))] [(.ref a13)])) _
    refine XS.dload X13.here hx rfl (hb hby d_prog_70_method_1_code_90) rfl ?_
    show Steps p.tables e below (T13.setTop (mkF m 92 #[.val (.ref a1), .val (.ref sa), .val (.double dl), .second, .val (.double dr), .second, .val (.double dd), .second, .val (.double dp), .second, .val (.double dw), .second, .val (.int (1 : Int32))] [(.double dd), (.ref a13)])) _
    refine st14 _ ?_
    show Steps p.tables e below (T14.setTop (mkF m 95 #[.val (.ref a1), .val (.ref sa), .val (.double dl), .second, .val (.double dr), .second, .val (.double dd), .second, .val (.double dp), .second, .val (.double dw), .second, .val (.int (1 : Int32))] [(.double dd)])) _
    refine XS.dstore X14.here hx rfl (hb hby d_prog_70_method_1_code_95) rfl (l' := #[.val (.ref a1), .val (.ref sa), .val (.double dl), .second, .val (.double dr), .second, .val (.double dd), .second, .val (.double dp), .second, .val (.double dw), .second, .val (.int (1 : Int32))]) rfl ?_
    show Steps p.tables e below (T14.setTop (mkF m 97 #[.val (.ref a1), .val (.ref sa), .val (.double dl), .second, .val (.double dr), .second, .val (.double dd), .second, .val (.double dp), .second, .val (.double dw), .second, .val (.int (1 : Int32))] [])) _
    refine XS.dload X14.here hx rfl (hb hby d_prog_70_method_1_code_97) rfl ?_
    show Steps p.tables e below (T14.setTop (mkF m 99 #[.val (.ref a1), .val (.ref sa), .val (.double dl), .second, .val (.double dr), .second, .val (.double dd), .second, .val (.double dp), .second, .val (.double dw), .second, .val (.int (1 : Int32))] [(.double dd)])) _
    refine XS.dload X14.here hx rfl (hb hby d_prog_70_method_1_code_99) rfl ?_
    show Steps p.tables e below (T14.setTop (mkF m 101 #[.val (.ref a1), .val (.ref sa), .val (.double dl), .second, .val (.double dr), .second, .val (.double dd), .second, .val (.double dp), .second, .val (.double dw), .second, .val (.int (1 : Int32))] [(.double dr), (.double dd)])) _
    refine XS.dcmpS X14.here hx rfl (hb hby d_prog_70_method_1_code_101) rfl (v := (cmpValue (FP.dcmp dd dr) .l)) (rfl) ?_
    show Steps p.tables e below (T14.setTop (mkF m 102 #[.val (.ref a1), .val (.ref sa), .val (.double dl), .second, .val (.double dr), .second, .val (.double dd), .second, .val (.double dp), .second, .val (.double dw), .second, .val (.int (1 : Int32))] [(.int (cmpValue (FP.dcmp dd dr) .l))])) _
    refine XS.ifYes X14.here hx rfl (pc0 := 102) (pc' := 122) rfl (hb hby d_prog_70_method_1_code_102) rfl ((if0 _ _).trans (flt (hdr : ¬ ((0 : Int32) < (cmpValue (FP.dcmp dd dr) .l)))).2.2.2) (by decide) (by decide) ?_
    show Steps p.tables e below (T14.setTop (mkF m 122 #[.val (.ref a1), .val (.ref sa), .val (.double dl), .second, .val (.double dr), .second, .val (.double dd), .second, .val (.double dp), .second, .val (.double dw), .second, .val (.int (1 : Int32))] [])) _
    refine XS.dload X14.here hx rfl (hb hby d_prog_70_method_1_code_122) rfl ?_
    show Steps p.tables e below (T14.setTop (mkF m 124 #[.val (.ref a1), .val (.ref sa), .val (.double dl), .second, .val (.double dr), .second, .val (.double dd), .second, .val (.double dp), .second, .val (.double dw), .second, .val (.int (1 : Int32))] [(.double dp)])) _
    refine st15 _ ?_
    show Steps p.tables e below (T15.setTop (mkF m 127 #[.val (.ref a1), .val (.ref sa), .val (.double dl), .second, .val (.double dr), .second, .val (.double dd), .second, .val (.double dp), .second, .val (.double dw), .second, .val (.int (1 : Int32))] [(.int (0 : Int32))])) _
    refine XS.ifYes X15.here hx rfl (pc0 := 127) (pc' := 140) rfl (hb hby d_prog_70_method_1_code_127) rfl ((if0 _ _).trans (teq (by decide : (0 : Int32) = (0 : Int32))).1) (by decide) (by decide) ?_
    show Steps p.tables e below (T15.setTop (mkF m 140 #[.val (.ref a1), .val (.ref sa), .val (.double dl), .second, .val (.double dr), .second, .val (.double dd), .second, .val (.double dp), .second, .val (.double dw), .second, .val (.int (1 : Int32))] [])) _
    refine XS.dload X15.here hx rfl (hb hby d_prog_70_method_1_code_140) rfl ?_
    show Steps p.tables e below (T15.setTop (mkF m 142 #[.val (.ref a1), .val (.ref sa), .val (.double dl), .second, .val (.double dr), .second, .val (.double dd), .second, .val (.double dp), .second, .val (.double dw), .second, .val (.int (1 : Int32))] [(.double dp)])) _
    refine XS.dconst0 X15.here hx rfl (hb hby d_prog_70_method_1_code_142) (v := (0 : UInt64)) rfl ?_
    show Steps p.tables e below (T15.setTop (mkF m 143 #[.val (.ref a1), .val (.ref sa), .val (.double dl), .second, .val (.double dr), .second, .val (.double dd), .second, .val (.double dp), .second, .val (.double dw), .second, .val (.int (1 : Int32))] [(.double (0 : UInt64)), (.double dp)])) _
    refine XS.dcmpS X15.here hx rfl (hb hby d_prog_70_method_1_code_143) rfl (v := (cmpValue (FP.dcmp dp (0 : UInt64)) .g)) (rfl) ?_
    show Steps p.tables e below (T15.setTop (mkF m 144 #[.val (.ref a1), .val (.ref sa), .val (.double dl), .second, .val (.double dr), .second, .val (.double dd), .second, .val (.double dp), .second, .val (.double dw), .second, .val (.int (1 : Int32))] [(.int (cmpValue (FP.dcmp dp (0 : UInt64)) .g))])) _
    refine XS.ifYes X15.here hx rfl (pc0 := 144) (pc' := 162) rfl (hb hby d_prog_70_method_1_code_144) rfl ((if0 _ _).trans (flt (hp0 : ¬ ((cmpValue (FP.dcmp dp (0 : UInt64)) .g) < (0 : Int32)))).2.1) (by decide) (by decide) ?_
    show Steps p.tables e below (T15.setTop (mkF m 162 #[.val (.ref a1), .val (.ref sa), .val (.double dl), .second, .val (.double dr), .second, .val (.double dd), .second, .val (.double dp), .second, .val (.double dw), .second, .val (.int (1 : Int32))] [])) _
    refine st16 _ ?_
    show Steps p.tables e below (T16.setTop (mkF m 164 #[.val (.ref a1), .val (.ref sa), .val (.double dl), .second, .val (.double dr), .second, .val (.double dd), .second, .val (.double dp), .second, .val (.double dw), .second, .val (.int (1 : Int32))] [(.ref a16)])) _
    refine XS.dload X16.here hx rfl (hb hby d_prog_70_method_1_code_164) rfl ?_
    show Steps p.tables e below (T16.setTop (mkF m 166 #[.val (.ref a1), .val (.ref sa), .val (.double dl), .second, .val (.double dr), .second, .val (.double dd), .second, .val (.double dp), .second, .val (.double dw), .second, .val (.int (1 : Int32))] [(.double dw), (.ref a16)])) _
    refine st17 _ ?_
    show Steps p.tables e below (T17.setTop (mkF m 169 #[.val (.ref a1), .val (.ref sa), .val (.double dl), .second, .val (.double dr), .second, .val (.double dd), .second, .val (.double dp), .second, .val (.double dw), .second, .val (.int (1 : Int32))] [(.double dw)])) _
    refine XS.dstore X17.here hx rfl (hb hby d_prog_70_method_1_code_169) rfl (l' := #[.val (.ref a1), .val (.ref sa), .val (.double dl), .second, .val (.double dr), .second, .val (.double dd), .second, .val (.double dp), .second, .val (.double dw), .second, .val (.int (1 : Int32))]) rfl ?_
    show Steps p.tables e below (T17.setTop (mkF m 171 #[.val (.ref a1), .val (.ref sa), .val (.double dl), .second, .val (.double dr), .second, .val (.double dd), .second, .val (.double dp), .second, .val (.double dw), .second, .val (.int (1 : Int32))] [])) _
    refine XS.aloadN X17.here hx rfl (hb hby d_prog_70_method_1_code_171) rfl rfl ?_
    show Steps p.tables e below (T17.setTop (mkF m 172 #[.val (.ref a1), .val (.ref sa), .val (.double dl), .second, .val (.double dr), .second, .val (.double dd), .second, .val (.double dp), .second, .val (.double dw), .second, .val (.int (1 : Int32))] [(.ref a1)])) _
    refine XS.aloadN X17.here hx rfl (hb hby d_prog_70_method_1_code_172) rfl rfl ?_
    show Steps p.tables e below (T17.setTop (mkF m 173 #[.val (.ref a1), .val (.ref sa), .val (.double dl), .second, .val (.double dr), .second, .val (.double dd), .second, .val (.double dp), .second, .val (.double dw), .second, .val (.int (1 : Int32))] [(.ref sa), (.ref a1)])) _
    refine st18 _ ?_
    show Steps p.tables e below (T18.setTop (mkF m 176 #[.val (.ref a1), .val (.ref sa), .val (.double dl), .second, .val (.double dr), .second, .val (.double dd), .second, .val (.double dp), .second, .val (.double dw), .second, .val (.int (1 : Int32))] [])) _
    refine XS.aloadN X18.here hx rfl (hb hby d_prog_70_method_1_code_176) rfl rfl ?_
    show Steps p.tables e below (T18.setTop (mkF m 177 #[.val (.ref a1), .val (.ref sa), .val (.double dl), .second, .val (.double dr), .second, .val (.double dd), .second, .val (.double dp), .second, .val (.double dw), .second, .val (.int (1 : Int32))] [(.ref a1)])) _
    refine XS.dloadN X18.here hx rfl (hb hby d_prog_70_method_1_code_177) rfl ?_
    show Steps p.tables e below (T18.setTop (mkF m 178 #[.val (.ref a1), .val (.ref sa), .val (.double dl), .second, .val (.double dr), .second, .val (.double dd), .second, .val (.double dp), .second, .val (.double dw), .second, .val (.int (1 : Int32))] [(.double dl), (.ref a1)])) _
    refine st19 _ ?_
    show Steps p.tables e below (T19.setTop (mkF m 181 #[.val (.ref a1), .val (.ref sa), .val (.double dl), .second, .val (.double dr), .second, .val (.double dd), .second, .val (.double dp), .second, .val (.double dw), .second, .val (.int (1 : Int32))] [])) _
    refine XS.aloadN X19.here hx rfl (hb hby d_prog_70_method_1_code_181) rfl rfl ?_
    show Steps p.tables e below (T19.setTop (mkF m 182 #[.val (.ref a1), .val (.ref sa), .val (.double dl), .second, .val (.double dr), .second, .val (.double dd), .second, .val (.double dp), .second, .val (.double dw), .second, .val (.int (1 : Int32))] [(.ref a1)])) _
    refine XS.dload X19.here hx rfl (hb hby d_prog_70_method_1_code_182) rfl ?_
    show Steps p.tables e below (T19.setTop (mkF m 184 #[.val (.ref a1), .val (.ref sa), .val (.double dl), .second, .val (.double dr), .second, .val (.double dd), .second, .val (.double dp), .second, .val (.double dw), .second, .val (.int (1 : Int32))] [(.double dr), (.ref a1)])) _
    refine st20 _ ?_
    show Steps p.tables e below (T20.setTop (mkF m 187 #[.val (.ref a1), .val (.ref sa), .val (.double dl), .second, .val (.double dr), .second, .val (.double dd), .second, .val (.double dp), .second, .val (.double dw), .second, .val (.int (1 : Int32))] [])) _
    refine XS.aloadN X20.here hx rfl (hb hby d_prog_70_method_1_code_187) rfl rfl ?_
    show Steps p.tables e below (T20.setTop (mkF m 188 #[.val (.ref a1), .val (.ref sa), .val (.double dl), .second, .val (.double dr), .second, .val (.double dd), .second, .val (.double dp), .second, .val (.double dw), .second, .val (.int (1 : Int32))] [(.ref a1)])) _
    refine XS.dload X20.here hx rfl (hb hby d_prog_70_method_1_code_188) rfl ?_
    show Steps p.tables e below (T20.setTop (mkF m 190 #[.val (.ref a1), .val (.ref sa), .val (.double dl), .second, .val (.double dr), .second, .val (.double dd), .second, .val (.double dp), .second, .val (.double dw), .second, .val (.int (1 : Int32))] [(.double dd), (.ref a1)])) _
    refine st21 _ ?_
    show Steps p.tables e below (T21.setTop (mkF m 193 #[.val (.ref a1), .val (.ref sa), .val (.double dl), .second, .val (.double dr), .second, .val (.double dd), .second, .val (.double dp), .second, .val (.double dw), .second, .val (.int (1 : Int32))] [])) _
    refine XS.aloadN X21.here hx rfl (hb hby d_prog_70_method_1_code_193) rfl rfl ?_
    show Steps p.tables e below (T21.setTop (mkF m 194 #[.val (.ref a1), .val (.ref sa), .val (.double dl), .second, .val (.double dr), .second, .val (.double dd), .second, .val (.double dp), .second, .val (.double dw), .second, .val (.int (1 : Int32))] [(.ref a1)])) _
    refine XS.dload X21.here hx rfl (hb hby d_prog_70_method_1_code_194) rfl ?_
    show Steps p.tables e below (T21.setTop (mkF m 196 #[.val (.ref a1), .val (.ref sa), .val (.double dl), .second, .val (.double dr), .second, .val (.double dd), .second, .val (.double dp), .second, .val (.double dw), .second, .val (.int (1 : Int32))] [(.double dp), (.ref a1)])) _
    refine st22 _ ?_
    show Steps p.tables e below (T22.setTop (mkF m 199 #[.val (.ref a1), .val (.ref sa), .val (.double dl), .second, .val (.double dr), .second, .val (.double dd), .second, .val (.double dp), .second, .val (.double dw), .second, .val (.int (1 : Int32))] [])) _
    refine XS.aloadN X22.here hx rfl (hb hby d_prog_70_method_1_code_199) rfl rfl ?_
    show Steps p.tables e below (T22.setTop (mkF m 200 #[.val (.ref a1), .val (.ref sa), .val (.double dl), .second, .val (.double dr), .second, .val (.double dd), .second, .val (.double dp), .second, .val (.double dw), .second, .val (.int (1 : Int32))] [(.ref a1)])) _
    refine XS.dload X22.here hx rfl (hb hby d_prog_70_method_1_code_200) rfl ?_
    show Steps p.tables e below (T22.setTop (mkF m 202 #[.val (.ref a1), .val (.ref sa), .val (.double dl), .second, .val (.double dr), .second, .val (.double dd), .second, .val (.double dp), .second, .val (.double dw), .second, .val (.int (1 : Int32))] [(.double dw), (.ref a1)])) _
    refine st23 _ ?_
    show Steps p.tables e below (T23.setTop (mkF m 205 #[.val (.ref a1), .val (.ref sa), .val (.double dl), .second, .val (.double dr), .second, .val (.double dd), .second, .val (.double dp), .second, .val (.double dw), .second, .val (.int (1 : Int32))] [])) _
    exact X23.returnOut hx Bd.returns (hb hby d_prog_70_method_1_code_205) hr
  · show QI Z a1 sa dl dr dd dp dw h0 n0 _ T23.heap _
    rw [e23]
    exact ⟨rfl, N23, K23, c23_0, c23_1, c23_2, c23_3, c23_4, c23_5, c23_6⟩
theorem d_prog_70_method_2_code_0 : decode prog_70_method_2_code 0 = .ok (.aload_n 0, 1) := by decide +kernel
theorem d_prog_70_method_2_code_1 : decode prog_70_method_2_code 1 = .ok (.aload_n 1, 1) := by decide +kernel
theorem d_prog_70_method_2_code_2 : decode prog_70_method_2_code 2 = .ok (.dload_n 2, 1) := by decide +kernel
theorem d_prog_70_method_2_code_3 : decode prog_70_method_2_code 3 = .ok (.dload 4, 2) := by decide +kernel
theorem d_prog_70_method_2_code_5 : decode prog_70_method_2_code 5 = .ok (.dload 4, 2) := by decide +kernel
theorem d_prog_70_method_2_code_7 : decode prog_70_method_2_code 7 = .ok (.ldc2_w 89, 3) := by decide +kernel
theorem d_prog_70_method_2_code_10 : decode prog_70_method_2_code 10 = .ok (.dconst 1, 1) := by decide +kernel
theorem d_prog_70_method_2_code_11 : decode prog_70_method_2_code 11 = .ok (.invokespecial 91, 3) := by decide +kernel
theorem d_prog_70_method_2_code_14 : decode prog_70_method_2_code 14 = .ok (.return_, 1) := by decide +kernel
theorem pd__Ljava_lang_String_DDDDD_V : parseMethodDescriptor "(Ljava/lang/String;DDDDD)V" = some ⟨[(.object "java/lang/String"), .double, .double, .double, .double, .double], none⟩ := by decide +kernel
theorem ef_prog_70_method_2_code (m : MethodId) (x0 : Addr) (x1 : Addr) (x2 : UInt64) (x3 : UInt64) : entryFrame m #[(.ref x0), (.ref x1), (.double x2), (.double x3)] 6 = mkF m 0 #[.val (.ref x0), .val (.ref x1), .val (.double x2), .second, .val (.double x3), .second] [] := by first | (simp [entryFrame, mkF, argsToLocals, Value.category]; done) | rfl
set_option maxRecDepth 65536 in
set_option maxHeartbeats 40000000 in
theorem rm3 (l : Launch) (Z : State) (a0 : Array Value) (hw : ∀ d ∈ tables_1, d.before a0 Z = true) (ws : List Jvm.Cond) (a1 sa sb : Addr) (kb : ClassId) (cs : Int32) (fv : Value) (dl dr : UInt64) (h0 : Heap) (n0 : Nat) (Z0 : n0 ≤ h0.size) (E_a1 : Exa Z h0 a1 "com/example/itinerant/itinerant/requests/Request") (F_id : Fld Z h0 a1 "com/example/itinerant/itinerant/requests/Request" "id" "Ljava/lang/String;" .null) (F_location : Fld Z h0 a1 "com/example/itinerant/itinerant/requests/Request" "location" "D" (.double (0 : UInt64))) (F_release : Fld Z h0 a1 "com/example/itinerant/itinerant/requests/Request" "release" "D" (.double (0 : UInt64))) (F_disclosure : Fld Z h0 a1 "com/example/itinerant/itinerant/requests/Request" "disclosure" "D" (.double (0 : UInt64))) (F_penalty : Fld Z h0 a1 "com/example/itinerant/itinerant/requests/Request" "penalty" "D" (.double (0 : UInt64))) (F_weight : Fld Z h0 a1 "com/example/itinerant/itinerant/requests/Request" "weight" "D" (.double (0 : UInt64))) (g_a1 : n0 ≤ a1) (ES : Exa Z h0 sa "java/lang/String") (CS : Fld Z h0 sa "java/lang/String" "coder" "B" (.int (0 : Int32))) (VS : Fld Z h0 sa "java/lang/String" "value" "[B" (.ref sb)) (KS : Arv Z h0 sb kb .byte (1 : Int32) [(.int (114 : Int32))] (.int 0)) (S_c : Sta Z Z.heap "java/lang/String" "COMPACT_STRINGS" "Z" (.int cs)) (hcs : ¬ (cs = (0 : Int32))) (S_f : Sta Z Z.heap "jdk/internal/util/Preconditions" "SIOOBE_FORMATTER" "Ljava/util/function/BiFunction;" fv) (hfv : fv.isRef = true) (O0 : Old Z n0 h0) (hl : NonNeg dl) (hrl : NonNeg dr)  :
    MetFree l (⟨"com/example/itinerant/itinerant/requests/Request", "<init>", "(Ljava/lang/String;DD)V"⟩ : MethodName) (head1 (Jvm.Cond.code (⟨"com/example/itinerant/itinerant/requests/Request", "<init>", "(Ljava/lang/String;DD)V"⟩ : MethodName) prog_70_method_2_code 6 none :: ws) ({ frames := 5, cells := 10, slots := 152, locals := 77 } : Room)) (fun a U => a = #[(.ref a1), (.ref sa), (.double dl), (.double dr)] ∧ Z.Warmed39 U.vm ∧ U.heap = h0) (fun _ _ _ _ _ => True) (fun _ U o U' => ∃ v L, o = .returned v ∧ QI Z a1 sa dl dr dr (9218868437227405312 : UInt64) (4607182418800017408 : UInt64) h0 n0 v U'.heap L ∧ ReturnedEndW U o U' L ({ frames := 5, cells := 10, slots := 152, locals := 77 } : Room).cells ({ frames := 5, cells := 10, slots := 152, locals := 77 } : Room).slots) := by
  refine MetFree.of_bodySF (plainFor_of_name pn_com_example_itinerant_itinerant_requests_Request) hisR ?_
  intro p e s m args below meth c s₁ Bd hml0 hP hK
  obtain ⟨rfl, hZ, hh⟩ := hP
  have hx := Bd.exec
  have hby := Bd.bytes
  have hml : c.maxLocals = 6 := hml0
  have hown : s.vm.findClass "com/example/itinerant/itinerant/requests/Request" = some m.cls := findClass_of_methodNamed Bd.named
  have hnm := (name_of_methodNamed Bd.named Bd.method).1
  have X0 : Stand p l e ({ frames := 5, cells := 10, slots := 152, locals := 77 } : Room) (s.setVm s.vm) m #[(.ref a1), (.ref sa), (.double dl), (.double dr)] below meth c s₁ [] 0 0 := Stand.of_body Bd
  have e0 : s₁.heap = h0 := by rw [← hh, Bd.state]; rfl
  have N0 := Fr.nil n0
  have pre0 : ∀ t, Steps p.tables e below (s₁.setTop (mkF m 0 #[.val (.ref a1), .val (.ref sa), .val (.double dl), .second, .val (.double dr), .second] [])) t → Steps p.tables e below (s₁.setTop (entryFrame m #[(.ref a1), (.ref sa), (.double dl), (.double dr)] 6)) t := fun t k => castTop (ef_prog_70_method_2_code m a1 sa dl dr) k
  have K0 := Keep.refl h0 [a1]
  have hS0 : s.Since s.vm 0 := (State.WarmedH.refl s).since 0
  have hk0 : 0 ≤ h0.size := Nat.zero_le _
  have ne_sa : sa ≠ a1 := Exa.ne ES E_a1 (by decide)
  have ne_sb : sb ≠ a1 := Ne.symm (Exa.neArv E_a1 KS (hw _ (List.mem_of_getElem? (i := 2) rfl)))
  obtain ⟨_, _, ⟨T1, L1, k1, n1⟩, -, X1r, hS1r, hz1r, ⟨Lc1, hQ1, l1, y1, z1⟩, st1⟩ := X0.specialBackS hx (y := (⟨"com/example/itinerant/itinerant/requests/Request", "<init>", "(Ljava/lang/String;DDDDD)V"⟩ : MethodName)) rfl hown (mvT hZ (hw _ (List.mem_of_getElem? (i := 17) rfl))) (mvT hZ (hw _ (List.mem_of_getElem? (i := 18) rfl))) (mvT hZ (hw _ (List.mem_of_getElem? (i := 19) rfl))) (by decide) (backOfS (W := 0) (rm6 l Z a0 hw [] a1 sa sb kb cs fv dl dr dr (9218868437227405312 : UInt64) (4607182418800017408 : UInt64) h0 n0 Z0 E_a1 F_id F_location F_release F_disclosure F_penalty F_weight g_a1 ES CS VS KS S_c hcs S_f hfv O0 hl hrl hrl own_oneD own_infn (own_self _ hrl.1) own_inf0) hZ (hw _ (List.mem_of_getElem? (i := 19) rfl)) (hw _ (List.mem_of_getElem? (i := 3) rfl)) (by decide) (by decide)) (g := (mkF m 11 #[.val (.ref a1), .val (.ref sa), .val (.double dl), .second, .val (.double dr), .second] [(.double (4607182418800017408 : UInt64)), (.double (9218868437227405312 : UInt64)), (.double dr), (.double dr), (.double dl), (.ref sa), (.ref a1)])) rfl (by rw [hml]; rfl) (Steps.refl _) (a := a1) (argsL := [(.ref sa), (.double dl), (.double dr), (.double dr), (.double (9218868437227405312 : UInt64)), (.double (4607182418800017408 : UInt64))]) (rest := []) (lenOf pd__Ljava_lang_String_DDDDD_V rfl) rfl (by show 2 * 0 + _ ≤ _; exact Nat.le_of_eq rfl) (hb hby d_prog_70_method_2_code_11) (fun _ _ => ⟨rfl, e0, (by decide : 0 + 10 ≤ _), (by decide : 0 + 152 ≤ _)⟩)
  dsimp only [Pt.U, Pt.locs, Pt.cells, Pt.slots] at X1r hS1r hz1r l1 y1 z1 st1 hQ1
  subst l1 y1 z1
  obtain ⟨X1, hS1, hZ1, hown1⟩ := rebS hS0 (show _ ≤ s₁.heap.size from by rw [e0]; exact hk0) X1r hS1r hz1r hZ hown
  obtain ⟨rfl, N1q, K1q, E1q, F1q0, F1q1, F1q2, F1q3, F1q4, F1q5⟩ := hQ1
  have c1_0 := E_a1.keep K1q
  have c1_7 := ES.keep K1q
  have c1_8 := CS.keep K1q (by simp only [List.mem_cons, List.not_mem_nil, or_false, not_or]; exact ne_sa)
  have c1_9 := VS.keep K1q (by simp only [List.mem_cons, List.not_mem_nil, or_false, not_or]; exact ne_sa)
  have c1_10 := KS.keep K1q (by simp only [List.mem_cons, List.not_mem_nil, or_false, not_or]; exact ne_sb)
  have SZ1 := Nat.le_trans Z0 K1q.1
  have O1 := Old.keep O0 K1q (fun x hx => by simp only [List.mem_cons, List.not_mem_nil, or_false] at hx; subst hx; exact g_a1)
  have KK1 := K0.trans K1q (fun x hx => by simp only [List.mem_cons, List.not_mem_nil, or_false] at hx; subst hx; exact (Or.inl (List.mem_of_getElem? (i := 0) rfl)))
  have N1 := Fr.app N0 N1q
  obtain ⟨fs, hr, hrun, hended, hRW⟩ := X1.leaveW hS1 (show _ ≤ T1.heap.size from (Nat.le_refl _)) (v := none) (fun _ => rfl)
  refine ⟨_, _, pre0 _ ?_, hrun, hended, _, _, rfl, ?_, ⟨_, rfl⟩, hRW.2.1, hRW.2.2.1, hRW.2.2.2.mono (by decide) (by decide)⟩
  · show Steps p.tables e below (s₁.setTop (mkF m 0 #[.val (.ref a1), .val (.ref sa), .val (.double dl), .second, .val (.double dr), .second] [])) _
    refine XS.aloadN X0.here hx rfl (hb hby d_prog_70_method_2_code_0) rfl rfl ?_
    show Steps p.tables e below (s₁.setTop (mkF m 1 #[.val (.ref a1), .val (.ref sa), .val (.double dl), .second, .val (.double dr), .second] [(.ref a1)])) _
    refine XS.aloadN X0.here hx rfl (hb hby d_prog_70_method_2_code_1) rfl rfl ?_
    show Steps p.tables e below (s₁.setTop (mkF m 2 #[.val (.ref a1), .val (.ref sa), .val (.double dl), .second, .val (.double dr), .second] [(.ref sa), (.ref a1)])) _
    refine XS.dloadN X0.here hx rfl (hb hby d_prog_70_method_2_code_2) rfl ?_
    show Steps p.tables e below (s₁.setTop (mkF m 3 #[.val (.ref a1), .val (.ref sa), .val (.double dl), .second, .val (.double dr), .second] [(.double dl), (.ref sa), (.ref a1)])) _
    refine XS.dload X0.here hx rfl (hb hby d_prog_70_method_2_code_3) rfl ?_
    show Steps p.tables e below (s₁.setTop (mkF m 5 #[.val (.ref a1), .val (.ref sa), .val (.double dl), .second, .val (.double dr), .second] [(.double dr), (.double dl), (.ref sa), (.ref a1)])) _
    refine XS.dload X0.here hx rfl (hb hby d_prog_70_method_2_code_5) rfl ?_
    show Steps p.tables e below (s₁.setTop (mkF m 7 #[.val (.ref a1), .val (.ref sa), .val (.double dl), .second, .val (.double dr), .second] [(.double dr), (.double dr), (.double dl), (.ref sa), (.ref a1)])) _
    refine X0.ldc2DoubleC hx hown (mvT hZ (hw _ (List.mem_of_getElem? (i := 16) rfl))) (g := (mkF m 7 #[.val (.ref a1), .val (.ref sa), .val (.double dl), .second, .val (.double dr), .second] [(.double dr), (.double dr), (.double dl), (.ref sa), (.ref a1)])) rfl (hb hby d_prog_70_method_2_code_7) _ ?_
    show Steps p.tables e below (s₁.setTop (mkF m 10 #[.val (.ref a1), .val (.ref sa), .val (.double dl), .second, .val (.double dr), .second] [(.double (9218868437227405312 : UInt64)), (.double dr), (.double dr), (.double dl), (.ref sa), (.ref a1)])) _
    refine XS.dconst1 X0.here hx rfl (hb hby d_prog_70_method_2_code_10) (v := (4607182418800017408 : UInt64)) rfl ?_
    show Steps p.tables e below (s₁.setTop (mkF m 11 #[.val (.ref a1), .val (.ref sa), .val (.double dl), .second, .val (.double dr), .second] [(.double (4607182418800017408 : UInt64)), (.double (9218868437227405312 : UInt64)), (.double dr), (.double dr), (.double dl), (.ref sa), (.ref a1)])) _
    refine st1.trans ?_
    show Steps p.tables e below (T1.setTop (mkF m 14 #[.val (.ref a1), .val (.ref sa), .val (.double dl), .second, .val (.double dr), .second] [])) _
    exact X1.returnOut hx Bd.returns (hb hby d_prog_70_method_2_code_14) hr
  · show QI Z a1 sa dl dr dr (9218868437227405312 : UInt64) (4607182418800017408 : UInt64) h0 n0 _ T1.heap _
    exact ⟨rfl, N1, KK1, E1q, F1q0, F1q1, F1q2, F1q3, F1q4, F1q5⟩
def QW (Z : State) (dp : UInt64) (h0 : Heap) (n0 : Nat) (v : Option Value) (h : Heap) (L : List Loc) : Prop := ∃ b : Addr, v = some (.ref b) ∧ Fr n0 L ∧ n0 ≤ b ∧ Exa Z h b "com/example/itinerant/itinerant/requests/Request" ∧ Fld Z h b "com/example/itinerant/itinerant/requests/Request" "penalty" "D" (.double dp)
theorem d_prog_70_method_4_code_0 : decode prog_70_method_4_code 0 = .ok (.new 49, 3) := by decide +kernel
theorem d_prog_70_method_4_code_3 : decode prog_70_method_4_code 3 = .ok (.dup, 1) := by decide +kernel
theorem d_prog_70_method_4_code_4 : decode prog_70_method_4_code 4 = .ok (.aload_n 0, 1) := by decide +kernel
theorem d_prog_70_method_4_code_5 : decode prog_70_method_4_code 5 = .ok (.getfield 74, 3) := by decide +kernel
theorem d_prog_70_method_4_code_8 : decode prog_70_method_4_code 8 = .ok (.aload_n 0, 1) := by decide +kernel
theorem d_prog_70_method_4_code_9 : decode prog_70_method_4_code 9 = .ok (.getfield 77, 3) := by decide +kernel
theorem d_prog_70_method_4_code_12 : decode prog_70_method_4_code 12 = .ok (.aload_n 0, 1) := by decide +kernel
theorem d_prog_70_method_4_code_13 : decode prog_70_method_4_code 13 = .ok (.getfield 80, 3) := by decide +kernel
theorem d_prog_70_method_4_code_16 : decode prog_70_method_4_code 16 = .ok (.aload_n 0, 1) := by decide +kernel
theorem d_prog_70_method_4_code_17 : decode prog_70_method_4_code 17 = .ok (.getfield 82, 3) := by decide +kernel
theorem d_prog_70_method_4_code_20 : decode prog_70_method_4_code 20 = .ok (.dload_n 1, 1) := by decide +kernel
theorem d_prog_70_method_4_code_21 : decode prog_70_method_4_code 21 = .ok (.aload_n 0, 1) := by decide +kernel
theorem d_prog_70_method_4_code_22 : decode prog_70_method_4_code 22 = .ok (.getfield 87, 3) := by decide +kernel
theorem d_prog_70_method_4_code_25 : decode prog_70_method_4_code 25 = .ok (.invokespecial 91, 3) := by decide +kernel
theorem d_prog_70_method_4_code_28 : decode prog_70_method_4_code 28 = .ok (.areturn, 1) := by decide +kernel
theorem ef_prog_70_method_4_code (m : MethodId) (x0 : Addr) (x1 : UInt64) : entryFrame m #[(.ref x0), (.double x1)] 3 = mkF m 0 #[.val (.ref x0), .val (.double x1), .second] [] := by first | (simp [entryFrame, mkF, argsToLocals, Value.category]; done) | rfl
set_option maxRecDepth 65536 in
set_option maxHeartbeats 40000000 in
theorem rmW (l : Launch) (Z : State) (a0 : Array Value) (hw : ∀ d ∈ tables_1, d.before a0 Z = true) (ws : List Jvm.Cond) (a1 sa sb : Addr) (kb : ClassId) (cs : Int32) (fv : Value) (dl dr dp : UInt64) (h0 : Heap) (n0 : Nat) (Z0 : n0 ≤ h0.size) (E_a1 : Exa Z h0 a1 "com/example/itinerant/itinerant/requests/Request") (F_id : Fld Z h0 a1 "com/example/itinerant/itinerant/requests/Request" "id" "Ljava/lang/String;" (.ref sa)) (F_location : Fld Z h0 a1 "com/example/itinerant/itinerant/requests/Request" "location" "D" (.double dl)) (F_release : Fld Z h0 a1 "com/example/itinerant/itinerant/requests/Request" "release" "D" (.double dr)) (F_disclosure : Fld Z h0 a1 "com/example/itinerant/itinerant/requests/Request" "disclosure" "D" (.double dr)) (F_penalty : Fld Z h0 a1 "com/example/itinerant/itinerant/requests/Request" "penalty" "D" (.double (9218868437227405312 : UInt64))) (F_weight : Fld Z h0 a1 "com/example/itinerant/itinerant/requests/Request" "weight" "D" (.double (4607182418800017408 : UInt64))) (ES : Exa Z h0 sa "java/lang/String") (CS : Fld Z h0 sa "java/lang/String" "coder" "B" (.int (0 : Int32))) (VS : Fld Z h0 sa "java/lang/String" "value" "[B" (.ref sb)) (KS : Arv Z h0 sb kb .byte (1 : Int32) [(.int (114 : Int32))] (.int 0)) (S_c : Sta Z Z.heap "java/lang/String" "COMPACT_STRINGS" "Z" (.int cs)) (hcs : ¬ (cs = (0 : Int32))) (S_f : Sta Z Z.heap "jdk/internal/util/Preconditions" "SIOOBE_FORMATTER" "Ljava/util/function/BiFunction;" fv) (hfv : fv.isRef = true) (O0 : Old Z n0 h0) (hl : NonNeg dl) (hrl : NonNeg dr) (hpn : Jvm.Free.Fl.NoNaN64 dp) (hp0 : ¬ (cmpValue (FP.dcmp dp (0 : UInt64)) .g < (0 : Int32)))  :
    MetFree l (⟨"com/example/itinerant/itinerant/requests/Request", "withPenalty", "(D)Lcom/example/itinerant/itinerant/requests/Request;"⟩ : MethodName) (head1 (Jvm.Cond.code (⟨"com/example/itinerant/itinerant/requests/Request", "withPenalty", "(D)Lcom/example/itinerant/itinerant/requests/Request;"⟩ : MethodName) prog_70_method_4_code 3 (some (.object "com/example/itinerant/itinerant/requests/Request")) :: ws) ({ frames := 5, cells := 11, slots := 158, locals := 78 } : Room)) (fun a U => a = #[(.ref a1), (.double dp)] ∧ Z.Warmed39 U.vm ∧ U.heap = h0) (fun _ _ _ _ _ => True) (fun _ U o U' => ∃ v L, o = .returned v ∧ QW Z dp h0 n0 v U'.heap L ∧ ReturnedEndW U o U' L ({ frames := 5, cells := 11, slots := 158, locals := 78 } : Room).cells ({ frames := 5, cells := 11, slots := 158, locals := 78 } : Room).slots) := by
  refine MetFree.of_bodySF (plainFor_of_name pn_com_example_itinerant_itinerant_requests_Request) hisR ?_
  intro p e s m args below meth c s₁ Bd hml0 hP hK
  obtain ⟨rfl, hZ, hh⟩ := hP
  have hx := Bd.exec
  have hby := Bd.bytes
  have hml : c.maxLocals = 3 := hml0
  have hown : s.vm.findClass "com/example/itinerant/itinerant/requests/Request" = some m.cls := findClass_of_methodNamed Bd.named
  have hnm := (name_of_methodNamed Bd.named Bd.method).1
  have X0 : Stand p l e ({ frames := 5, cells := 11, slots := 158, locals := 78 } : Room) (s.setVm s.vm) m #[(.ref a1), (.double dp)] below meth c s₁ [] 0 0 := Stand.of_body Bd
  have e0 : s₁.heap = h0 := by rw [← hh, Bd.state]; rfl
  have N0 := Fr.nil n0
  have pre0 : ∀ t, Steps p.tables e below (s₁.setTop (mkF m 0 #[.val (.ref a1), .val (.double dp), .second] [])) t → Steps p.tables e below (s₁.setTop (entryFrame m #[(.ref a1), (.double dp)] 3)) t := fun t k => castTop (ef_prog_70_method_4_code m a1 dp) k
  have K0 := Keep.refl h0 []
  have hS0 : s.Since s.vm 0 := (State.WarmedH.refl s).since 0
  have hk0 : 0 ≤ h0.size := Nat.zero_le _
  obtain ⟨T1, h1, X1, e1, E1, A1, D1, -, st1⟩ := newO X0 hx hZ hown (hw _ (List.mem_of_getElem? (i := 121) rfl)) (hw _ (List.mem_of_getElem? (i := 2) rfl)) (hw _ (List.mem_of_getElem? (i := 3) rfl)) e0 (g := (mkF m 0 #[.val (.ref a1), .val (.double dp), .second] [])) rfl (hb hby d_prog_70_method_4_code_0) (by decide) (by decide)
  obtain ⟨nb, g1⟩ : ∃ z, z = h0.size := ⟨_, rfl⟩
  rw [← g1] at A1 D1 st1
  have g_nb : n0 ≤ nb := Nat.le_trans Z0 (Nat.le_of_eq g1.symm)
  have sz_nb : h0.size ≤ nb := Nat.le_trans K0.1 (Nat.le_of_eq g1.symm)
  have ne_a1_nb : a1 ≠ nb := Nat.ne_of_lt (Nat.lt_of_lt_of_le E_a1.lt (Nat.le_of_eq g1.symm))
  have ne_sa_nb : sa ≠ nb := Nat.ne_of_lt (Nat.lt_of_lt_of_le ES.lt (Nat.le_of_eq g1.symm))
  have ne_sb_nb : sb ≠ nb := Nat.ne_of_lt (Nat.lt_of_lt_of_le KS.lt (Nat.le_of_eq g1.symm))
  have c1_0 := E_a1.ext E1
  have c1_1 := F_id.ext E1
  have c1_2 := F_location.ext E1
  have c1_3 := F_release.ext E1
  have c1_4 := F_disclosure.ext E1
  have c1_5 := F_penalty.ext E1
  have c1_6 := F_weight.ext E1
  have c1_7 := ES.ext E1
  have c1_8 := CS.ext E1
  have c1_9 := VS.ext E1
  have c1_10 := KS.ext E1
  have SZ1 := Nat.le_trans Z0 E1.1
  have K1 := K0.ext E1
  have hk1 := Nat.le_trans hk0 E1.1
  have O1 := Old.ext O0 E1
  have F1_id : Fld Z h1 nb "com/example/itinerant/itinerant/requests/Request" "id" "Ljava/lang/String;" .null := D1 (Or.inr (hw _ (List.mem_of_getElem? (i := 100) rfl))) (ty := (.object "java/lang/String")) (by decide)
  have F1_location : Fld Z h1 nb "com/example/itinerant/itinerant/requests/Request" "location" "D" (.double (0 : UInt64)) := D1 (Or.inr (hw _ (List.mem_of_getElem? (i := 102) rfl))) (ty := .double) (by decide)
  have F1_release : Fld Z h1 nb "com/example/itinerant/itinerant/requests/Request" "release" "D" (.double (0 : UInt64)) := D1 (Or.inr (hw _ (List.mem_of_getElem? (i := 104) rfl))) (ty := .double) (by decide)
  have F1_disclosure : Fld Z h1 nb "com/example/itinerant/itinerant/requests/Request" "disclosure" "D" (.double (0 : UInt64)) := D1 (Or.inr (hw _ (List.mem_of_getElem? (i := 106) rfl))) (ty := .double) (by decide)
  have F1_penalty : Fld Z h1 nb "com/example/itinerant/itinerant/requests/Request" "penalty" "D" (.double (0 : UInt64)) := D1 (Or.inr (hw _ (List.mem_of_getElem? (i := 108) rfl))) (ty := .double) (by decide)
  have F1_weight : Fld Z h1 nb "com/example/itinerant/itinerant/requests/Request" "weight" "D" (.double (0 : UInt64)) := D1 (Or.inr (hw _ (List.mem_of_getElem? (i := 110) rfl))) (ty := .double) (by decide)
  obtain ⟨T2, X2, e2, st2⟩ := getF X1 hx hZ hown (host := "") (Or.inl (hw _ (List.mem_of_getElem? (i := 99) rfl))) Via.refl e1 c1_1 (g := (mkF m 5 #[.val (.ref a1), .val (.double dp), .second] [(.ref a1), (.ref nb), (.ref nb)])) rfl rfl (hb hby d_prog_70_method_4_code_5)
  obtain ⟨T3, X3, e3, st3⟩ := getF X2 hx hZ hown (host := "") (Or.inl (hw _ (List.mem_of_getElem? (i := 101) rfl))) Via.refl e2 c1_2 (g := (mkF m 9 #[.val (.ref a1), .val (.double dp), .second] [(.ref a1), (.ref sa), (.ref nb), (.ref nb)])) rfl rfl (hb hby d_prog_70_method_4_code_9)
  obtain ⟨T4, X4, e4, st4⟩ := getF X3 hx hZ hown (host := "") (Or.inl (hw _ (List.mem_of_getElem? (i := 103) rfl))) Via.refl e3 c1_3 (g := (mkF m 13 #[.val (.ref a1), .val (.double dp), .second] [(.ref a1), (.double dl), (.ref sa), (.ref nb), (.ref nb)])) rfl rfl (hb hby d_prog_70_method_4_code_13)
  obtain ⟨T5, X5, e5, st5⟩ := getF X4 hx hZ hown (host := "") (Or.inl (hw _ (List.mem_of_getElem? (i := 105) rfl))) Via.refl e4 c1_4 (g := (mkF m 17 #[.val (.ref a1), .val (.double dp), .second] [(.ref a1), (.double dr), (.double dl), (.ref sa), (.ref nb), (.ref nb)])) rfl rfl (hb hby d_prog_70_method_4_code_17)
  obtain ⟨T6, X6, e6, st6⟩ := getF X5 hx hZ hown (host := "") (Or.inl (hw _ (List.mem_of_getElem? (i := 109) rfl))) Via.refl e5 c1_6 (g := (mkF m 22 #[.val (.ref a1), .val (.double dp), .second] [(.ref a1), (.double dp), (.double dr), (.double dr), (.double dl), (.ref sa), (.ref nb), (.ref nb)])) rfl rfl (hb hby d_prog_70_method_4_code_22)
  obtain ⟨_, _, ⟨T7, L7, k7, n7⟩, -, X7r, hS7r, hz7r, ⟨Lc7, hQ7, l7, y7, z7⟩, st7⟩ := X6.specialBackS hx (y := (⟨"com/example/itinerant/itinerant/requests/Request", "<init>", "(Ljava/lang/String;DDDDD)V"⟩ : MethodName)) rfl hown (mvT hZ (hw _ (List.mem_of_getElem? (i := 17) rfl))) (mvT hZ (hw _ (List.mem_of_getElem? (i := 18) rfl))) (mvT hZ (hw _ (List.mem_of_getElem? (i := 19) rfl))) (by decide) (backOfS (W := 1) (rm6 l Z a0 hw [] nb sa sb kb cs fv dl dr dr dp (4607182418800017408 : UInt64) h1 n0 SZ1 A1 F1_id F1_location F1_release F1_disclosure F1_penalty F1_weight g_nb c1_7 c1_8 c1_9 c1_10 S_c hcs S_f hfv O1 hl hrl hrl own_oneD hpn (own_self _ hrl.1) hp0) hZ (hw _ (List.mem_of_getElem? (i := 19) rfl)) (hw _ (List.mem_of_getElem? (i := 3) rfl)) (by decide) (by decide)) (g := (mkF m 25 #[.val (.ref a1), .val (.double dp), .second] [(.double (4607182418800017408 : UInt64)), (.double dp), (.double dr), (.double dr), (.double dl), (.ref sa), (.ref nb), (.ref nb)])) rfl (by rw [hml]; rfl) (Steps.refl _) (a := nb) (argsL := [(.ref sa), (.double dl), (.double dr), (.double dr), (.double dp), (.double (4607182418800017408 : UInt64))]) (rest := [(.ref nb)]) (lenOf pd__Ljava_lang_String_DDDDD_V rfl) rfl (by show 2 * 0 + _ ≤ _; exact Nat.le_of_eq rfl) (hb hby d_prog_70_method_4_code_25) (fun _ _ => ⟨rfl, e6, (by decide : 1 + 10 ≤ _), (by decide : 6 + 152 ≤ _)⟩)
  dsimp only [Pt.U, Pt.locs, Pt.cells, Pt.slots] at X7r hS7r hz7r l7 y7 z7 st7 hQ7
  subst l7 y7 z7
  obtain ⟨X7, hS7, hZ7, hown7⟩ := rebS hS0 (show _ ≤ T6.heap.size from by rw [e6]; exact hk1) X7r hS7r hz7r hZ hown
  obtain ⟨rfl, N7q, K7q, E7q, F7q0, F7q1, F7q2, F7q3, F7q4, F7q5⟩ := hQ7
  have c7_0 := c1_0.keep K7q
  have c7_1 := c1_1.keep K7q (by simp only [List.mem_cons, List.not_mem_nil, or_false, not_or]; exact ne_a1_nb)
  have c7_2 := c1_2.keep K7q (by simp only [List.mem_cons, List.not_mem_nil, or_false, not_or]; exact ne_a1_nb)
  have c7_3 := c1_3.keep K7q (by simp only [List.mem_cons, List.not_mem_nil, or_false, not_or]; exact ne_a1_nb)
  have c7_4 := c1_4.keep K7q (by simp only [List.mem_cons, List.not_mem_nil, or_false, not_or]; exact ne_a1_nb)
  have c7_5 := c1_5.keep K7q (by simp only [List.mem_cons, List.not_mem_nil, or_false, not_or]; exact ne_a1_nb)
  have c7_6 := c1_6.keep K7q (by simp only [List.mem_cons, List.not_mem_nil, or_false, not_or]; exact ne_a1_nb)
  have c7_7 := c1_7.keep K7q
  have c7_8 := c1_8.keep K7q (by simp only [List.mem_cons, List.not_mem_nil, or_false, not_or]; exact ne_sa_nb)
  have c7_9 := c1_9.keep K7q (by simp only [List.mem_cons, List.not_mem_nil, or_false, not_or]; exact ne_sa_nb)
  have c7_10 := c1_10.keep K7q (by simp only [List.mem_cons, List.not_mem_nil, or_false, not_or]; exact ne_sb_nb)
  have c7_11 := A1.keep K7q
  have SZ7 := Nat.le_trans SZ1 K7q.1
  have O7 := Old.keep O1 K7q (fun x hx => by simp only [List.mem_cons, List.not_mem_nil, or_false] at hx; subst hx; exact g_nb)
  have KK7 := K1.trans K7q (fun x hx => by simp only [List.mem_cons, List.not_mem_nil, or_false] at hx; subst hx; exact (Or.inr sz_nb))
  have N7 := Fr.app N0 N7q
  obtain ⟨fs, hr, hrun, hended, hRW⟩ := X7.leaveW hS7 (show _ ≤ T7.heap.size from (Nat.le_refl _)) (v := some (.ref nb)) (fun h => by rw [Bd.returns] at h; cases h)
  refine ⟨_, _, pre0 _ ?_, hrun, hended, _, _, rfl, ?_, ⟨_, rfl⟩, hRW.2.1, hRW.2.2.1, hRW.2.2.2.mono (by decide) (by decide)⟩
  · show Steps p.tables e below (s₁.setTop (mkF m 0 #[.val (.ref a1), .val (.double dp), .second] [])) _
    refine st1 _ ?_
    show Steps p.tables e below (T1.setTop (mkF m 3 #[.val (.ref a1), .val (.double dp), .second] [(.ref nb)])) _
    refine XS.dup X1.here hx rfl (hb hby d_prog_70_method_4_code_3) rfl rfl ?_
    show Steps p.tables e below (T1.setTop (mkF m 4 #[.val (.ref a1), .val (.double dp), .second] [(.ref nb), (.ref nb)])) _
    refine XS.aloadN X1.here hx rfl (hb hby d_prog_70_method_4_code_4) rfl rfl ?_
    show Steps p.tables e below (T1.setTop (mkF m 5 #[.val (.ref a1), .val (.double dp), .second] [(.ref a1), (.ref nb), (.ref nb)])) _
    refine st2 _ ?_
    show Steps p.tables e below (T2.setTop (mkF m 8 #[.val (.ref a1), .val (.double dp), .second] [(.ref sa), (.ref nb), (.ref nb)])) _
    refine XS.aloadN X2.here hx rfl (hb hby d_prog_70_method_4_code_8) rfl rfl ?_
    show Steps p.tables e below (T2.setTop (mkF m 9 #[.val (.ref a1), .val (.double dp), .second] [(.ref a1), (.ref sa), (.ref nb), (.ref nb)])) _
    refine st3 _ ?_
    show Steps p.tables e below (T3.setTop (mkF m 12 #[.val (.ref a1), .val (.double dp), .second] [(.double dl), (.ref sa), (.ref nb), (.ref nb)])) _
    refine XS.aloadN X3.here hx rfl (hb hby d_prog_70_method_4_code_12) rfl rfl ?_
    show Steps p.tables e below (T3.setTop (mkF m 13 #[.val (.ref a1), .val (.double dp), .second] [(.ref a1), (.double dl), (.ref sa), (.ref nb), (.ref nb)])) _
    refine st4 _ ?_
    show Steps p.tables e below (T4.setTop (mkF m 16 #[.val (.ref a1), .val (.double dp), .second] [(.double dr), (.double dl), (.ref sa), (.ref nb), (.ref nb)])) _
    refine XS.aloadN X4.here hx rfl (hb hby d_prog_70_method_4_code_16) rfl rfl ?_
    show Steps p.tables e below (T4.setTop (mkF m 17 #[.val (.ref a1), .val (.double dp), .second] [(.ref a1), (.double dr), (.double dl), (.ref sa), (.ref nb), (.ref nb)])) _
    refine st5 _ ?_
    show Steps p.tables e below (T5.setTop (mkF m 20 #[.val (.ref a1), .val (.double dp), .second] [(.double dr), (.double dr), (.double dl), (.ref sa), (.ref nb), (.ref nb)])) _
    refine XS.dloadN X5.here hx rfl (hb hby d_prog_70_method_4_code_20) rfl ?_
    show Steps p.tables e below (T5.setTop (mkF m 21 #[.val (.ref a1), .val (.double dp), .second] [(.double dp), (.double dr), (.double dr), (.double dl), (.ref sa), (.ref nb), (.ref nb)])) _
    refine XS.aloadN X5.here hx rfl (hb hby d_prog_70_method_4_code_21) rfl rfl ?_
    show Steps p.tables e below (T5.setTop (mkF m 22 #[.val (.ref a1), .val (.double dp), .second] [(.ref a1), (.double dp), (.double dr), (.double dr), (.double dl), (.ref sa), (.ref nb), (.ref nb)])) _
    refine st6 _ ?_
    show Steps p.tables e below (T6.setTop (mkF m 25 #[.val (.ref a1), .val (.double dp), .second] [(.double (4607182418800017408 : UInt64)), (.double dp), (.double dr), (.double dr), (.double dl), (.ref sa), (.ref nb), (.ref nb)])) _
    refine st7.trans ?_
    show Steps p.tables e below (T7.setTop (mkF m 28 #[.val (.ref a1), .val (.double dp), .second] [(.ref nb)])) _
    exact retOut X7 hx (t := (.object "com/example/itinerant/itinerant/requests/Request")) Bd.returns rfl (Or.inr (Or.inr (Or.inr (Or.inr ⟨rfl, rfl, rfl⟩)))) (hb hby d_prog_70_method_4_code_28) hr
  · show QW Z dp h0 n0 _ T7.heap _
    exact ⟨nb, rfl, N7, g_nb, E7q, F7q4⟩
theorem pn_com_example_itinerant_itinerant_requests_RequestMustBeServedPinLaw : plainName "com/example/itinerant/itinerant/requests/RequestMustBeServedPinLaw" = true := by first | (simp [plainName, overriddenIn]; done) | decide +kernel
set_option maxRecDepth 65536 in
set_option maxHeartbeats 40000000 in
theorem pa1 {p : Program} {l : Launch} {e : Env} {R : Room} {s : State} {m : MethodId} {args : Array Value} {below : List Frame} {meth : Method} {c : Code} {T0 : State} {locs : List Loc} {cells slots : Nat} {Z : State} {a0 : Array Value} (pf : Int32) (pm : Int64) (pl pr : Int32) (d1 d2 d4 d8 d16 : UInt64) (sl : Int32)
    (X0 : Stand p l e R s m args below meth c T0 locs cells slots) (hx : p.tables.exec = Jvm.exec) (hZ : Z.Warmed39 s.vm) (hw : ∀ d ∈ tables_1, d.before a0 Z = true) (hby : c.code = code) (hown : s.vm.findClass "com/example/itinerant/itinerant/requests/RequestMustBeServedPinLaw" = some m.cls) (h1 : FP.l2d (pm &&& (9223372036854775807 : Int64)) = d1) (h2 : FP.dmul d1 d1 = d2) (h4 : FP.dmul d2 d2 = d4) (h8 : FP.dmul d4 d4 = d8) (h16 : FP.dmul d8 d8 = d16) (hm2 : Jvm.Free.Fl.NoNaN64 (FP.dmul d1 d1)) (hm4 : Jvm.Free.Fl.NoNaN64 (FP.dmul d2 d2)) (hm8 : Jvm.Free.Fl.NoNaN64 (FP.dmul d4 d4)) (hm16 : Jvm.Free.Fl.NoNaN64 (FP.dmul d8 d8)) (hsl : (((pf.toUInt32 >>> ((1 : Int32) &&& 31).toUInt32).toInt32) &&& (7 : Int32)) = sl) (hc3 : ¬ ((pf &&& (1 : Int32)) = (0 : Int32))) {target : State}
    (k : Steps p.tables e below (T0.setTop (mkF m 57 #[.val (.int pf), .val (.long pm), .second, .val (.int pl), .val (.int pr), .val (.int (1 : Int32)), .val (.int sl), .val (.double d1), .second, .val (.double d2), .second, .val (.double d4), .second, .val (.double d8), .second, .val (.double d16), .second, .unset, .unset, .unset, .unset] [])) target) : Steps p.tables e below (T0.setTop (mkF m 0 #[.val (.int pf), .val (.long pm), .second, .val (.int pl), .val (.int pr), .unset, .unset, .unset, .unset, .unset, .unset, .unset, .unset, .unset, .unset, .unset, .unset, .unset, .unset, .unset, .unset] [])) target := by
  show Steps p.tables e below (T0.setTop (mkF m 0 #[.val (.int pf), .val (.long pm), .second, .val (.int pl), .val (.int pr), .unset, .unset, .unset, .unset, .unset, .unset, .unset, .unset, .unset, .unset, .unset, .unset, .unset, .unset, .unset, .unset] [])) _
  refine XS.iloadN X0.here hx rfl (hb hby at_0) rfl ?_
  show Steps p.tables e below (T0.setTop (mkF m 1 #[.val (.int pf), .val (.long pm), .second, .val (.int pl), .val (.int pr), .unset, .unset, .unset, .unset, .unset, .unset, .unset, .unset, .unset, .unset, .unset, .unset, .unset, .unset, .unset, .unset] [(.int pf)])) _
  refine XS.iconst X0.here hx rfl (hb hby at_1) ?_
  show Steps p.tables e below (T0.setTop (mkF m 2 #[.val (.int pf), .val (.long pm), .second, .val (.int pl), .val (.int pr), .unset, .unset, .unset, .unset, .unset, .unset, .unset, .unset, .unset, .unset, .unset, .unset, .unset, .unset, .unset, .unset] [(.int (1 : Int32)), (.int pf)])) _
  refine XS.iand X0.here hx rfl (hb hby at_2) rfl ?_
  show Steps p.tables e below (T0.setTop (mkF m 3 #[.val (.int pf), .val (.long pm), .second, .val (.int pl), .val (.int pr), .unset, .unset, .unset, .unset, .unset, .unset, .unset, .unset, .unset, .unset, .unset, .unset, .unset, .unset, .unset, .unset] [(.int (pf &&& (1 : Int32)))])) _
  refine XS.ifNo X0.here hx rfl (hb hby at_3) rfl ((if0 _ _).trans (feq (hc3 : ¬ ((pf &&& (1 : Int32)) = (0 : Int32)))).1) ?_
  show Steps p.tables e below (T0.setTop (mkF m 6 #[.val (.int pf), .val (.long pm), .second, .val (.int pl), .val (.int pr), .unset, .unset, .unset, .unset, .unset, .unset, .unset, .unset, .unset, .unset, .unset, .unset, .unset, .unset, .unset, .unset] [])) _
  refine XS.iconst X0.here hx rfl (hb hby at_6) ?_
  show Steps p.tables e below (T0.setTop (mkF m 7 #[.val (.int pf), .val (.long pm), .second, .val (.int pl), .val (.int pr), .unset, .unset, .unset, .unset, .unset, .unset, .unset, .unset, .unset, .unset, .unset, .unset, .unset, .unset, .unset, .unset] [(.int (1 : Int32))])) _
  refine XS.goto X0.here hx rfl (pc0 := 7) (pc' := 11) rfl (hb hby at_7) (by decide) (by decide) ?_
  show Steps p.tables e below (T0.setTop (mkF m 11 #[.val (.int pf), .val (.long pm), .second, .val (.int pl), .val (.int pr), .unset, .unset, .unset, .unset, .unset, .unset, .unset, .unset, .unset, .unset, .unset, .unset, .unset, .unset, .unset, .unset] [(.int (1 : Int32))])) _
  refine XS.istore X0.here hx rfl (hb hby at_11) rfl (l' := #[.val (.int pf), .val (.long pm), .second, .val (.int pl), .val (.int pr), .val (.int (1 : Int32)), .unset, .unset, .unset, .unset, .unset, .unset, .unset, .unset, .unset, .unset, .unset, .unset, .unset, .unset, .unset]) rfl ?_
  show Steps p.tables e below (T0.setTop (mkF m 13 #[.val (.int pf), .val (.long pm), .second, .val (.int pl), .val (.int pr), .val (.int (1 : Int32)), .unset, .unset, .unset, .unset, .unset, .unset, .unset, .unset, .unset, .unset, .unset, .unset, .unset, .unset, .unset] [])) _
  refine XS.iloadN X0.here hx rfl (hb hby at_13) rfl ?_
  show Steps p.tables e below (T0.setTop (mkF m 14 #[.val (.int pf), .val (.long pm), .second, .val (.int pl), .val (.int pr), .val (.int (1 : Int32)), .unset, .unset, .unset, .unset, .unset, .unset, .unset, .unset, .unset, .unset, .unset, .unset, .unset, .unset, .unset] [(.int pf)])) _
  refine XS.iconst X0.here hx rfl (hb hby at_14) ?_
  show Steps p.tables e below (T0.setTop (mkF m 15 #[.val (.int pf), .val (.long pm), .second, .val (.int pl), .val (.int pr), .val (.int (1 : Int32)), .unset, .unset, .unset, .unset, .unset, .unset, .unset, .unset, .unset, .unset, .unset, .unset, .unset, .unset, .unset] [(.int (1 : Int32)), (.int pf)])) _
  refine XS.iushr X0.here hx rfl (hb hby at_15) rfl ?_
  show Steps p.tables e below (T0.setTop (mkF m 16 #[.val (.int pf), .val (.long pm), .second, .val (.int pl), .val (.int pr), .val (.int (1 : Int32)), .unset, .unset, .unset, .unset, .unset, .unset, .unset, .unset, .unset, .unset, .unset, .unset, .unset, .unset, .unset] [(.int ((pf.toUInt32 >>> ((1 : Int32) &&& 31).toUInt32).toInt32))])) _
  refine XS.bipush X0.here hx rfl (hb hby at_16) ?_
  show Steps p.tables e below (T0.setTop (mkF m 18 #[.val (.int pf), .val (.long pm), .second, .val (.int pl), .val (.int pr), .val (.int (1 : Int32)), .unset, .unset, .unset, .unset, .unset, .unset, .unset, .unset, .unset, .unset, .unset, .unset, .unset, .unset, .unset] [(.int (7 : Int32)), (.int ((pf.toUInt32 >>> ((1 : Int32) &&& 31).toUInt32).toInt32))])) _
  refine XS.iand X0.here hx rfl (hb hby at_18) rfl ?_
  show Steps p.tables e below (T0.setTop (mkF m 19 #[.val (.int pf), .val (.long pm), .second, .val (.int pl), .val (.int pr), .val (.int (1 : Int32)), .unset, .unset, .unset, .unset, .unset, .unset, .unset, .unset, .unset, .unset, .unset, .unset, .unset, .unset, .unset] [(.int (((pf.toUInt32 >>> ((1 : Int32) &&& 31).toUInt32).toInt32) &&& (7 : Int32)))])) _
  rw [show (((pf.toUInt32 >>> ((1 : Int32) &&& 31).toUInt32).toInt32) &&& (7 : Int32)) = sl from hsl]
  show Steps p.tables e below (T0.setTop (mkF m 19 #[.val (.int pf), .val (.long pm), .second, .val (.int pl), .val (.int pr), .val (.int (1 : Int32)), .unset, .unset, .unset, .unset, .unset, .unset, .unset, .unset, .unset, .unset, .unset, .unset, .unset, .unset, .unset] [(.int sl)])) _
  refine XS.istore X0.here hx rfl (hb hby at_19) rfl (l' := #[.val (.int pf), .val (.long pm), .second, .val (.int pl), .val (.int pr), .val (.int (1 : Int32)), .val (.int sl), .unset, .unset, .unset, .unset, .unset, .unset, .unset, .unset, .unset, .unset, .unset, .unset, .unset, .unset]) rfl ?_
  show Steps p.tables e below (T0.setTop (mkF m 21 #[.val (.int pf), .val (.long pm), .second, .val (.int pl), .val (.int pr), .val (.int (1 : Int32)), .val (.int sl), .unset, .unset, .unset, .unset, .unset, .unset, .unset, .unset, .unset, .unset, .unset, .unset, .unset, .unset] [])) _
  refine XS.lloadN X0.here hx rfl (hb hby at_21) rfl ?_
  show Steps p.tables e below (T0.setTop (mkF m 22 #[.val (.int pf), .val (.long pm), .second, .val (.int pl), .val (.int pr), .val (.int (1 : Int32)), .val (.int sl), .unset, .unset, .unset, .unset, .unset, .unset, .unset, .unset, .unset, .unset, .unset, .unset, .unset, .unset] [(.long pm)])) _
  refine X0.ldc2Long hx hown (mvT hZ (hw _ (List.mem_of_getElem? (i := 0) rfl))) (g := (mkF m 22 #[.val (.int pf), .val (.long pm), .second, .val (.int pl), .val (.int pr), .val (.int (1 : Int32)), .val (.int sl), .unset, .unset, .unset, .unset, .unset, .unset, .unset, .unset, .unset, .unset, .unset, .unset, .unset, .unset] [(.long pm)])) rfl (hb hby at_22) _ ?_
  show Steps p.tables e below (T0.setTop (mkF m 25 #[.val (.int pf), .val (.long pm), .second, .val (.int pl), .val (.int pr), .val (.int (1 : Int32)), .val (.int sl), .unset, .unset, .unset, .unset, .unset, .unset, .unset, .unset, .unset, .unset, .unset, .unset, .unset, .unset] [(.long (9223372036854775807 : Int64)), (.long pm)])) _
  refine XS.land X0.here hx rfl (hb hby at_25) rfl ?_
  show Steps p.tables e below (T0.setTop (mkF m 26 #[.val (.int pf), .val (.long pm), .second, .val (.int pl), .val (.int pr), .val (.int (1 : Int32)), .val (.int sl), .unset, .unset, .unset, .unset, .unset, .unset, .unset, .unset, .unset, .unset, .unset, .unset, .unset, .unset] [(.long (pm &&& (9223372036854775807 : Int64)))])) _
  refine XS.l2dS X0.here hx rfl (hb hby at_26) rfl (v := d1) (h1) ?_
  show Steps p.tables e below (T0.setTop (mkF m 27 #[.val (.int pf), .val (.long pm), .second, .val (.int pl), .val (.int pr), .val (.int (1 : Int32)), .val (.int sl), .unset, .unset, .unset, .unset, .unset, .unset, .unset, .unset, .unset, .unset, .unset, .unset, .unset, .unset] [(.double d1)])) _
  refine XS.dstore X0.here hx rfl (hb hby at_27) rfl (l' := #[.val (.int pf), .val (.long pm), .second, .val (.int pl), .val (.int pr), .val (.int (1 : Int32)), .val (.int sl), .val (.double d1), .second, .unset, .unset, .unset, .unset, .unset, .unset, .unset, .unset, .unset, .unset, .unset, .unset]) rfl ?_
  show Steps p.tables e below (T0.setTop (mkF m 29 #[.val (.int pf), .val (.long pm), .second, .val (.int pl), .val (.int pr), .val (.int (1 : Int32)), .val (.int sl), .val (.double d1), .second, .unset, .unset, .unset, .unset, .unset, .unset, .unset, .unset, .unset, .unset, .unset, .unset] [])) _
  refine XS.dload X0.here hx rfl (hb hby at_29) rfl ?_
  show Steps p.tables e below (T0.setTop (mkF m 31 #[.val (.int pf), .val (.long pm), .second, .val (.int pl), .val (.int pr), .val (.int (1 : Int32)), .val (.int sl), .val (.double d1), .second, .unset, .unset, .unset, .unset, .unset, .unset, .unset, .unset, .unset, .unset, .unset, .unset] [(.double d1)])) _
  refine XS.dload X0.here hx rfl (hb hby at_31) rfl ?_
  show Steps p.tables e below (T0.setTop (mkF m 33 #[.val (.int pf), .val (.long pm), .second, .val (.int pl), .val (.int pr), .val (.int (1 : Int32)), .val (.int sl), .val (.double d1), .second, .unset, .unset, .unset, .unset, .unset, .unset, .unset, .unset, .unset, .unset, .unset, .unset] [(.double d1), (.double d1)])) _
  refine XS.dmulS X0.here hx rfl (hb hby at_33) rfl hm2 (v := d2) (h2) ?_
  show Steps p.tables e below (T0.setTop (mkF m 34 #[.val (.int pf), .val (.long pm), .second, .val (.int pl), .val (.int pr), .val (.int (1 : Int32)), .val (.int sl), .val (.double d1), .second, .unset, .unset, .unset, .unset, .unset, .unset, .unset, .unset, .unset, .unset, .unset, .unset] [(.double d2)])) _
  refine XS.dstore X0.here hx rfl (hb hby at_34) rfl (l' := #[.val (.int pf), .val (.long pm), .second, .val (.int pl), .val (.int pr), .val (.int (1 : Int32)), .val (.int sl), .val (.double d1), .second, .val (.double d2), .second, .unset, .unset, .unset, .unset, .unset, .unset, .unset, .unset, .unset, .unset]) rfl ?_
  show Steps p.tables e below (T0.setTop (mkF m 36 #[.val (.int pf), .val (.long pm), .second, .val (.int pl), .val (.int pr), .val (.int (1 : Int32)), .val (.int sl), .val (.double d1), .second, .val (.double d2), .second, .unset, .unset, .unset, .unset, .unset, .unset, .unset, .unset, .unset, .unset] [])) _
  refine XS.dload X0.here hx rfl (hb hby at_36) rfl ?_
  show Steps p.tables e below (T0.setTop (mkF m 38 #[.val (.int pf), .val (.long pm), .second, .val (.int pl), .val (.int pr), .val (.int (1 : Int32)), .val (.int sl), .val (.double d1), .second, .val (.double d2), .second, .unset, .unset, .unset, .unset, .unset, .unset, .unset, .unset, .unset, .unset] [(.double d2)])) _
  refine XS.dload X0.here hx rfl (hb hby at_38) rfl ?_
  show Steps p.tables e below (T0.setTop (mkF m 40 #[.val (.int pf), .val (.long pm), .second, .val (.int pl), .val (.int pr), .val (.int (1 : Int32)), .val (.int sl), .val (.double d1), .second, .val (.double d2), .second, .unset, .unset, .unset, .unset, .unset, .unset, .unset, .unset, .unset, .unset] [(.double d2), (.double d2)])) _
  refine XS.dmulS X0.here hx rfl (hb hby at_40) rfl hm4 (v := d4) (h4) ?_
  show Steps p.tables e below (T0.setTop (mkF m 41 #[.val (.int pf), .val (.long pm), .second, .val (.int pl), .val (.int pr), .val (.int (1 : Int32)), .val (.int sl), .val (.double d1), .second, .val (.double d2), .second, .unset, .unset, .unset, .unset, .unset, .unset, .unset, .unset, .unset, .unset] [(.double d4)])) _
  refine XS.dstore X0.here hx rfl (hb hby at_41) rfl (l' := #[.val (.int pf), .val (.long pm), .second, .val (.int pl), .val (.int pr), .val (.int (1 : Int32)), .val (.int sl), .val (.double d1), .second, .val (.double d2), .second, .val (.double d4), .second, .unset, .unset, .unset, .unset, .unset, .unset, .unset, .unset]) rfl ?_
  show Steps p.tables e below (T0.setTop (mkF m 43 #[.val (.int pf), .val (.long pm), .second, .val (.int pl), .val (.int pr), .val (.int (1 : Int32)), .val (.int sl), .val (.double d1), .second, .val (.double d2), .second, .val (.double d4), .second, .unset, .unset, .unset, .unset, .unset, .unset, .unset, .unset] [])) _
  refine XS.dload X0.here hx rfl (hb hby at_43) rfl ?_
  show Steps p.tables e below (T0.setTop (mkF m 45 #[.val (.int pf), .val (.long pm), .second, .val (.int pl), .val (.int pr), .val (.int (1 : Int32)), .val (.int sl), .val (.double d1), .second, .val (.double d2), .second, .val (.double d4), .second, .unset, .unset, .unset, .unset, .unset, .unset, .unset, .unset] [(.double d4)])) _
  refine XS.dload X0.here hx rfl (hb hby at_45) rfl ?_
  show Steps p.tables e below (T0.setTop (mkF m 47 #[.val (.int pf), .val (.long pm), .second, .val (.int pl), .val (.int pr), .val (.int (1 : Int32)), .val (.int sl), .val (.double d1), .second, .val (.double d2), .second, .val (.double d4), .second, .unset, .unset, .unset, .unset, .unset, .unset, .unset, .unset] [(.double d4), (.double d4)])) _
  refine XS.dmulS X0.here hx rfl (hb hby at_47) rfl hm8 (v := d8) (h8) ?_
  show Steps p.tables e below (T0.setTop (mkF m 48 #[.val (.int pf), .val (.long pm), .second, .val (.int pl), .val (.int pr), .val (.int (1 : Int32)), .val (.int sl), .val (.double d1), .second, .val (.double d2), .second, .val (.double d4), .second, .unset, .unset, .unset, .unset, .unset, .unset, .unset, .unset] [(.double d8)])) _
  refine XS.dstore X0.here hx rfl (hb hby at_48) rfl (l' := #[.val (.int pf), .val (.long pm), .second, .val (.int pl), .val (.int pr), .val (.int (1 : Int32)), .val (.int sl), .val (.double d1), .second, .val (.double d2), .second, .val (.double d4), .second, .val (.double d8), .second, .unset, .unset, .unset, .unset, .unset, .unset]) rfl ?_
  show Steps p.tables e below (T0.setTop (mkF m 50 #[.val (.int pf), .val (.long pm), .second, .val (.int pl), .val (.int pr), .val (.int (1 : Int32)), .val (.int sl), .val (.double d1), .second, .val (.double d2), .second, .val (.double d4), .second, .val (.double d8), .second, .unset, .unset, .unset, .unset, .unset, .unset] [])) _
  refine XS.dload X0.here hx rfl (hb hby at_50) rfl ?_
  show Steps p.tables e below (T0.setTop (mkF m 52 #[.val (.int pf), .val (.long pm), .second, .val (.int pl), .val (.int pr), .val (.int (1 : Int32)), .val (.int sl), .val (.double d1), .second, .val (.double d2), .second, .val (.double d4), .second, .val (.double d8), .second, .unset, .unset, .unset, .unset, .unset, .unset] [(.double d8)])) _
  refine XS.dload X0.here hx rfl (hb hby at_52) rfl ?_
  show Steps p.tables e below (T0.setTop (mkF m 54 #[.val (.int pf), .val (.long pm), .second, .val (.int pl), .val (.int pr), .val (.int (1 : Int32)), .val (.int sl), .val (.double d1), .second, .val (.double d2), .second, .val (.double d4), .second, .val (.double d8), .second, .unset, .unset, .unset, .unset, .unset, .unset] [(.double d8), (.double d8)])) _
  refine XS.dmulS X0.here hx rfl (hb hby at_54) rfl hm16 (v := d16) (h16) ?_
  show Steps p.tables e below (T0.setTop (mkF m 55 #[.val (.int pf), .val (.long pm), .second, .val (.int pl), .val (.int pr), .val (.int (1 : Int32)), .val (.int sl), .val (.double d1), .second, .val (.double d2), .second, .val (.double d4), .second, .val (.double d8), .second, .unset, .unset, .unset, .unset, .unset, .unset] [(.double d16)])) _
  refine XS.dstore X0.here hx rfl (hb hby at_55) rfl (l' := #[.val (.int pf), .val (.long pm), .second, .val (.int pl), .val (.int pr), .val (.int (1 : Int32)), .val (.int sl), .val (.double d1), .second, .val (.double d2), .second, .val (.double d4), .second, .val (.double d8), .second, .val (.double d16), .second, .unset, .unset, .unset, .unset]) rfl ?_
  show Steps p.tables e below (T0.setTop (mkF m 57 #[.val (.int pf), .val (.long pm), .second, .val (.int pl), .val (.int pr), .val (.int (1 : Int32)), .val (.int sl), .val (.double d1), .second, .val (.double d2), .second, .val (.double d4), .second, .val (.double d8), .second, .val (.double d16), .second, .unset, .unset, .unset, .unset] [])) _
  exact k
set_option maxRecDepth 65536 in
set_option maxHeartbeats 40000000 in
theorem pa0 {p : Program} {l : Launch} {e : Env} {R : Room} {s : State} {m : MethodId} {args : Array Value} {below : List Frame} {meth : Method} {c : Code} {T0 : State} {locs : List Loc} {cells slots : Nat} {Z : State} {a0 : Array Value} (pf : Int32) (pm : Int64) (pl pr : Int32) (d1 d2 d4 d8 d16 : UInt64) (sl : Int32)
    (X0 : Stand p l e R s m args below meth c T0 locs cells slots) (hx : p.tables.exec = Jvm.exec) (hZ : Z.Warmed39 s.vm) (hw : ∀ d ∈ tables_1, d.before a0 Z = true) (hby : c.code = code) (hown : s.vm.findClass "com/example/itinerant/itinerant/requests/RequestMustBeServedPinLaw" = some m.cls) (h1 : FP.l2d (pm &&& (9223372036854775807 : Int64)) = d1) (h2 : FP.dmul d1 d1 = d2) (h4 : FP.dmul d2 d2 = d4) (h8 : FP.dmul d4 d4 = d8) (h16 : FP.dmul d8 d8 = d16) (hm2 : Jvm.Free.Fl.NoNaN64 (FP.dmul d1 d1)) (hm4 : Jvm.Free.Fl.NoNaN64 (FP.dmul d2 d2)) (hm8 : Jvm.Free.Fl.NoNaN64 (FP.dmul d4 d4)) (hm16 : Jvm.Free.Fl.NoNaN64 (FP.dmul d8 d8)) (hsl : (((pf.toUInt32 >>> ((1 : Int32) &&& 31).toUInt32).toInt32) &&& (7 : Int32)) = sl) (hc3 : (pf &&& (1 : Int32)) = (0 : Int32)) {target : State}
    (k : Steps p.tables e below (T0.setTop (mkF m 57 #[.val (.int pf), .val (.long pm), .second, .val (.int pl), .val (.int pr), .val (.int (0 : Int32)), .val (.int sl), .val (.double d1), .second, .val (.double d2), .second, .val (.double d4), .second, .val (.double d8), .second, .val (.double d16), .second, .unset, .unset, .unset, .unset] [])) target) : Steps p.tables e below (T0.setTop (mkF m 0 #[.val (.int pf), .val (.long pm), .second, .val (.int pl), .val (.int pr), .unset, .unset, .unset, .unset, .unset, .unset, .unset, .unset, .unset, .unset, .unset, .unset, .unset, .unset, .unset, .unset] [])) target := by
  show Steps p.tables e below (T0.setTop (mkF m 0 #[.val (.int pf), .val (.long pm), .second, .val (.int pl), .val (.int pr), .unset, .unset, .unset, .unset, .unset, .unset, .unset, .unset, .unset, .unset, .unset, .unset, .unset, .unset, .unset, .unset] [])) _
  refine XS.iloadN X0.here hx rfl (hb hby at_0) rfl ?_
  show Steps p.tables e below (T0.setTop (mkF m 1 #[.val (.int pf), .val (.long pm), .second, .val (.int pl), .val (.int pr), .unset, .unset, .unset, .unset, .unset, .unset, .unset, .unset, .unset, .unset, .unset, .unset, .unset, .unset, .unset, .unset] [(.int pf)])) _
  refine XS.iconst X0.here hx rfl (hb hby at_1) ?_
  show Steps p.tables e below (T0.setTop (mkF m 2 #[.val (.int pf), .val (.long pm), .second, .val (.int pl), .val (.int pr), .unset, .unset, .unset, .unset, .unset, .unset, .unset, .unset, .unset, .unset, .unset, .unset, .unset, .unset, .unset, .unset] [(.int (1 : Int32)), (.int pf)])) _
  refine XS.iand X0.here hx rfl (hb hby at_2) rfl ?_
  show Steps p.tables e below (T0.setTop (mkF m 3 #[.val (.int pf), .val (.long pm), .second, .val (.int pl), .val (.int pr), .unset, .unset, .unset, .unset, .unset, .unset, .unset, .unset, .unset, .unset, .unset, .unset, .unset, .unset, .unset, .unset] [(.int (pf &&& (1 : Int32)))])) _
  refine XS.ifYes X0.here hx rfl (pc0 := 3) (pc' := 10) rfl (hb hby at_3) rfl ((if0 _ _).trans (teq (hc3 : (pf &&& (1 : Int32)) = (0 : Int32))).1) (by decide) (by decide) ?_
  show Steps p.tables e below (T0.setTop (mkF m 10 #[.val (.int pf), .val (.long pm), .second, .val (.int pl), .val (.int pr), .unset, .unset, .unset, .unset, .unset, .unset, .unset, .unset, .unset, .unset, .unset, .unset, .unset, .unset, .unset, .unset] [])) _
  refine XS.iconst X0.here hx rfl (hb hby at_10) ?_
  show Steps p.tables e below (T0.setTop (mkF m 11 #[.val (.int pf), .val (.long pm), .second, .val (.int pl), .val (.int pr), .unset, .unset, .unset, .unset, .unset, .unset, .unset, .unset, .unset, .unset, .unset, .unset, .unset, .unset, .unset, .unset] [(.int (0 : Int32))])) _
  refine XS.istore X0.here hx rfl (hb hby at_11) rfl (l' := #[.val (.int pf), .val (.long pm), .second, .val (.int pl), .val (.int pr), .val (.int (0 : Int32)), .unset, .unset, .unset, .unset, .unset, .unset, .unset, .unset, .unset, .unset, .unset, .unset, .unset, .unset, .unset]) rfl ?_
  show Steps p.tables e below (T0.setTop (mkF m 13 #[.val (.int pf), .val (.long pm), .second, .val (.int pl), .val (.int pr), .val (.int (0 : Int32)), .unset, .unset, .unset, .unset, .unset, .unset, .unset, .unset, .unset, .unset, .unset, .unset, .unset, .unset, .unset] [])) _
  refine XS.iloadN X0.here hx rfl (hb hby at_13) rfl ?_
  show Steps p.tables e below (T0.setTop (mkF m 14 #[.val (.int pf), .val (.long pm), .second, .val (.int pl), .val (.int pr), .val (.int (0 : Int32)), .unset, .unset, .unset, .unset, .unset, .unset, .unset, .unset, .unset, .unset, .unset, .unset, .unset, .unset, .unset] [(.int pf)])) _
  refine XS.iconst X0.here hx rfl (hb hby at_14) ?_
  show Steps p.tables e below (T0.setTop (mkF m 15 #[.val (.int pf), .val (.long pm), .second, .val (.int pl), .val (.int pr), .val (.int (0 : Int32)), .unset, .unset, .unset, .unset, .unset, .unset, .unset, .unset, .unset, .unset, .unset, .unset, .unset, .unset, .unset] [(.int (1 : Int32)), (.int pf)])) _
  refine XS.iushr X0.here hx rfl (hb hby at_15) rfl ?_
  show Steps p.tables e below (T0.setTop (mkF m 16 #[.val (.int pf), .val (.long pm), .second, .val (.int pl), .val (.int pr), .val (.int (0 : Int32)), .unset, .unset, .unset, .unset, .unset, .unset, .unset, .unset, .unset, .unset, .unset, .unset, .unset, .unset, .unset] [(.int ((pf.toUInt32 >>> ((1 : Int32) &&& 31).toUInt32).toInt32))])) _
  refine XS.bipush X0.here hx rfl (hb hby at_16) ?_
  show Steps p.tables e below (T0.setTop (mkF m 18 #[.val (.int pf), .val (.long pm), .second, .val (.int pl), .val (.int pr), .val (.int (0 : Int32)), .unset, .unset, .unset, .unset, .unset, .unset, .unset, .unset, .unset, .unset, .unset, .unset, .unset, .unset, .unset] [(.int (7 : Int32)), (.int ((pf.toUInt32 >>> ((1 : Int32) &&& 31).toUInt32).toInt32))])) _
  refine XS.iand X0.here hx rfl (hb hby at_18) rfl ?_
  show Steps p.tables e below (T0.setTop (mkF m 19 #[.val (.int pf), .val (.long pm), .second, .val (.int pl), .val (.int pr), .val (.int (0 : Int32)), .unset, .unset, .unset, .unset, .unset, .unset, .unset, .unset, .unset, .unset, .unset, .unset, .unset, .unset, .unset] [(.int (((pf.toUInt32 >>> ((1 : Int32) &&& 31).toUInt32).toInt32) &&& (7 : Int32)))])) _
  rw [show (((pf.toUInt32 >>> ((1 : Int32) &&& 31).toUInt32).toInt32) &&& (7 : Int32)) = sl from hsl]
  show Steps p.tables e below (T0.setTop (mkF m 19 #[.val (.int pf), .val (.long pm), .second, .val (.int pl), .val (.int pr), .val (.int (0 : Int32)), .unset, .unset, .unset, .unset, .unset, .unset, .unset, .unset, .unset, .unset, .unset, .unset, .unset, .unset, .unset] [(.int sl)])) _
  refine XS.istore X0.here hx rfl (hb hby at_19) rfl (l' := #[.val (.int pf), .val (.long pm), .second, .val (.int pl), .val (.int pr), .val (.int (0 : Int32)), .val (.int sl), .unset, .unset, .unset, .unset, .unset, .unset, .unset, .unset, .unset, .unset, .unset, .unset, .unset, .unset]) rfl ?_
  show Steps p.tables e below (T0.setTop (mkF m 21 #[.val (.int pf), .val (.long pm), .second, .val (.int pl), .val (.int pr), .val (.int (0 : Int32)), .val (.int sl), .unset, .unset, .unset, .unset, .unset, .unset, .unset, .unset, .unset, .unset, .unset, .unset, .unset, .unset] [])) _
  refine XS.lloadN X0.here hx rfl (hb hby at_21) rfl ?_
  show Steps p.tables e below (T0.setTop (mkF m 22 #[.val (.int pf), .val (.long pm), .second, .val (.int pl), .val (.int pr), .val (.int (0 : Int32)), .val (.int sl), .unset, .unset, .unset, .unset, .unset, .unset, .unset, .unset, .unset, .unset, .unset, .unset, .unset, .unset] [(.long pm)])) _
  refine X0.ldc2Long hx hown (mvT hZ (hw _ (List.mem_of_getElem? (i := 0) rfl))) (g := (mkF m 22 #[.val (.int pf), .val (.long pm), .second, .val (.int pl), .val (.int pr), .val (.int (0 : Int32)), .val (.int sl), .unset, .unset, .unset, .unset, .unset, .unset, .unset, .unset, .unset, .unset, .unset, .unset, .unset, .unset] [(.long pm)])) rfl (hb hby at_22) _ ?_
  show Steps p.tables e below (T0.setTop (mkF m 25 #[.val (.int pf), .val (.long pm), .second, .val (.int pl), .val (.int pr), .val (.int (0 : Int32)), .val (.int sl), .unset, .unset, .unset, .unset, .unset, .unset, .unset, .unset, .unset, .unset, .unset, .unset, .unset, .unset] [(.long (9223372036854775807 : Int64)), (.long pm)])) _
  refine XS.land X0.here hx rfl (hb hby at_25) rfl ?_
  show Steps p.tables e below (T0.setTop (mkF m 26 #[.val (.int pf), .val (.long pm), .second, .val (.int pl), .val (.int pr), .val (.int (0 : Int32)), .val (.int sl), .unset, .unset, .unset, .unset, .unset, .unset, .unset, .unset, .unset, .unset, .unset, .unset, .unset, .unset] [(.long (pm &&& (9223372036854775807 : Int64)))])) _
  refine XS.l2dS X0.here hx rfl (hb hby at_26) rfl (v := d1) (h1) ?_
  show Steps p.tables e below (T0.setTop (mkF m 27 #[.val (.int pf), .val (.long pm), .second, .val (.int pl), .val (.int pr), .val (.int (0 : Int32)), .val (.int sl), .unset, .unset, .unset, .unset, .unset, .unset, .unset, .unset, .unset, .unset, .unset, .unset, .unset, .unset] [(.double d1)])) _
  refine XS.dstore X0.here hx rfl (hb hby at_27) rfl (l' := #[.val (.int pf), .val (.long pm), .second, .val (.int pl), .val (.int pr), .val (.int (0 : Int32)), .val (.int sl), .val (.double d1), .second, .unset, .unset, .unset, .unset, .unset, .unset, .unset, .unset, .unset, .unset, .unset, .unset]) rfl ?_
  show Steps p.tables e below (T0.setTop (mkF m 29 #[.val (.int pf), .val (.long pm), .second, .val (.int pl), .val (.int pr), .val (.int (0 : Int32)), .val (.int sl), .val (.double d1), .second, .unset, .unset, .unset, .unset, .unset, .unset, .unset, .unset, .unset, .unset, .unset, .unset] [])) _
  refine XS.dload X0.here hx rfl (hb hby at_29) rfl ?_
  show Steps p.tables e below (T0.setTop (mkF m 31 #[.val (.int pf), .val (.long pm), .second, .val (.int pl), .val (.int pr), .val (.int (0 : Int32)), .val (.int sl), .val (.double d1), .second, .unset, .unset, .unset, .unset, .unset, .unset, .unset, .unset, .unset, .unset, .unset, .unset] [(.double d1)])) _
  refine XS.dload X0.here hx rfl (hb hby at_31) rfl ?_
  show Steps p.tables e below (T0.setTop (mkF m 33 #[.val (.int pf), .val (.long pm), .second, .val (.int pl), .val (.int pr), .val (.int (0 : Int32)), .val (.int sl), .val (.double d1), .second, .unset, .unset, .unset, .unset, .unset, .unset, .unset, .unset, .unset, .unset, .unset, .unset] [(.double d1), (.double d1)])) _
  refine XS.dmulS X0.here hx rfl (hb hby at_33) rfl hm2 (v := d2) (h2) ?_
  show Steps p.tables e below (T0.setTop (mkF m 34 #[.val (.int pf), .val (.long pm), .second, .val (.int pl), .val (.int pr), .val (.int (0 : Int32)), .val (.int sl), .val (.double d1), .second, .unset, .unset, .unset, .unset, .unset, .unset, .unset, .unset, .unset, .unset, .unset, .unset] [(.double d2)])) _
  refine XS.dstore X0.here hx rfl (hb hby at_34) rfl (l' := #[.val (.int pf), .val (.long pm), .second, .val (.int pl), .val (.int pr), .val (.int (0 : Int32)), .val (.int sl), .val (.double d1), .second, .val (.double d2), .second, .unset, .unset, .unset, .unset, .unset, .unset, .unset, .unset, .unset, .unset]) rfl ?_
  show Steps p.tables e below (T0.setTop (mkF m 36 #[.val (.int pf), .val (.long pm), .second, .val (.int pl), .val (.int pr), .val (.int (0 : Int32)), .val (.int sl), .val (.double d1), .second, .val (.double d2), .second, .unset, .unset, .unset, .unset, .unset, .unset, .unset, .unset, .unset, .unset] [])) _
  refine XS.dload X0.here hx rfl (hb hby at_36) rfl ?_
  show Steps p.tables e below (T0.setTop (mkF m 38 #[.val (.int pf), .val (.long pm), .second, .val (.int pl), .val (.int pr), .val (.int (0 : Int32)), .val (.int sl), .val (.double d1), .second, .val (.double d2), .second, .unset, .unset, .unset, .unset, .unset, .unset, .unset, .unset, .unset, .unset] [(.double d2)])) _
  refine XS.dload X0.here hx rfl (hb hby at_38) rfl ?_
  show Steps p.tables e below (T0.setTop (mkF m 40 #[.val (.int pf), .val (.long pm), .second, .val (.int pl), .val (.int pr), .val (.int (0 : Int32)), .val (.int sl), .val (.double d1), .second, .val (.double d2), .second, .unset, .unset, .unset, .unset, .unset, .unset, .unset, .unset, .unset, .unset] [(.double d2), (.double d2)])) _
  refine XS.dmulS X0.here hx rfl (hb hby at_40) rfl hm4 (v := d4) (h4) ?_
  show Steps p.tables e below (T0.setTop (mkF m 41 #[.val (.int pf), .val (.long pm), .second, .val (.int pl), .val (.int pr), .val (.int (0 : Int32)), .val (.int sl), .val (.double d1), .second, .val (.double d2), .second, .unset, .unset, .unset, .unset, .unset, .unset, .unset, .unset, .unset, .unset] [(.double d4)])) _
  refine XS.dstore X0.here hx rfl (hb hby at_41) rfl (l' := #[.val (.int pf), .val (.long pm), .second, .val (.int pl), .val (.int pr), .val (.int (0 : Int32)), .val (.int sl), .val (.double d1), .second, .val (.double d2), .second, .val (.double d4), .second, .unset, .unset, .unset, .unset, .unset, .unset, .unset, .unset]) rfl ?_
  show Steps p.tables e below (T0.setTop (mkF m 43 #[.val (.int pf), .val (.long pm), .second, .val (.int pl), .val (.int pr), .val (.int (0 : Int32)), .val (.int sl), .val (.double d1), .second, .val (.double d2), .second, .val (.double d4), .second, .unset, .unset, .unset, .unset, .unset, .unset, .unset, .unset] [])) _
  refine XS.dload X0.here hx rfl (hb hby at_43) rfl ?_
  show Steps p.tables e below (T0.setTop (mkF m 45 #[.val (.int pf), .val (.long pm), .second, .val (.int pl), .val (.int pr), .val (.int (0 : Int32)), .val (.int sl), .val (.double d1), .second, .val (.double d2), .second, .val (.double d4), .second, .unset, .unset, .unset, .unset, .unset, .unset, .unset, .unset] [(.double d4)])) _
  refine XS.dload X0.here hx rfl (hb hby at_45) rfl ?_
  show Steps p.tables e below (T0.setTop (mkF m 47 #[.val (.int pf), .val (.long pm), .second, .val (.int pl), .val (.int pr), .val (.int (0 : Int32)), .val (.int sl), .val (.double d1), .second, .val (.double d2), .second, .val (.double d4), .second, .unset, .unset, .unset, .unset, .unset, .unset, .unset, .unset] [(.double d4), (.double d4)])) _
  refine XS.dmulS X0.here hx rfl (hb hby at_47) rfl hm8 (v := d8) (h8) ?_
  show Steps p.tables e below (T0.setTop (mkF m 48 #[.val (.int pf), .val (.long pm), .second, .val (.int pl), .val (.int pr), .val (.int (0 : Int32)), .val (.int sl), .val (.double d1), .second, .val (.double d2), .second, .val (.double d4), .second, .unset, .unset, .unset, .unset, .unset, .unset, .unset, .unset] [(.double d8)])) _
  refine XS.dstore X0.here hx rfl (hb hby at_48) rfl (l' := #[.val (.int pf), .val (.long pm), .second, .val (.int pl), .val (.int pr), .val (.int (0 : Int32)), .val (.int sl), .val (.double d1), .second, .val (.double d2), .second, .val (.double d4), .second, .val (.double d8), .second, .unset, .unset, .unset, .unset, .unset, .unset]) rfl ?_
  show Steps p.tables e below (T0.setTop (mkF m 50 #[.val (.int pf), .val (.long pm), .second, .val (.int pl), .val (.int pr), .val (.int (0 : Int32)), .val (.int sl), .val (.double d1), .second, .val (.double d2), .second, .val (.double d4), .second, .val (.double d8), .second, .unset, .unset, .unset, .unset, .unset, .unset] [])) _
  refine XS.dload X0.here hx rfl (hb hby at_50) rfl ?_
  show Steps p.tables e below (T0.setTop (mkF m 52 #[.val (.int pf), .val (.long pm), .second, .val (.int pl), .val (.int pr), .val (.int (0 : Int32)), .val (.int sl), .val (.double d1), .second, .val (.double d2), .second, .val (.double d4), .second, .val (.double d8), .second, .unset, .unset, .unset, .unset, .unset, .unset] [(.double d8)])) _
  refine XS.dload X0.here hx rfl (hb hby at_52) rfl ?_
  show Steps p.tables e below (T0.setTop (mkF m 54 #[.val (.int pf), .val (.long pm), .second, .val (.int pl), .val (.int pr), .val (.int (0 : Int32)), .val (.int sl), .val (.double d1), .second, .val (.double d2), .second, .val (.double d4), .second, .val (.double d8), .second, .unset, .unset, .unset, .unset, .unset, .unset] [(.double d8), (.double d8)])) _
  refine XS.dmulS X0.here hx rfl (hb hby at_54) rfl hm16 (v := d16) (h16) ?_
  show Steps p.tables e below (T0.setTop (mkF m 55 #[.val (.int pf), .val (.long pm), .second, .val (.int pl), .val (.int pr), .val (.int (0 : Int32)), .val (.int sl), .val (.double d1), .second, .val (.double d2), .second, .val (.double d4), .second, .val (.double d8), .second, .unset, .unset, .unset, .unset, .unset, .unset] [(.double d16)])) _
  refine XS.dstore X0.here hx rfl (hb hby at_55) rfl (l' := #[.val (.int pf), .val (.long pm), .second, .val (.int pl), .val (.int pr), .val (.int (0 : Int32)), .val (.int sl), .val (.double d1), .second, .val (.double d2), .second, .val (.double d4), .second, .val (.double d8), .second, .val (.double d16), .second, .unset, .unset, .unset, .unset]) rfl ?_
  show Steps p.tables e below (T0.setTop (mkF m 57 #[.val (.int pf), .val (.long pm), .second, .val (.int pl), .val (.int pr), .val (.int (0 : Int32)), .val (.int sl), .val (.double d1), .second, .val (.double d2), .second, .val (.double d4), .second, .val (.double d8), .second, .val (.double d16), .second, .unset, .unset, .unset, .unset] [])) _
  exact k
set_option maxRecDepth 65536 in
set_option maxHeartbeats 40000000 in
theorem pb0 {p : Program} {l : Launch} {e : Env} {R : Room} {s : State} {m : MethodId} {args : Array Value} {below : List Frame} {meth : Method} {c : Code} {T0 : State} {locs : List Loc} {cells slots : Nat} {Z : State} {a0 : Array Value} (pf : Int32) (pm : Int64) (pl pr : Int32) (d1 d2 d4 d8 d16 : UInt64) (sl : Int32) (fi : Int32)
    (X0 : Stand p l e R s m args below meth c T0 locs cells slots) (hx : p.tables.exec = Jvm.exec) (hZ : Z.Warmed39 s.vm) (hw : ∀ d ∈ tables_1, d.before a0 Z = true) (hby : c.code = code) (hown : s.vm.findClass "com/example/itinerant/itinerant/requests/RequestMustBeServedPinLaw" = some m.cls)  (hc59 : sl = (0 : Int32)) {target : State}
    (k : Steps p.tables e below (T0.setTop (mkF m 104 #[.val (.int pf), .val (.long pm), .second, .val (.int pl), .val (.int pr), .val (.int fi), .val (.int sl), .val (.double d1), .second, .val (.double d2), .second, .val (.double d4), .second, .val (.double d8), .second, .val (.double d16), .second, .val (.double d1), .second, .unset, .unset] [])) target) : Steps p.tables e below (T0.setTop (mkF m 57 #[.val (.int pf), .val (.long pm), .second, .val (.int pl), .val (.int pr), .val (.int fi), .val (.int sl), .val (.double d1), .second, .val (.double d2), .second, .val (.double d4), .second, .val (.double d8), .second, .val (.double d16), .second, .unset, .unset, .unset, .unset] [])) target := by
  show Steps p.tables e below (T0.setTop (mkF m 57 #[.val (.int pf), .val (.long pm), .second, .val (.int pl), .val (.int pr), .val (.int fi), .val (.int sl), .val (.double d1), .second, .val (.double d2), .second, .val (.double d4), .second, .val (.double d8), .second, .val (.double d16), .second, .unset, .unset, .unset, .unset] [])) _
  refine XS.iload X0.here hx rfl (hb hby at_57) rfl ?_
  show Steps p.tables e below (T0.setTop (mkF m 59 #[.val (.int pf), .val (.long pm), .second, .val (.int pl), .val (.int pr), .val (.int fi), .val (.int sl), .val (.double d1), .second, .val (.double d2), .second, .val (.double d4), .second, .val (.double d8), .second, .val (.double d16), .second, .unset, .unset, .unset, .unset] [(.int sl)])) _
  refine XS.ifNo X0.here hx rfl (hb hby at_59) rfl ((if0 _ _).trans (teq (hc59 : sl = (0 : Int32))).2) ?_
  show Steps p.tables e below (T0.setTop (mkF m 62 #[.val (.int pf), .val (.long pm), .second, .val (.int pl), .val (.int pr), .val (.int fi), .val (.int sl), .val (.double d1), .second, .val (.double d2), .second, .val (.double d4), .second, .val (.double d8), .second, .val (.double d16), .second, .unset, .unset, .unset, .unset] [])) _
  refine XS.dload X0.here hx rfl (hb hby at_62) rfl ?_
  show Steps p.tables e below (T0.setTop (mkF m 64 #[.val (.int pf), .val (.long pm), .second, .val (.int pl), .val (.int pr), .val (.int fi), .val (.int sl), .val (.double d1), .second, .val (.double d2), .second, .val (.double d4), .second, .val (.double d8), .second, .val (.double d16), .second, .unset, .unset, .unset, .unset] [(.double d1)])) _
  refine XS.goto X0.here hx rfl (pc0 := 64) (pc' := 102) rfl (hb hby at_64) (by decide) (by decide) ?_
  show Steps p.tables e below (T0.setTop (mkF m 102 #[.val (.int pf), .val (.long pm), .second, .val (.int pl), .val (.int pr), .val (.int fi), .val (.int sl), .val (.double d1), .second, .val (.double d2), .second, .val (.double d4), .second, .val (.double d8), .second, .val (.double d16), .second, .unset, .unset, .unset, .unset] [(.double d1)])) _
  refine XS.dstore X0.here hx rfl (hb hby at_102) rfl (l' := #[.val (.int pf), .val (.long pm), .second, .val (.int pl), .val (.int pr), .val (.int fi), .val (.int sl), .val (.double d1), .second, .val (.double d2), .second, .val (.double d4), .second, .val (.double d8), .second, .val (.double d16), .second, .val (.double d1), .second, .unset, .unset]) rfl ?_
  show Steps p.tables e below (T0.setTop (mkF m 104 #[.val (.int pf), .val (.long pm), .second, .val (.int pl), .val (.int pr), .val (.int fi), .val (.int sl), .val (.double d1), .second, .val (.double d2), .second, .val (.double d4), .second, .val (.double d8), .second, .val (.double d16), .second, .val (.double d1), .second, .unset, .unset] [])) _
  exact k
set_option maxRecDepth 65536 in
set_option maxHeartbeats 40000000 in
theorem pb1 {p : Program} {l : Launch} {e : Env} {R : Room} {s : State} {m : MethodId} {args : Array Value} {below : List Frame} {meth : Method} {c : Code} {T0 : State} {locs : List Loc} {cells slots : Nat} {Z : State} {a0 : Array Value} (pf : Int32) (pm : Int64) (pl pr : Int32) (d1 d2 d4 d8 d16 : UInt64) (sl : Int32) (fi : Int32)
    (X0 : Stand p l e R s m args below meth c T0 locs cells slots) (hx : p.tables.exec = Jvm.exec) (hZ : Z.Warmed39 s.vm) (hw : ∀ d ∈ tables_1, d.before a0 Z = true) (hby : c.code = code) (hown : s.vm.findClass "com/example/itinerant/itinerant/requests/RequestMustBeServedPinLaw" = some m.cls)  (hc59 : ¬ (sl = (0 : Int32))) (hc70 : sl = (1 : Int32)) {target : State}
    (k : Steps p.tables e below (T0.setTop (mkF m 104 #[.val (.int pf), .val (.long pm), .second, .val (.int pl), .val (.int pr), .val (.int fi), .val (.int sl), .val (.double d1), .second, .val (.double d2), .second, .val (.double d4), .second, .val (.double d8), .second, .val (.double d16), .second, .val (.double d2), .second, .unset, .unset] [])) target) : Steps p.tables e below (T0.setTop (mkF m 57 #[.val (.int pf), .val (.long pm), .second, .val (.int pl), .val (.int pr), .val (.int fi), .val (.int sl), .val (.double d1), .second, .val (.double d2), .second, .val (.double d4), .second, .val (.double d8), .second, .val (.double d16), .second, .unset, .unset, .unset, .unset] [])) target := by
  show Steps p.tables e below (T0.setTop (mkF m 57 #[.val (.int pf), .val (.long pm), .second, .val (.int pl), .val (.int pr), .val (.int fi), .val (.int sl), .val (.double d1), .second, .val (.double d2), .second, .val (.double d4), .second, .val (.double d8), .second, .val (.double d16), .second, .unset, .unset, .unset, .unset] [])) _
  refine XS.iload X0.here hx rfl (hb hby at_57) rfl ?_
  show Steps p.tables e below (T0.setTop (mkF m 59 #[.val (.int pf), .val (.long pm), .second, .val (.int pl), .val (.int pr), .val (.int fi), .val (.int sl), .val (.double d1), .second, .val (.double d2), .second, .val (.double d4), .second, .val (.double d8), .second, .val (.double d16), .second, .unset, .unset, .unset, .unset] [(.int sl)])) _
  refine XS.ifYes X0.here hx rfl (pc0 := 59) (pc' := 67) rfl (hb hby at_59) rfl ((if0 _ _).trans (feq (hc59 : ¬ (sl = (0 : Int32)))).2) (by decide) (by decide) ?_
  show Steps p.tables e below (T0.setTop (mkF m 67 #[.val (.int pf), .val (.long pm), .second, .val (.int pl), .val (.int pr), .val (.int fi), .val (.int sl), .val (.double d1), .second, .val (.double d2), .second, .val (.double d4), .second, .val (.double d8), .second, .val (.double d16), .second, .unset, .unset, .unset, .unset] [])) _
  refine XS.iload X0.here hx rfl (hb hby at_67) rfl ?_
  show Steps p.tables e below (T0.setTop (mkF m 69 #[.val (.int pf), .val (.long pm), .second, .val (.int pl), .val (.int pr), .val (.int fi), .val (.int sl), .val (.double d1), .second, .val (.double d2), .second, .val (.double d4), .second, .val (.double d8), .second, .val (.double d16), .second, .unset, .unset, .unset, .unset] [(.int sl)])) _
  refine XS.iconst X0.here hx rfl (hb hby at_69) ?_
  show Steps p.tables e below (T0.setTop (mkF m 70 #[.val (.int pf), .val (.long pm), .second, .val (.int pl), .val (.int pr), .val (.int fi), .val (.int sl), .val (.double d1), .second, .val (.double d2), .second, .val (.double d4), .second, .val (.double d8), .second, .val (.double d16), .second, .unset, .unset, .unset, .unset] [(.int (1 : Int32)), (.int sl)])) _
  refine XS.icmpNo X0.here hx rfl (hb hby at_70) rfl (teq (hc70 : sl = (1 : Int32))).2 ?_
  show Steps p.tables e below (T0.setTop (mkF m 73 #[.val (.int pf), .val (.long pm), .second, .val (.int pl), .val (.int pr), .val (.int fi), .val (.int sl), .val (.double d1), .second, .val (.double d2), .second, .val (.double d4), .second, .val (.double d8), .second, .val (.double d16), .second, .unset, .unset, .unset, .unset] [])) _
  refine XS.dload X0.here hx rfl (hb hby at_73) rfl ?_
  show Steps p.tables e below (T0.setTop (mkF m 75 #[.val (.int pf), .val (.long pm), .second, .val (.int pl), .val (.int pr), .val (.int fi), .val (.int sl), .val (.double d1), .second, .val (.double d2), .second, .val (.double d4), .second, .val (.double d8), .second, .val (.double d16), .second, .unset, .unset, .unset, .unset] [(.double d2)])) _
  refine XS.goto X0.here hx rfl (pc0 := 75) (pc' := 102) rfl (hb hby at_75) (by decide) (by decide) ?_
  show Steps p.tables e below (T0.setTop (mkF m 102 #[.val (.int pf), .val (.long pm), .second, .val (.int pl), .val (.int pr), .val (.int fi), .val (.int sl), .val (.double d1), .second, .val (.double d2), .second, .val (.double d4), .second, .val (.double d8), .second, .val (.double d16), .second, .unset, .unset, .unset, .unset] [(.double d2)])) _
  refine XS.dstore X0.here hx rfl (hb hby at_102) rfl (l' := #[.val (.int pf), .val (.long pm), .second, .val (.int pl), .val (.int pr), .val (.int fi), .val (.int sl), .val (.double d1), .second, .val (.double d2), .second, .val (.double d4), .second, .val (.double d8), .second, .val (.double d16), .second, .val (.double d2), .second, .unset, .unset]) rfl ?_
  show Steps p.tables e below (T0.setTop (mkF m 104 #[.val (.int pf), .val (.long pm), .second, .val (.int pl), .val (.int pr), .val (.int fi), .val (.int sl), .val (.double d1), .second, .val (.double d2), .second, .val (.double d4), .second, .val (.double d8), .second, .val (.double d16), .second, .val (.double d2), .second, .unset, .unset] [])) _
  exact k
set_option maxRecDepth 65536 in
set_option maxHeartbeats 40000000 in
theorem pb2 {p : Program} {l : Launch} {e : Env} {R : Room} {s : State} {m : MethodId} {args : Array Value} {below : List Frame} {meth : Method} {c : Code} {T0 : State} {locs : List Loc} {cells slots : Nat} {Z : State} {a0 : Array Value} (pf : Int32) (pm : Int64) (pl pr : Int32) (d1 d2 d4 d8 d16 : UInt64) (sl : Int32) (fi : Int32)
    (X0 : Stand p l e R s m args below meth c T0 locs cells slots) (hx : p.tables.exec = Jvm.exec) (hZ : Z.Warmed39 s.vm) (hw : ∀ d ∈ tables_1, d.before a0 Z = true) (hby : c.code = code) (hown : s.vm.findClass "com/example/itinerant/itinerant/requests/RequestMustBeServedPinLaw" = some m.cls)  (hc59 : ¬ (sl = (0 : Int32))) (hc70 : ¬ (sl = (1 : Int32))) (hc81 : sl = (2 : Int32)) {target : State}
    (k : Steps p.tables e below (T0.setTop (mkF m 104 #[.val (.int pf), .val (.long pm), .second, .val (.int pl), .val (.int pr), .val (.int fi), .val (.int sl), .val (.double d1), .second, .val (.double d2), .second, .val (.double d4), .second, .val (.double d8), .second, .val (.double d16), .second, .val (.double d4), .second, .unset, .unset] [])) target) : Steps p.tables e below (T0.setTop (mkF m 57 #[.val (.int pf), .val (.long pm), .second, .val (.int pl), .val (.int pr), .val (.int fi), .val (.int sl), .val (.double d1), .second, .val (.double d2), .second, .val (.double d4), .second, .val (.double d8), .second, .val (.double d16), .second, .unset, .unset, .unset, .unset] [])) target := by
  show Steps p.tables e below (T0.setTop (mkF m 57 #[.val (.int pf), .val (.long pm), .second, .val (.int pl), .val (.int pr), .val (.int fi), .val (.int sl), .val (.double d1), .second, .val (.double d2), .second, .val (.double d4), .second, .val (.double d8), .second, .val (.double d16), .second, .unset, .unset, .unset, .unset] [])) _
  refine XS.iload X0.here hx rfl (hb hby at_57) rfl ?_
  show Steps p.tables e below (T0.setTop (mkF m 59 #[.val (.int pf), .val (.long pm), .second, .val (.int pl), .val (.int pr), .val (.int fi), .val (.int sl), .val (.double d1), .second, .val (.double d2), .second, .val (.double d4), .second, .val (.double d8), .second, .val (.double d16), .second, .unset, .unset, .unset, .unset] [(.int sl)])) _
  refine XS.ifYes X0.here hx rfl (pc0 := 59) (pc' := 67) rfl (hb hby at_59) rfl ((if0 _ _).trans (feq (hc59 : ¬ (sl = (0 : Int32)))).2) (by decide) (by decide) ?_
  show Steps p.tables e below (T0.setTop (mkF m 67 #[.val (.int pf), .val (.long pm), .second, .val (.int pl), .val (.int pr), .val (.int fi), .val (.int sl), .val (.double d1), .second, .val (.double d2), .second, .val (.double d4), .second, .val (.double d8), .second, .val (.double d16), .second, .unset, .unset, .unset, .unset] [])) _
  refine XS.iload X0.here hx rfl (hb hby at_67) rfl ?_
  show Steps p.tables e below (T0.setTop (mkF m 69 #[.val (.int pf), .val (.long pm), .second, .val (.int pl), .val (.int pr), .val (.int fi), .val (.int sl), .val (.double d1), .second, .val (.double d2), .second, .val (.double d4), .second, .val (.double d8), .second, .val (.double d16), .second, .unset, .unset, .unset, .unset] [(.int sl)])) _
  refine XS.iconst X0.here hx rfl (hb hby at_69) ?_
  show Steps p.tables e below (T0.setTop (mkF m 70 #[.val (.int pf), .val (.long pm), .second, .val (.int pl), .val (.int pr), .val (.int fi), .val (.int sl), .val (.double d1), .second, .val (.double d2), .second, .val (.double d4), .second, .val (.double d8), .second, .val (.double d16), .second, .unset, .unset, .unset, .unset] [(.int (1 : Int32)), (.int sl)])) _
  refine XS.icmpYes X0.here hx rfl (pc0 := 70) (pc' := 78) rfl (hb hby at_70) rfl (feq (hc70 : ¬ (sl = (1 : Int32)))).2 (by decide) (by decide) ?_
  show Steps p.tables e below (T0.setTop (mkF m 78 #[.val (.int pf), .val (.long pm), .second, .val (.int pl), .val (.int pr), .val (.int fi), .val (.int sl), .val (.double d1), .second, .val (.double d2), .second, .val (.double d4), .second, .val (.double d8), .second, .val (.double d16), .second, .unset, .unset, .unset, .unset] [])) _
  refine XS.iload X0.here hx rfl (hb hby at_78) rfl ?_
  show Steps p.tables e below (T0.setTop (mkF m 80 #[.val (.int pf), .val (.long pm), .second, .val (.int pl), .val (.int pr), .val (.int fi), .val (.int sl), .val (.double d1), .second, .val (.double d2), .second, .val (.double d4), .second, .val (.double d8), .second, .val (.double d16), .second, .unset, .unset, .unset, .unset] [(.int sl)])) _
  refine XS.iconst X0.here hx rfl (hb hby at_80) ?_
  show Steps p.tables e below (T0.setTop (mkF m 81 #[.val (.int pf), .val (.long pm), .second, .val (.int pl), .val (.int pr), .val (.int fi), .val (.int sl), .val (.double d1), .second, .val (.double d2), .second, .val (.double d4), .second, .val (.double d8), .second, .val (.double d16), .second, .unset, .unset, .unset, .unset] [(.int (2 : Int32)), (.int sl)])) _
  refine XS.icmpNo X0.here hx rfl (hb hby at_81) rfl (teq (hc81 : sl = (2 : Int32))).2 ?_
  show Steps p.tables e below (T0.setTop (mkF m 84 #[.val (.int pf), .val (.long pm), .second, .val (.int pl), .val (.int pr), .val (.int fi), .val (.int sl), .val (.double d1), .second, .val (.double d2), .second, .val (.double d4), .second, .val (.double d8), .second, .val (.double d16), .second, .unset, .unset, .unset, .unset] [])) _
  refine XS.dload X0.here hx rfl (hb hby at_84) rfl ?_
  show Steps p.tables e below (T0.setTop (mkF m 86 #[.val (.int pf), .val (.long pm), .second, .val (.int pl), .val (.int pr), .val (.int fi), .val (.int sl), .val (.double d1), .second, .val (.double d2), .second, .val (.double d4), .second, .val (.double d8), .second, .val (.double d16), .second, .unset, .unset, .unset, .unset] [(.double d4)])) _
  refine XS.goto X0.here hx rfl (pc0 := 86) (pc' := 102) rfl (hb hby at_86) (by decide) (by decide) ?_
  show Steps p.tables e below (T0.setTop (mkF m 102 #[.val (.int pf), .val (.long pm), .second, .val (.int pl), .val (.int pr), .val (.int fi), .val (.int sl), .val (.double d1), .second, .val (.double d2), .second, .val (.double d4), .second, .val (.double d8), .second, .val (.double d16), .second, .unset, .unset, .unset, .unset] [(.double d4)])) _
  refine XS.dstore X0.here hx rfl (hb hby at_102) rfl (l' := #[.val (.int pf), .val (.long pm), .second, .val (.int pl), .val (.int pr), .val (.int fi), .val (.int sl), .val (.double d1), .second, .val (.double d2), .second, .val (.double d4), .second, .val (.double d8), .second, .val (.double d16), .second, .val (.double d4), .second, .unset, .unset]) rfl ?_
  show Steps p.tables e below (T0.setTop (mkF m 104 #[.val (.int pf), .val (.long pm), .second, .val (.int pl), .val (.int pr), .val (.int fi), .val (.int sl), .val (.double d1), .second, .val (.double d2), .second, .val (.double d4), .second, .val (.double d8), .second, .val (.double d16), .second, .val (.double d4), .second, .unset, .unset] [])) _
  exact k
set_option maxRecDepth 65536 in
set_option maxHeartbeats 40000000 in
theorem pb3 {p : Program} {l : Launch} {e : Env} {R : Room} {s : State} {m : MethodId} {args : Array Value} {below : List Frame} {meth : Method} {c : Code} {T0 : State} {locs : List Loc} {cells slots : Nat} {Z : State} {a0 : Array Value} (pf : Int32) (pm : Int64) (pl pr : Int32) (d1 d2 d4 d8 d16 : UInt64) (sl : Int32) (fi : Int32)
    (X0 : Stand p l e R s m args below meth c T0 locs cells slots) (hx : p.tables.exec = Jvm.exec) (hZ : Z.Warmed39 s.vm) (hw : ∀ d ∈ tables_1, d.before a0 Z = true) (hby : c.code = code) (hown : s.vm.findClass "com/example/itinerant/itinerant/requests/RequestMustBeServedPinLaw" = some m.cls)  (hc59 : ¬ (sl = (0 : Int32))) (hc70 : ¬ (sl = (1 : Int32))) (hc81 : ¬ (sl = (2 : Int32))) (hc92 : sl = (3 : Int32)) {target : State}
    (k : Steps p.tables e below (T0.setTop (mkF m 104 #[.val (.int pf), .val (.long pm), .second, .val (.int pl), .val (.int pr), .val (.int fi), .val (.int sl), .val (.double d1), .second, .val (.double d2), .second, .val (.double d4), .second, .val (.double d8), .second, .val (.double d16), .second, .val (.double d8), .second, .unset, .unset] [])) target) : Steps p.tables e below (T0.setTop (mkF m 57 #[.val (.int pf), .val (.long pm), .second, .val (.int pl), .val (.int pr), .val (.int fi), .val (.int sl), .val (.double d1), .second, .val (.double d2), .second, .val (.double d4), .second, .val (.double d8), .second, .val (.double d16), .second, .unset, .unset, .unset, .unset] [])) target := by
  show Steps p.tables e below (T0.setTop (mkF m 57 #[.val (.int pf), .val (.long pm), .second, .val (.int pl), .val (.int pr), .val (.int fi), .val (.int sl), .val (.double d1), .second, .val (.double d2), .second, .val (.double d4), .second, .val (.double d8), .second, .val (.double d16), .second, .unset, .unset, .unset, .unset] [])) _
  refine XS.iload X0.here hx rfl (hb hby at_57) rfl ?_
  show Steps p.tables e below (T0.setTop (mkF m 59 #[.val (.int pf), .val (.long pm), .second, .val (.int pl), .val (.int pr), .val (.int fi), .val (.int sl), .val (.double d1), .second, .val (.double d2), .second, .val (.double d4), .second, .val (.double d8), .second, .val (.double d16), .second, .unset, .unset, .unset, .unset] [(.int sl)])) _
  refine XS.ifYes X0.here hx rfl (pc0 := 59) (pc' := 67) rfl (hb hby at_59) rfl ((if0 _ _).trans (feq (hc59 : ¬ (sl = (0 : Int32)))).2) (by decide) (by decide) ?_
  show Steps p.tables e below (T0.setTop (mkF m 67 #[.val (.int pf), .val (.long pm), .second, .val (.int pl), .val (.int pr), .val (.int fi), .val (.int sl), .val (.double d1), .second, .val (.double d2), .second, .val (.double d4), .second, .val (.double d8), .second, .val (.double d16), .second, .unset, .unset, .unset, .unset] [])) _
  refine XS.iload X0.here hx rfl (hb hby at_67) rfl ?_
  show Steps p.tables e below (T0.setTop (mkF m 69 #[.val (.int pf), .val (.long pm), .second, .val (.int pl), .val (.int pr), .val (.int fi), .val (.int sl), .val (.double d1), .second, .val (.double d2), .second, .val (.double d4), .second, .val (.double d8), .second, .val (.double d16), .second, .unset, .unset, .unset, .unset] [(.int sl)])) _
  refine XS.iconst X0.here hx rfl (hb hby at_69) ?_
  show Steps p.tables e below (T0.setTop (mkF m 70 #[.val (.int pf), .val (.long pm), .second, .val (.int pl), .val (.int pr), .val (.int fi), .val (.int sl), .val (.double d1), .second, .val (.double d2), .second, .val (.double d4), .second, .val (.double d8), .second, .val (.double d16), .second, .unset, .unset, .unset, .unset] [(.int (1 : Int32)), (.int sl)])) _
  refine XS.icmpYes X0.here hx rfl (pc0 := 70) (pc' := 78) rfl (hb hby at_70) rfl (feq (hc70 : ¬ (sl = (1 : Int32)))).2 (by decide) (by decide) ?_
  show Steps p.tables e below (T0.setTop (mkF m 78 #[.val (.int pf), .val (.long pm), .second, .val (.int pl), .val (.int pr), .val (.int fi), .val (.int sl), .val (.double d1), .second, .val (.double d2), .second, .val (.double d4), .second, .val (.double d8), .second, .val (.double d16), .second, .unset, .unset, .unset, .unset] [])) _
  refine XS.iload X0.here hx rfl (hb hby at_78) rfl ?_
  show Steps p.tables e below (T0.setTop (mkF m 80 #[.val (.int pf), .val (.long pm), .second, .val (.int pl), .val (.int pr), .val (.int fi), .val (.int sl), .val (.double d1), .second, .val (.double d2), .second, .val (.double d4), .second, .val (.double d8), .second, .val (.double d16), .second, .unset, .unset, .unset, .unset] [(.int sl)])) _
  refine XS.iconst X0.here hx rfl (hb hby at_80) ?_
  show Steps p.tables e below (T0.setTop (mkF m 81 #[.val (.int pf), .val (.long pm), .second, .val (.int pl), .val (.int pr), .val (.int fi), .val (.int sl), .val (.double d1), .second, .val (.double d2), .second, .val (.double d4), .second, .val (.double d8), .second, .val (.double d16), .second, .unset, .unset, .unset, .unset] [(.int (2 : Int32)), (.int sl)])) _
  refine XS.icmpYes X0.here hx rfl (pc0 := 81) (pc' := 89) rfl (hb hby at_81) rfl (feq (hc81 : ¬ (sl = (2 : Int32)))).2 (by decide) (by decide) ?_
  show Steps p.tables e below (T0.setTop (mkF m 89 #[.val (.int pf), .val (.long pm), .second, .val (.int pl), .val (.int pr), .val (.int fi), .val (.int sl), .val (.double d1), .second, .val (.double d2), .second, .val (.double d4), .second, .val (.double d8), .second, .val (.double d16), .second, .unset, .unset, .unset, .unset] [])) _
  refine XS.iload X0.here hx rfl (hb hby at_89) rfl ?_
  show Steps p.tables e below (T0.setTop (mkF m 91 #[.val (.int pf), .val (.long pm), .second, .val (.int pl), .val (.int pr), .val (.int fi), .val (.int sl), .val (.double d1), .second, .val (.double d2), .second, .val (.double d4), .second, .val (.double d8), .second, .val (.double d16), .second, .unset, .unset, .unset, .unset] [(.int sl)])) _
  refine XS.iconst X0.here hx rfl (hb hby at_91) ?_
  show Steps p.tables e below (T0.setTop (mkF m 92 #[.val (.int pf), .val (.long pm), .second, .val (.int pl), .val (.int pr), .val (.int fi), .val (.int sl), .val (.double d1), .second, .val (.double d2), .second, .val (.double d4), .second, .val (.double d8), .second, .val (.double d16), .second, .unset, .unset, .unset, .unset] [(.int (3 : Int32)), (.int sl)])) _
  refine XS.icmpNo X0.here hx rfl (hb hby at_92) rfl (teq (hc92 : sl = (3 : Int32))).2 ?_
  show Steps p.tables e below (T0.setTop (mkF m 95 #[.val (.int pf), .val (.long pm), .second, .val (.int pl), .val (.int pr), .val (.int fi), .val (.int sl), .val (.double d1), .second, .val (.double d2), .second, .val (.double d4), .second, .val (.double d8), .second, .val (.double d16), .second, .unset, .unset, .unset, .unset] [])) _
  refine XS.dload X0.here hx rfl (hb hby at_95) rfl ?_
  show Steps p.tables e below (T0.setTop (mkF m 97 #[.val (.int pf), .val (.long pm), .second, .val (.int pl), .val (.int pr), .val (.int fi), .val (.int sl), .val (.double d1), .second, .val (.double d2), .second, .val (.double d4), .second, .val (.double d8), .second, .val (.double d16), .second, .unset, .unset, .unset, .unset] [(.double d8)])) _
  refine XS.goto X0.here hx rfl (pc0 := 97) (pc' := 102) rfl (hb hby at_97) (by decide) (by decide) ?_
  show Steps p.tables e below (T0.setTop (mkF m 102 #[.val (.int pf), .val (.long pm), .second, .val (.int pl), .val (.int pr), .val (.int fi), .val (.int sl), .val (.double d1), .second, .val (.double d2), .second, .val (.double d4), .second, .val (.double d8), .second, .val (.double d16), .second, .unset, .unset, .unset, .unset] [(.double d8)])) _
  refine XS.dstore X0.here hx rfl (hb hby at_102) rfl (l' := #[.val (.int pf), .val (.long pm), .second, .val (.int pl), .val (.int pr), .val (.int fi), .val (.int sl), .val (.double d1), .second, .val (.double d2), .second, .val (.double d4), .second, .val (.double d8), .second, .val (.double d16), .second, .val (.double d8), .second, .unset, .unset]) rfl ?_
  show Steps p.tables e below (T0.setTop (mkF m 104 #[.val (.int pf), .val (.long pm), .second, .val (.int pl), .val (.int pr), .val (.int fi), .val (.int sl), .val (.double d1), .second, .val (.double d2), .second, .val (.double d4), .second, .val (.double d8), .second, .val (.double d16), .second, .val (.double d8), .second, .unset, .unset] [])) _
  exact k
set_option maxRecDepth 65536 in
set_option maxHeartbeats 40000000 in
theorem pb4 {p : Program} {l : Launch} {e : Env} {R : Room} {s : State} {m : MethodId} {args : Array Value} {below : List Frame} {meth : Method} {c : Code} {T0 : State} {locs : List Loc} {cells slots : Nat} {Z : State} {a0 : Array Value} (pf : Int32) (pm : Int64) (pl pr : Int32) (d1 d2 d4 d8 d16 : UInt64) (sl : Int32) (fi : Int32)
    (X0 : Stand p l e R s m args below meth c T0 locs cells slots) (hx : p.tables.exec = Jvm.exec) (hZ : Z.Warmed39 s.vm) (hw : ∀ d ∈ tables_1, d.before a0 Z = true) (hby : c.code = code) (hown : s.vm.findClass "com/example/itinerant/itinerant/requests/RequestMustBeServedPinLaw" = some m.cls)  (hc59 : ¬ (sl = (0 : Int32))) (hc70 : ¬ (sl = (1 : Int32))) (hc81 : ¬ (sl = (2 : Int32))) (hc92 : ¬ (sl = (3 : Int32))) {target : State}
    (k : Steps p.tables e below (T0.setTop (mkF m 104 #[.val (.int pf), .val (.long pm), .second, .val (.int pl), .val (.int pr), .val (.int fi), .val (.int sl), .val (.double d1), .second, .val (.double d2), .second, .val (.double d4), .second, .val (.double d8), .second, .val (.double d16), .second, .val (.double d16), .second, .unset, .unset] [])) target) : Steps p.tables e below (T0.setTop (mkF m 57 #[.val (.int pf), .val (.long pm), .second, .val (.int pl), .val (.int pr), .val (.int fi), .val (.int sl), .val (.double d1), .second, .val (.double d2), .second, .val (.double d4), .second, .val (.double d8), .second, .val (.double d16), .second, .unset, .unset, .unset, .unset] [])) target := by
  show Steps p.tables e below (T0.setTop (mkF m 57 #[.val (.int pf), .val (.long pm), .second, .val (.int pl), .val (.int pr), .val (.int fi), .val (.int sl), .val (.double d1), .second, .val (.double d2), .second, .val (.double d4), .second, .val (.double d8), .second, .val (.double d16), .second, .unset, .unset, .unset, .unset] [])) _
  refine XS.iload X0.here hx rfl (hb hby at_57) rfl ?_
  show Steps p.tables e below (T0.setTop (mkF m 59 #[.val (.int pf), .val (.long pm), .second, .val (.int pl), .val (.int pr), .val (.int fi), .val (.int sl), .val (.double d1), .second, .val (.double d2), .second, .val (.double d4), .second, .val (.double d8), .second, .val (.double d16), .second, .unset, .unset, .unset, .unset] [(.int sl)])) _
  refine XS.ifYes X0.here hx rfl (pc0 := 59) (pc' := 67) rfl (hb hby at_59) rfl ((if0 _ _).trans (feq (hc59 : ¬ (sl = (0 : Int32)))).2) (by decide) (by decide) ?_
  show Steps p.tables e below (T0.setTop (mkF m 67 #[.val (.int pf), .val (.long pm), .second, .val (.int pl), .val (.int pr), .val (.int fi), .val (.int sl), .val (.double d1), .second, .val (.double d2), .second, .val (.double d4), .second, .val (.double d8), .second, .val (.double d16), .second, .unset, .unset, .unset, .unset] [])) _
  refine XS.iload X0.here hx rfl (hb hby at_67) rfl ?_
  show Steps p.tables e below (T0.setTop (mkF m 69 #[.val (.int pf), .val (.long pm), .second, .val (.int pl), .val (.int pr), .val (.int fi), .val (.int sl), .val (.double d1), .second, .val (.double d2), .second, .val (.double d4), .second, .val (.double d8), .second, .val (.double d16), .second, .unset, .unset, .unset, .unset] [(.int sl)])) _
  refine XS.iconst X0.here hx rfl (hb hby at_69) ?_
  show Steps p.tables e below (T0.setTop (mkF m 70 #[.val (.int pf), .val (.long pm), .second, .val (.int pl), .val (.int pr), .val (.int fi), .val (.int sl), .val (.double d1), .second, .val (.double d2), .second, .val (.double d4), .second, .val (.double d8), .second, .val (.double d16), .second, .unset, .unset, .unset, .unset] [(.int (1 : Int32)), (.int sl)])) _
  refine XS.icmpYes X0.here hx rfl (pc0 := 70) (pc' := 78) rfl (hb hby at_70) rfl (feq (hc70 : ¬ (sl = (1 : Int32)))).2 (by decide) (by decide) ?_
  show Steps p.tables e below (T0.setTop (mkF m 78 #[.val (.int pf), .val (.long pm), .second, .val (.int pl), .val (.int pr), .val (.int fi), .val (.int sl), .val (.double d1), .second, .val (.double d2), .second, .val (.double d4), .second, .val (.double d8), .second, .val (.double d16), .second, .unset, .unset, .unset, .unset] [])) _
  refine XS.iload X0.here hx rfl (hb hby at_78) rfl ?_
  show Steps p.tables e below (T0.setTop (mkF m 80 #[.val (.int pf), .val (.long pm), .second, .val (.int pl), .val (.int pr), .val (.int fi), .val (.int sl), .val (.double d1), .second, .val (.double d2), .second, .val (.double d4), .second, .val (.double d8), .second, .val (.double d16), .second, .unset, .unset, .unset, .unset] [(.int sl)])) _
  refine XS.iconst X0.here hx rfl (hb hby at_80) ?_
  show Steps p.tables e below (T0.setTop (mkF m 81 #[.val (.int pf), .val (.long pm), .second, .val (.int pl), .val (.int pr), .val (.int fi), .val (.int sl), .val (.double d1), .second, .val (.double d2), .second, .val (.double d4), .second, .val (.double d8), .second, .val (.double d16), .second, .unset, .unset, .unset, .unset] [(.int (2 : Int32)), (.int sl)])) _
  refine XS.icmpYes X0.here hx rfl (pc0 := 81) (pc' := 89) rfl (hb hby at_81) rfl (feq (hc81 : ¬ (sl = (2 : Int32)))).2 (by decide) (by decide) ?_
  show Steps p.tables e below (T0.setTop (mkF m 89 #[.val (.int pf), .val (.long pm), .second, .val (.int pl), .val (.int pr), .val (.int fi), .val (.int sl), .val (.double d1), .second, .val (.double d2), .second, .val (.double d4), .second, .val (.double d8), .second, .val (.double d16), .second, .unset, .unset, .unset, .unset] [])) _
  refine XS.iload X0.here hx rfl (hb hby at_89) rfl ?_
  show Steps p.tables e below (T0.setTop (mkF m 91 #[.val (.int pf), .val (.long pm), .second, .val (.int pl), .val (.int pr), .val (.int fi), .val (.int sl), .val (.double d1), .second, .val (.double d2), .second, .val (.double d4), .second, .val (.double d8), .second, .val (.double d16), .second, .unset, .unset, .unset, .unset] [(.int sl)])) _
  refine XS.iconst X0.here hx rfl (hb hby at_91) ?_
  show Steps p.tables e below (T0.setTop (mkF m 92 #[.val (.int pf), .val (.long pm), .second, .val (.int pl), .val (.int pr), .val (.int fi), .val (.int sl), .val (.double d1), .second, .val (.double d2), .second, .val (.double d4), .second, .val (.double d8), .second, .val (.double d16), .second, .unset, .unset, .unset, .unset] [(.int (3 : Int32)), (.int sl)])) _
  refine XS.icmpYes X0.here hx rfl (pc0 := 92) (pc' := 100) rfl (hb hby at_92) rfl (feq (hc92 : ¬ (sl = (3 : Int32)))).2 (by decide) (by decide) ?_
  show Steps p.tables e below (T0.setTop (mkF m 100 #[.val (.int pf), .val (.long pm), .second, .val (.int pl), .val (.int pr), .val (.int fi), .val (.int sl), .val (.double d1), .second, .val (.double d2), .second, .val (.double d4), .second, .val (.double d8), .second, .val (.double d16), .second, .unset, .unset, .unset, .unset] [])) _
  refine XS.dload X0.here hx rfl (hb hby at_100) rfl ?_
  show Steps p.tables e below (T0.setTop (mkF m 102 #[.val (.int pf), .val (.long pm), .second, .val (.int pl), .val (.int pr), .val (.int fi), .val (.int sl), .val (.double d1), .second, .val (.double d2), .second, .val (.double d4), .second, .val (.double d8), .second, .val (.double d16), .second, .unset, .unset, .unset, .unset] [(.double d16)])) _
  refine XS.dstore X0.here hx rfl (hb hby at_102) rfl (l' := #[.val (.int pf), .val (.long pm), .second, .val (.int pl), .val (.int pr), .val (.int fi), .val (.int sl), .val (.double d1), .second, .val (.double d2), .second, .val (.double d4), .second, .val (.double d8), .second, .val (.double d16), .second, .val (.double d16), .second, .unset, .unset]) rfl ?_
  show Steps p.tables e below (T0.setTop (mkF m 104 #[.val (.int pf), .val (.long pm), .second, .val (.int pl), .val (.int pr), .val (.int fi), .val (.int sl), .val (.double d1), .second, .val (.double d2), .second, .val (.double d4), .second, .val (.double d8), .second, .val (.double d16), .second, .val (.double d16), .second, .unset, .unset] [])) _
  exact k
theorem own_head1 {p : Program} {l : Launch} {e : Env} {R : Room} {s : State} {m : MethodId} {args : Array Value} {below : List Frame} {meth : Method} {c : Code} {T0 : State} {locs : List Loc} {cells slots : Nat} {Z : State} {a0 : Array Value} (pf : Int32) (pm : Int64) (pl pr : Int32)
    (X0 : Stand p l e R s m args below meth c T0 locs cells slots) (hx : p.tables.exec = Jvm.exec) (hZ : Z.Warmed39 s.vm) (hw : ∀ d ∈ tables_1, d.before a0 Z = true) (hby : c.code = code) (hown : s.vm.findClass "com/example/itinerant/itinerant/requests/RequestMustBeServedPinLaw" = some m.cls) (hf : ¬ ((pf &&& (1 : Int32)) = (0 : Int32))) :
    ∃ (sl : Int32) (d1 d2 d4 d8 d16 pp : UInt64) (k : Nat), Upto k pp ∧ ∀ target, Steps p.tables e below (T0.setTop (mkF m 104 #[.val (.int pf), .val (.long pm), .second, .val (.int pl), .val (.int pr), .val (.int (1 : Int32)), .val (.int sl), .val (.double d1), .second, .val (.double d2), .second, .val (.double d4), .second, .val (.double d8), .second, .val (.double d16), .second, .val (.double pp), .second, .unset, .unset] [])) target → Steps p.tables e below (T0.setTop (mkF m 0 #[.val (.int pf), .val (.long pm), .second, .val (.int pl), .val (.int pr), .unset, .unset, .unset, .unset, .unset, .unset, .unset, .unset, .unset, .unset, .unset, .unset, .unset, .unset, .unset, .unset] [])) target := by
  have u1 := own_l2d (own_mask pm)
  obtain ⟨d1, h1⟩ : ∃ z, FP.l2d (pm &&& (9223372036854775807 : Int64)) = z := ⟨_, rfl⟩
  rw [h1] at u1
  have u2 := own_sq u1 (by decide)
  have hm2 := own_nm u1
  obtain ⟨d2, h2⟩ : ∃ z, FP.dmul d1 d1 = z := ⟨_, rfl⟩
  rw [h2] at u2
  have u4 := own_sq u2 (by decide)
  have hm4 := own_nm u2
  obtain ⟨d4, h4⟩ : ∃ z, FP.dmul d2 d2 = z := ⟨_, rfl⟩
  rw [h4] at u4
  have u8 := own_sq u4 (by decide)
  have hm8 := own_nm u4
  obtain ⟨d8, h8⟩ : ∃ z, FP.dmul d4 d4 = z := ⟨_, rfl⟩
  rw [h8] at u8
  have u16 := own_sq u8 (by decide)
  have hm16 := own_nm u8
  obtain ⟨d16, h16⟩ : ∃ z, FP.dmul d8 d8 = z := ⟨_, rfl⟩
  rw [h16] at u16
  obtain ⟨sl, hsl⟩ : ∃ z, (((pf.toUInt32 >>> ((1 : Int32) &&& 31).toUInt32).toInt32) &&& (7 : Int32)) = z := ⟨_, rfl⟩
  by_cases c0 : sl = 0
  · exact ⟨sl, d1, d2, d4, d8, d16, d1, _, u1, fun target kt => pa1 pf pm pl pr d1 d2 d4 d8 d16 sl X0 hx hZ hw hby hown h1 h2 h4 h8 h16 hm2 hm4 hm8 hm16 hsl hf (pb0 pf pm pl pr d1 d2 d4 d8 d16 sl (1 : Int32) X0 hx hZ hw hby hown c0 kt)⟩
  by_cases c1 : sl = 1
  · exact ⟨sl, d1, d2, d4, d8, d16, d2, _, u2, fun target kt => pa1 pf pm pl pr d1 d2 d4 d8 d16 sl X0 hx hZ hw hby hown h1 h2 h4 h8 h16 hm2 hm4 hm8 hm16 hsl hf (pb1 pf pm pl pr d1 d2 d4 d8 d16 sl (1 : Int32) X0 hx hZ hw hby hown c0 c1 kt)⟩
  by_cases c2 : sl = 2
  · exact ⟨sl, d1, d2, d4, d8, d16, d4, _, u4, fun target kt => pa1 pf pm pl pr d1 d2 d4 d8 d16 sl X0 hx hZ hw hby hown h1 h2 h4 h8 h16 hm2 hm4 hm8 hm16 hsl hf (pb2 pf pm pl pr d1 d2 d4 d8 d16 sl (1 : Int32) X0 hx hZ hw hby hown c0 c1 c2 kt)⟩
  by_cases c3 : sl = 3
  · exact ⟨sl, d1, d2, d4, d8, d16, d8, _, u8, fun target kt => pa1 pf pm pl pr d1 d2 d4 d8 d16 sl X0 hx hZ hw hby hown h1 h2 h4 h8 h16 hm2 hm4 hm8 hm16 hsl hf (pb3 pf pm pl pr d1 d2 d4 d8 d16 sl (1 : Int32) X0 hx hZ hw hby hown c0 c1 c2 c3 kt)⟩
  · exact ⟨sl, d1, d2, d4, d8, d16, d16, _, u16, fun target kt => pa1 pf pm pl pr d1 d2 d4 d8 d16 sl X0 hx hZ hw hby hown h1 h2 h4 h8 h16 hm2 hm4 hm8 hm16 hsl hf (pb4 pf pm pl pr d1 d2 d4 d8 d16 sl (1 : Int32) X0 hx hZ hw hby hown c0 c1 c2 c3 kt)⟩
theorem own_head0 {p : Program} {l : Launch} {e : Env} {R : Room} {s : State} {m : MethodId} {args : Array Value} {below : List Frame} {meth : Method} {c : Code} {T0 : State} {locs : List Loc} {cells slots : Nat} {Z : State} {a0 : Array Value} (pf : Int32) (pm : Int64) (pl pr : Int32)
    (X0 : Stand p l e R s m args below meth c T0 locs cells slots) (hx : p.tables.exec = Jvm.exec) (hZ : Z.Warmed39 s.vm) (hw : ∀ d ∈ tables_1, d.before a0 Z = true) (hby : c.code = code) (hown : s.vm.findClass "com/example/itinerant/itinerant/requests/RequestMustBeServedPinLaw" = some m.cls) (hf : (pf &&& (1 : Int32)) = (0 : Int32)) :
    ∃ (sl : Int32) (d1 d2 d4 d8 d16 pp : UInt64) (k : Nat), Upto k pp ∧ ∀ target, Steps p.tables e below (T0.setTop (mkF m 104 #[.val (.int pf), .val (.long pm), .second, .val (.int pl), .val (.int pr), .val (.int (0 : Int32)), .val (.int sl), .val (.double d1), .second, .val (.double d2), .second, .val (.double d4), .second, .val (.double d8), .second, .val (.double d16), .second, .val (.double pp), .second, .unset, .unset] [])) target → Steps p.tables e below (T0.setTop (mkF m 0 #[.val (.int pf), .val (.long pm), .second, .val (.int pl), .val (.int pr), .unset, .unset, .unset, .unset, .unset, .unset, .unset, .unset, .unset, .unset, .unset, .unset, .unset, .unset, .unset, .unset] [])) target := by
  have u1 := own_l2d (own_mask pm)
  obtain ⟨d1, h1⟩ : ∃ z, FP.l2d (pm &&& (9223372036854775807 : Int64)) = z := ⟨_, rfl⟩
  rw [h1] at u1
  have u2 := own_sq u1 (by decide)
  have hm2 := own_nm u1
  obtain ⟨d2, h2⟩ : ∃ z, FP.dmul d1 d1 = z := ⟨_, rfl⟩
  rw [h2] at u2
  have u4 := own_sq u2 (by decide)
  have hm4 := own_nm u2
  obtain ⟨d4, h4⟩ : ∃ z, FP.dmul d2 d2 = z := ⟨_, rfl⟩
  rw [h4] at u4
  have u8 := own_sq u4 (by decide)
  have hm8 := own_nm u4
  obtain ⟨d8, h8⟩ : ∃ z, FP.dmul d4 d4 = z := ⟨_, rfl⟩
  rw [h8] at u8
  have u16 := own_sq u8 (by decide)
  have hm16 := own_nm u8
  obtain ⟨d16, h16⟩ : ∃ z, FP.dmul d8 d8 = z := ⟨_, rfl⟩
  rw [h16] at u16
  obtain ⟨sl, hsl⟩ : ∃ z, (((pf.toUInt32 >>> ((1 : Int32) &&& 31).toUInt32).toInt32) &&& (7 : Int32)) = z := ⟨_, rfl⟩
  by_cases c0 : sl = 0
  · exact ⟨sl, d1, d2, d4, d8, d16, d1, _, u1, fun target kt => pa0 pf pm pl pr d1 d2 d4 d8 d16 sl X0 hx hZ hw hby hown h1 h2 h4 h8 h16 hm2 hm4 hm8 hm16 hsl hf (pb0 pf pm pl pr d1 d2 d4 d8 d16 sl (0 : Int32) X0 hx hZ hw hby hown c0 kt)⟩
  by_cases c1 : sl = 1
  · exact ⟨sl, d1, d2, d4, d8, d16, d2, _, u2, fun target kt => pa0 pf pm pl pr d1 d2 d4 d8 d16 sl X0 hx hZ hw hby hown h1 h2 h4 h8 h16 hm2 hm4 hm8 hm16 hsl hf (pb1 pf pm pl pr d1 d2 d4 d8 d16 sl (0 : Int32) X0 hx hZ hw hby hown c0 c1 kt)⟩
  by_cases c2 : sl = 2
  · exact ⟨sl, d1, d2, d4, d8, d16, d4, _, u4, fun target kt => pa0 pf pm pl pr d1 d2 d4 d8 d16 sl X0 hx hZ hw hby hown h1 h2 h4 h8 h16 hm2 hm4 hm8 hm16 hsl hf (pb2 pf pm pl pr d1 d2 d4 d8 d16 sl (0 : Int32) X0 hx hZ hw hby hown c0 c1 c2 kt)⟩
  by_cases c3 : sl = 3
  · exact ⟨sl, d1, d2, d4, d8, d16, d8, _, u8, fun target kt => pa0 pf pm pl pr d1 d2 d4 d8 d16 sl X0 hx hZ hw hby hown h1 h2 h4 h8 h16 hm2 hm4 hm8 hm16 hsl hf (pb3 pf pm pl pr d1 d2 d4 d8 d16 sl (0 : Int32) X0 hx hZ hw hby hown c0 c1 c2 c3 kt)⟩
  · exact ⟨sl, d1, d2, d4, d8, d16, d16, _, u16, fun target kt => pa0 pf pm pl pr d1 d2 d4 d8 d16 sl X0 hx hZ hw hby hown h1 h2 h4 h8 h16 hm2 hm4 hm8 hm16 hsl hf (pb4 pf pm pl pr d1 d2 d4 d8 d16 sl (0 : Int32) X0 hx hZ hw hby hown c0 c1 c2 c3 kt)⟩
def QL (n0 : Nat) (v : Option Value) (h : Heap) (L : List Loc) : Prop := v = some (.int 1) ∧ Fr n0 L
theorem pd__Ljava_lang_String_DD_V : parseMethodDescriptor "(Ljava/lang/String;DD)V" = some ⟨[(.object "java/lang/String"), .double, .double], none⟩ := by decide +kernel
theorem pd__D_Lcom_example_itinerant_itinerant_requests_Request_ : parseMethodDescriptor "(D)Lcom/example/itinerant/itinerant/requests/Request;" = some ⟨[.double], some (.object "com/example/itinerant/itinerant/requests/Request")⟩ := by decide +kernel
theorem ef_code (m : MethodId) (x0 : Int32) (x1 : Int64) (x2 : Int32) (x3 : Int32) : entryFrame m #[(.int x0), (.long x1), (.int x2), (.int x3)] maxLocals = mkF m 0 #[.val (.int x0), .val (.long x1), .second, .val (.int x2), .val (.int x3), .unset, .unset, .unset, .unset, .unset, .unset, .unset, .unset, .unset, .unset, .unset, .unset, .unset, .unset, .unset, .unset] [] := by first | (simp [entryFrame, mkF, argsToLocals, Value.category, maxLocals]; done) | rfl
set_option maxRecDepth 65536 in
set_option maxHeartbeats 40000000 in
theorem rm01 (l : Launch) (Z : State) (a0 : Array Value) (hw : ∀ d ∈ tables_1, d.before a0 Z = true) (ws : List Jvm.Cond) (pf : Int32) (pm : Int64) (pl pr : Int32) (h0 : Heap) (n0 : Nat) (Z0 : n0 ≤ h0.size) (hheld : Jvm.Lit.constHeld Z "com/example/itinerant/itinerant/requests/RequestMustBeServedPinLaw" 13) (hcw : Jvm.Lit.compactW.before a0 Z = true) (cs : Int32) (fv : Value) (S_c : Sta Z Z.heap "java/lang/String" "COMPACT_STRINGS" "Z" (.int cs)) (hcs : ¬ (cs = (0 : Int32))) (S_f : Sta Z Z.heap "jdk/internal/util/Preconditions" "SIOOBE_FORMATTER" "Ljava/util/function/BiFunction;" fv) (hfv : fv.isRef = true) (O0 : Old Z n0 h0) (hfi : ¬ ((pf &&& (1 : Int32)) = (0 : Int32)))  :
    MetFree l x (head1 (Jvm.Cond.code x code maxLocals ret :: ws) room_1) (fun a U => a = #[(.int pf), (.long pm), (.int pl), (.int pr)] ∧ Z.Warmed39 U.vm ∧ U.heap = h0 ∧ U.vm = Z.vm) (fun _ _ _ _ _ => True) (fun _ U o U' => ∃ v L, o = .returned v ∧ QL n0 v U'.heap L ∧ ReturnedEndW U o U' L 24 324) := by
  refine MetFree.of_bodySF (plainFor_of_name pn_com_example_itinerant_itinerant_requests_RequestMustBeServedPinLaw) hisR ?_
  intro p e s m args below meth c s₁ Bd hml0 hP hK
  obtain ⟨rfl, hZ, hh, hvm⟩ := hP
  have hx := Bd.exec
  have hby := Bd.bytes
  have hml : c.maxLocals = 21 := hml0
  have hown : s.vm.findClass "com/example/itinerant/itinerant/requests/RequestMustBeServedPinLaw" = some m.cls := findClass_of_methodNamed Bd.named
  have hnm := (name_of_methodNamed Bd.named Bd.method).1
  have X0 : Stand p l e room_1 (s.setVm s.vm) m #[(.int pf), (.long pm), (.int pl), (.int pr)] below meth c s₁ [] 0 0 := Stand.of_body Bd
  have e0 : s₁.heap = h0 := by rw [← hh, Bd.state]; rfl
  have N0 := Fr.nil n0
  have pre0 : ∀ t, Steps p.tables e below (s₁.setTop (mkF m 0 #[.val (.int pf), .val (.long pm), .second, .val (.int pl), .val (.int pr), .unset, .unset, .unset, .unset, .unset, .unset, .unset, .unset, .unset, .unset, .unset, .unset, .unset, .unset, .unset, .unset] [])) t → Steps p.tables e below (s₁.setTop (entryFrame m #[(.int pf), (.long pm), (.int pl), (.int pr)] maxLocals)) t := fun t k => castTop (ef_code m pf pm pl pr) k
  have hS0 : s.Since s.vm 0 := (State.WarmedH.refl s).since 0
  have hk0 : 0 ≤ h0.size := Nat.zero_le _
  obtain ⟨sl, d1, d2, d4, d8, d16, pp, ku, hU, hst⟩ := own_head1 pf pm pl pr X0 hx hZ hw hby hown hfi
  obtain ⟨T1, h1, X1, e1, E1, A1, D1, -, st1⟩ := newO X0 hx hZ hown (hw _ (List.mem_of_getElem? (i := 1) rfl)) (hw _ (List.mem_of_getElem? (i := 2) rfl)) (hw _ (List.mem_of_getElem? (i := 3) rfl)) e0 (g := (mkF m 104 #[.val (.int pf), .val (.long pm), .second, .val (.int pl), .val (.int pr), .val (.int (1 : Int32)), .val (.int sl), .val (.double d1), .second, .val (.double d2), .second, .val (.double d4), .second, .val (.double d8), .second, .val (.double d16), .second, .val (.double pp), .second, .unset, .unset] [])) rfl (hb hby at_104) (by decide) (by decide)
  obtain ⟨nr, g1⟩ : ∃ z, z = h0.size := ⟨_, rfl⟩
  rw [← g1] at A1 D1 st1
  have g_nr : n0 ≤ nr := Nat.le_trans Z0 (Nat.le_of_eq g1.symm)
  have SZ1 := Nat.le_trans Z0 E1.1
  have hk1 := Nat.le_trans hk0 E1.1
  have O1 := Old.ext O0 E1
  have F1_id : Fld Z h1 nr "com/example/itinerant/itinerant/requests/Request" "id" "Ljava/lang/String;" .null := D1 (Or.inr (hw _ (List.mem_of_getElem? (i := 100) rfl))) (ty := (.object "java/lang/String")) (by decide)
  have F1_location : Fld Z h1 nr "com/example/itinerant/itinerant/requests/Request" "location" "D" (.double (0 : UInt64)) := D1 (Or.inr (hw _ (List.mem_of_getElem? (i := 102) rfl))) (ty := .double) (by decide)
  have F1_release : Fld Z h1 nr "com/example/itinerant/itinerant/requests/Request" "release" "D" (.double (0 : UInt64)) := D1 (Or.inr (hw _ (List.mem_of_getElem? (i := 104) rfl))) (ty := .double) (by decide)
  have F1_disclosure : Fld Z h1 nr "com/example/itinerant/itinerant/requests/Request" "disclosure" "D" (.double (0 : UInt64)) := D1 (Or.inr (hw _ (List.mem_of_getElem? (i := 106) rfl))) (ty := .double) (by decide)
  have F1_penalty : Fld Z h1 nr "com/example/itinerant/itinerant/requests/Request" "penalty" "D" (.double (0 : UInt64)) := D1 (Or.inr (hw _ (List.mem_of_getElem? (i := 108) rfl))) (ty := .double) (by decide)
  have F1_weight : Fld Z h1 nr "com/example/itinerant/itinerant/requests/Request" "weight" "D" (.double (0 : UInt64)) := D1 (Or.inr (hw _ (List.mem_of_getElem? (i := 110) rfl))) (ty := .double) (by decide)
  obtain ⟨sa, T2, h2, k2, sb, kb, X2, e2, E2, hS2, hk2, hZ2, hown2, ES, CS, VS, KS, -, -, -, st2⟩ := ldcSV X1 hx hZ hown (hw _ (List.mem_of_getElem? (i := 4) rfl)) (own_wS hw) e1 hS0 hk1 (Fr.nil _) (fun b cl qq => by rw [hh]; exact O0.2.2 b cl qq) (hvm ▸ IB.start : IB Z s.vm []) (by simp) hheld hcw (vs := [(.int (114 : Int32))]) (z := (1 : Int32)) ⟨by decide, by decide⟩ (by decide) (by decide) (g := (mkF m 108 #[.val (.int pf), .val (.long pm), .second, .val (.int pl), .val (.int pr), .val (.int (1 : Int32)), .val (.int sl), .val (.double d1), .second, .val (.double d2), .second, .val (.double d4), .second, .val (.double d8), .second, .val (.double d16), .second, .val (.double pp), .second, .unset, .unset] [(.ref nr), (.ref nr)])) rfl (hb hby at_108) (n := 4) (by decide) (by decide) (by decide) (by decide)
  have c2_0 := A1.ext E2
  have c2_1 := F1_id.ext E2
  have c2_2 := F1_location.ext E2
  have c2_3 := F1_release.ext E2
  have c2_4 := F1_disclosure.ext E2
  have c2_5 := F1_penalty.ext E2
  have c2_6 := F1_weight.ext E2
  have SZ2 := Nat.le_trans SZ1 E2.1
  have O2 := Old.ext O1 E2
  have ne_sa : sa ≠ nr := Exa.ne ES c2_0 (by decide)
  have ne_sb : sb ≠ nr := Ne.symm (Exa.neArv c2_0 KS (hw _ (List.mem_of_getElem? (i := 2) rfl)))
  obtain ⟨_, _, ⟨T3, L3, k3, n3⟩, -, X3r, hS3r, hz3r, ⟨Lc3, hQ3, l3, y3, z3⟩, st3⟩ := X2.specialBackS hx (y := (⟨"com/example/itinerant/itinerant/requests/Request", "<init>", "(Ljava/lang/String;DD)V"⟩ : MethodName)) rfl hown2 (mvT hZ2 (hw _ (List.mem_of_getElem? (i := 13) rfl))) (mvT hZ2 (hw _ (List.mem_of_getElem? (i := 14) rfl))) (mvT hZ2 (hw _ (List.mem_of_getElem? (i := 15) rfl))) (by decide) (backOfS (W := 1) (rm3 l Z a0 hw [] nr sa sb kb cs fv (FP.i2d (pl &&& (65535 : Int32))) (FP.i2d (pr &&& (65535 : Int32))) h2 n0 SZ2 c2_0 c2_1 c2_2 c2_3 c2_4 c2_5 c2_6 g_nr ES CS VS KS S_c hcs S_f hfv O2 (own_nonneg (own_sixteen pl).1 (own_sixteen pl).2) (own_nonneg (own_sixteen pr).1 (own_sixteen pr).2)) hZ2 (hw _ (List.mem_of_getElem? (i := 15) rfl)) (hw _ (List.mem_of_getElem? (i := 3) rfl)) (by decide) (by decide)) (g := (mkF m 121 #[.val (.int pf), .val (.long pm), .second, .val (.int pl), .val (.int pr), .val (.int (1 : Int32)), .val (.int sl), .val (.double d1), .second, .val (.double d2), .second, .val (.double d4), .second, .val (.double d8), .second, .val (.double d16), .second, .val (.double pp), .second, .unset, .unset] [(.double (FP.i2d (pr &&& (65535 : Int32)))), (.double (FP.i2d (pl &&& (65535 : Int32)))), (.ref sa), (.ref nr), (.ref nr)])) rfl (by rw [hml]; rfl) (Steps.refl _) (a := nr) (argsL := [(.ref sa), (.double (FP.i2d (pl &&& (65535 : Int32)))), (.double (FP.i2d (pr &&& (65535 : Int32))))]) (rest := [(.ref nr)]) (lenOf pd__Ljava_lang_String_DD_V rfl) rfl (by show 2 * 0 + _ ≤ _; exact Nat.le_of_eq rfl) (hb hby at_121) (fun _ _ => ⟨rfl, e2, (by decide : 3 + 10 ≤ _), (by decide : 14 + 152 ≤ _)⟩)
  dsimp only [Pt.U, Pt.locs, Pt.cells, Pt.slots] at X3r hS3r hz3r l3 y3 z3 st3 hQ3
  subst l3 y3 z3
  obtain ⟨X3, hS3, hZ3, hown3⟩ := rebS hS2 (show _ ≤ T2.heap.size from by rw [e2]; exact hk2) X3r hS3r hz3r hZ2 hown2
  obtain ⟨rfl, N3q, K3q, E3q, F3q0, F3q1, F3q2, F3q3, F3q4, F3q5⟩ := hQ3
  have c3_0 := c2_0.keep K3q
  have c3_7 := ES.keep K3q
  have c3_8 := CS.keep K3q (by simp only [List.mem_cons, List.not_mem_nil, or_false, not_or]; exact ne_sa)
  have c3_9 := VS.keep K3q (by simp only [List.mem_cons, List.not_mem_nil, or_false, not_or]; exact ne_sa)
  have c3_10 := KS.keep K3q (by simp only [List.mem_cons, List.not_mem_nil, or_false, not_or]; exact ne_sb)
  have SZ3 := Nat.le_trans SZ2 K3q.1
  have O3 := Old.keep O2 K3q (fun x hx => by simp only [List.mem_cons, List.not_mem_nil, or_false] at hx; subst hx; exact g_nr)
  have N3 := Fr.app N0 N3q
  obtain ⟨cq4, kq4, q4a, q4b, q4c⟩ := isOf hZ3 rfl E3q
  obtain ⟨_, _, ⟨T4, L4, k4, n4⟩, -, X4r, hS4r, hz4r, ⟨Lc4, hQ4, l4, y4, z4⟩, st4⟩ := X3.virtualBackS hx (y := (⟨"com/example/itinerant/itinerant/requests/Request", "withPenalty", "(D)Lcom/example/itinerant/itinerant/requests/Request;"⟩ : MethodName)) (z := (⟨"com/example/itinerant/itinerant/requests/Request", "withPenalty", "(D)Lcom/example/itinerant/itinerant/requests/Request;"⟩ : MethodName)) hown3 (mvT hZ3 (hw _ (List.mem_of_getElem? (i := 116) rfl))) (mvT hZ3 (hw _ (List.mem_of_getElem? (i := 117) rfl))) (notFace_of_selects (args := #[]) (mvT hZ3 (hw _ (List.mem_of_getElem? (i := 119) rfl)))) (mvT hZ3 (hw _ (List.mem_of_getElem? (i := 119) rfl))) (mvT hZ3 (hw _ (List.mem_of_getElem? (i := 118) rfl))) (by decide) (backOfS (W := 0) (rmW l Z a0 hw [] nr sa sb kb cs fv (FP.i2d (pl &&& (65535 : Int32))) (FP.i2d (pr &&& (65535 : Int32))) pp T3.heap n0 SZ3 E3q F3q0 F3q1 F3q2 F3q3 F3q4 F3q5 c3_7 c3_8 c3_9 c3_10 S_c hcs S_f hfv O3 (own_nonneg (own_sixteen pl).1 (own_sixteen pl).2) (own_nonneg (own_sixteen pr).1 (own_sixteen pr).2) (own_pen hU).1 (own_pen hU).2.1) hZ3 (hw _ (List.mem_of_getElem? (i := 120) rfl)) (hw _ (List.mem_of_getElem? (i := 3) rfl)) (by decide) (by decide)) q4a q4c (g := (mkF m 135 #[.val (.int pf), .val (.long pm), .second, .val (.int pl), .val (.int pr), .val (.int (1 : Int32)), .val (.int sl), .val (.double d1), .second, .val (.double d2), .second, .val (.double d4), .second, .val (.double d8), .second, .val (.double d16), .second, .val (.double pp), .second, .val (.ref nr), .unset] [(.double pp), (.ref nr)])) rfl (by rw [hml]; rfl) (Steps.refl _) (argsL := [(.double pp)]) (rest := []) (lenOf pd__D_Lcom_example_itinerant_itinerant_requests_Request_ rfl) rfl (by show 2 * 0 + _ ≤ _; exact Nat.le_of_eq rfl) (hb hby at_135) (fun _ _ => ⟨rfl, rfl, (by decide : 13 + 11 ≤ _), (by decide : 166 + 158 ≤ _)⟩)
  dsimp only [Pt.U, Pt.locs, Pt.cells, Pt.slots] at X4r hS4r hz4r l4 y4 z4 st4 hQ4
  subst l4 y4 z4
  obtain ⟨X4, hS4, hZ4, hown4⟩ := rebS hS3 (show _ ≤ T3.heap.size from (Nat.le_refl _)) X4r hS4r hz4r hZ3 hown3
  obtain ⟨nw, rfl, N4q, g4q, E4q, F4q⟩ := hQ4
  have SZ4 : n0 ≤ T4.heap.size := Nat.le_of_lt (Nat.lt_of_le_of_lt g4q E4q.lt)
  have N4 := Fr.app N3 N4q
  obtain ⟨cq5, kq5, q5a, q5b, q5c⟩ := isOf hZ4 rfl E4q
  obtain ⟨_, _, ⟨T5, L5, k5, n5⟩, -, X5, ⟨Lc5, hQ5, l5, y5, z5⟩, st5⟩ := X4.virtualBack hx (y := (⟨"com/example/itinerant/itinerant/requests/Request", "mustBeServed", "()Z"⟩ : MethodName)) (z := (⟨"com/example/itinerant/itinerant/requests/Request", "mustBeServed", "()Z"⟩ : MethodName)) hown4 (mvT hZ4 (hw _ (List.mem_of_getElem? (i := 111) rfl))) (mvT hZ4 (hw _ (List.mem_of_getElem? (i := 112) rfl))) (notFace_of_selects (args := #[]) (mvT hZ4 (hw _ (List.mem_of_getElem? (i := 114) rfl)))) (mvT hZ4 (hw _ (List.mem_of_getElem? (i := 114) rfl))) (mvT hZ4 (hw _ (List.mem_of_getElem? (i := 113) rfl))) (by decide) (backOf (W := 0) (rmBf l Z a0 hw [] nw pp T4.heap n0 SZ4 F4q (own_pen hU).2.2) hZ4 (hw _ (List.mem_of_getElem? (i := 115) rfl)) (hw _ (List.mem_of_getElem? (i := 3) rfl)) (by decide) (by decide)) q5a q5c (g := (mkF m 147 #[.val (.int pf), .val (.long pm), .second, .val (.int pl), .val (.int pr), .val (.int (1 : Int32)), .val (.int sl), .val (.double d1), .second, .val (.double d2), .second, .val (.double d4), .second, .val (.double d8), .second, .val (.double d16), .second, .val (.double pp), .second, .val (.ref nr), .val (.ref nw)] [(.ref nw)])) rfl (by rw [hml]; rfl) (Steps.refl _) (argsL := []) (rest := []) (lenOf pd___Z rfl) rfl (by show 2 * 0 + _ ≤ _; exact Nat.le_of_eq rfl) (hb hby at_147) (fun _ _ => ⟨rfl, rfl, (by decide : 24 + 0 ≤ _), (by decide : 324 + 0 ≤ _)⟩)
  dsimp only [Pt.U, Pt.locs, Pt.cells, Pt.slots] at X5 l5 y5 z5 st5 hQ5
  subst l5 y5 z5
  obtain ⟨rfl, N5q, eq5⟩ := hQ5
  have N5 := Fr.app N4 N5q
  obtain ⟨fs, hr, hrun, hended, hRW⟩ := X5.leaveW hS4 (show _ ≤ T5.heap.size from by rw [eq5]; exact (Nat.le_refl _)) (v := some (.int (1 : Int32))) (fun h => by rw [Bd.returns] at h; cases h)
  refine ⟨_, _, pre0 _ ?_, hrun, hended, _, _, rfl, ?_, ⟨_, rfl⟩, hRW.2.1, hRW.2.2.1, hRW.2.2.2.mono (by decide) (by decide)⟩
  · show Steps p.tables e below (s₁.setTop (mkF m 0 #[.val (.int pf), .val (.long pm), .second, .val (.int pl), .val (.int pr), .unset, .unset, .unset, .unset, .unset, .unset, .unset, .unset, .unset, .unset, .unset, .unset, .unset, .unset, .unset, .unset] [])) _
    refine hst _ ?_
    show Steps p.tables e below (s₁.setTop (mkF m 104 #[.val (.int pf), .val (.long pm), .second, .val (.int pl), .val (.int pr), .val (.int (1 : Int32)), .val (.int sl), .val (.double d1), .second, .val (.double d2), .second, .val (.double d4), .second, .val (.double d8), .second, .val (.double d16), .second, .val (.double pp), .second, .unset, .unset] [])) _
    refine st1 _ ?_
    show Steps p.tables e below (T1.setTop (mkF m 107 #[.val (.int pf), .val (.long pm), .second, .val (.int pl), .val (.int pr), .val (.int (1 : Int32)), .val (.int sl), .val (.double d1), .second, .val (.double d2), .second, .val (.double d4), .second, .val (.double d8), .second, .val (.double d16), .second, .val (.double pp), .second, .unset, .unset] [(.ref nr)])) _
    refine XS.dup X1.here hx rfl (hb hby at_107) rfl rfl ?_
    show Steps p.tables e below (T1.setTop (mkF m 108 #[.val (.int pf), .val (.long pm), .second, .val (.int pl), .val (.int pr), .val (.int (1 : Int32)), .val (.int sl), .val (.double d1), .second, .val (.double d2), .second, .val (.double d4), .second, .val (.double d8), .second, .val (.double d16), .second, .val (.double pp), .second, .unset, .unset] [(.ref nr), (.ref nr)])) _
    refine st2 _ ?_
    show Steps p.tables e below (T2.setTop (mkF m 110 #[.val (.int pf), .val (.long pm), .second, .val (.int pl), .val (.int pr), .val (.int (1 : Int32)), .val (.int sl), .val (.double d1), .second, .val (.double d2), .second, .val (.double d4), .second, .val (.double d8), .second, .val (.double d16), .second, .val (.double pp), .second, .unset, .unset] [(.ref sa), (.ref nr), (.ref nr)])) _
    refine XS.iloadN X2.here hx rfl (hb hby at_110) rfl ?_
    show Steps p.tables e below (T2.setTop (mkF m 111 #[.val (.int pf), .val (.long pm), .second, .val (.int pl), .val (.int pr), .val (.int (1 : Int32)), .val (.int sl), .val (.double d1), .second, .val (.double d2), .second, .val (.double d4), .second, .val (.double d8), .second, .val (.double d16), .second, .val (.double pp), .second, .unset, .unset] [(.int pl), (.ref sa), (.ref nr), (.ref nr)])) _
    refine X2.ldcInt hx hown2 (mvT hZ2 (hw _ (List.mem_of_getElem? (i := 12) rfl))) (g := (mkF m 111 #[.val (.int pf), .val (.long pm), .second, .val (.int pl), .val (.int pr), .val (.int (1 : Int32)), .val (.int sl), .val (.double d1), .second, .val (.double d2), .second, .val (.double d4), .second, .val (.double d8), .second, .val (.double d16), .second, .val (.double pp), .second, .unset, .unset] [(.int pl), (.ref sa), (.ref nr), (.ref nr)])) rfl (hb hby at_111) _ ?_
    show Steps p.tables e below (T2.setTop (mkF m 113 #[.val (.int pf), .val (.long pm), .second, .val (.int pl), .val (.int pr), .val (.int (1 : Int32)), .val (.int sl), .val (.double d1), .second, .val (.double d2), .second, .val (.double d4), .second, .val (.double d8), .second, .val (.double d16), .second, .val (.double pp), .second, .unset, .unset] [(.int (65535 : Int32)), (.int pl), (.ref sa), (.ref nr), (.ref nr)])) _
    refine XS.iand X2.here hx rfl (hb hby at_113) rfl ?_
    show Steps p.tables e below (T2.setTop (mkF m 114 #[.val (.int pf), .val (.long pm), .second, .val (.int pl), .val (.int pr), .val (.int (1 : Int32)), .val (.int sl), .val (.double d1), .second, .val (.double d2), .second, .val (.double d4), .second, .val (.double d8), .second, .val (.double d16), .second, .val (.double pp), .second, .unset, .unset] [(.int (pl &&& (65535 : Int32))), (.ref sa), (.ref nr), (.ref nr)])) _
    refine XS.i2dS X2.here hx rfl (hb hby at_114) rfl (v := (FP.i2d (pl &&& (65535 : Int32)))) (rfl) ?_
    show Steps p.tables e below (T2.setTop (mkF m 115 #[.val (.int pf), .val (.long pm), .second, .val (.int pl), .val (.int pr), .val (.int (1 : Int32)), .val (.int sl), .val (.double d1), .second, .val (.double d2), .second, .val (.double d4), .second, .val (.double d8), .second, .val (.double d16), .second, .val (.double pp), .second, .unset, .unset] [(.double (FP.i2d (pl &&& (65535 : Int32)))), (.ref sa), (.ref nr), (.ref nr)])) _
    refine XS.iload X2.here hx rfl (hb hby at_115) rfl ?_
    show Steps p.tables e below (T2.setTop (mkF m 117 #[.val (.int pf), .val (.long pm), .second, .val (.int pl), .val (.int pr), .val (.int (1 : Int32)), .val (.int sl), .val (.double d1), .second, .val (.double d2), .second, .val (.double d4), .second, .val (.double d8), .second, .val (.double d16), .second, .val (.double pp), .second, .unset, .unset] [(.int pr), (.double (FP.i2d (pl &&& (65535 : Int32)))), (.ref sa), (.ref nr), (.ref nr)])) _
    refine X2.ldcInt hx hown2 (mvT hZ2 (hw _ (List.mem_of_getElem? (i := 12) rfl))) (g := (mkF m 117 #[.val (.int pf), .val (.long pm), .second, .val (.int pl), .val (.int pr), .val (.int (1 : Int32)), .val (.int sl), .val (.double d1), .second, .val (.double d2), .second, .val (.double d4), .second, .val (.double d8), .second, .val (.double d16), .second, .val (.double pp), .second, .unset, .unset] [(.int pr), (.double (FP.i2d (pl &&& (65535 : Int32)))), (.ref sa), (.ref nr), (.ref nr)])) rfl (hb hby at_117) _ ?_
    show Steps p.tables e below (T2.setTop (mkF m 119 #[.val (.int pf), .val (.long pm), .second, .val (.int pl), .val (.int pr), .val (.int (1 : Int32)), .val (.int sl), .val (.double d1), .second, .val (.double d2), .second, .val (.double d4), .second, .val (.double d8), .second, .val (.double d16), .second, .val (.double pp), .second, .unset, .unset] [(.int (65535 : Int32)), (.int pr), (.double (FP.i2d (pl &&& (65535 : Int32)))), (.ref sa), (.ref nr), (.ref nr)])) _
    refine XS.iand X2.here hx rfl (hb hby at_119) rfl ?_
    show Steps p.tables e below (T2.setTop (mkF m 120 #[.val (.int pf), .val (.long pm), .second, .val (.int pl), .val (.int pr), .val (.int (1 : Int32)), .val (.int sl), .val (.double d1), .second, .val (.double d2), .second, .val (.double d4), .second, .val (.double d8), .second, .val (.double d16), .second, .val (.double pp), .second, .unset, .unset] [(.int (pr &&& (65535 : Int32))), (.double (FP.i2d (pl &&& (65535 : Int32)))), (.ref sa), (.ref nr), (.ref nr)])) _
    refine XS.i2dS X2.here hx rfl (hb hby at_120) rfl (v := (FP.i2d (pr &&& (65535 : Int32)))) (rfl) ?_
    show Steps p.tables e below (T2.setTop (mkF m 121 #[.val (.int pf), .val (.long pm), .second, .val (.int pl), .val (.int pr), .val (.int (1 : Int32)), .val (.int sl), .val (.double d1), .second, .val (.double d2), .second, .val (.double d4), .second, .val (.double d8), .second, .val (.double d16), .second, .val (.double pp), .second, .unset, .unset] [(.double (FP.i2d (pr &&& (65535 : Int32)))), (.double (FP.i2d (pl &&& (65535 : Int32)))), (.ref sa), (.ref nr), (.ref nr)])) _
    refine st3.trans ?_
    show Steps p.tables e below (T3.setTop (mkF m 124 #[.val (.int pf), .val (.long pm), .second, .val (.int pl), .val (.int pr), .val (.int (1 : Int32)), .val (.int sl), .val (.double d1), .second, .val (.double d2), .second, .val (.double d4), .second, .val (.double d8), .second, .val (.double d16), .second, .val (.double pp), .second, .unset, .unset] [(.ref nr)])) _
    refine XS.astore X3.here hx rfl (hb hby at_124) rfl rfl (l' := #[.val (.int pf), .val (.long pm), .second, .val (.int pl), .val (.int pr), .val (.int (1 : Int32)), .val (.int sl), .val (.double d1), .second, .val (.double d2), .second, .val (.double d4), .second, .val (.double d8), .second, .val (.double d16), .second, .val (.double pp), .second, .val (.ref nr), .unset]) rfl ?_
    show Steps p.tables e below (T3.setTop (mkF m 126 #[.val (.int pf), .val (.long pm), .second, .val (.int pl), .val (.int pr), .val (.int (1 : Int32)), .val (.int sl), .val (.double d1), .second, .val (.double d2), .second, .val (.double d4), .second, .val (.double d8), .second, .val (.double d16), .second, .val (.double pp), .second, .val (.ref nr), .unset] [])) _
    refine XS.iload X3.here hx rfl (hb hby at_126) rfl ?_
    show Steps p.tables e below (T3.setTop (mkF m 128 #[.val (.int pf), .val (.long pm), .second, .val (.int pl), .val (.int pr), .val (.int (1 : Int32)), .val (.int sl), .val (.double d1), .second, .val (.double d2), .second, .val (.double d4), .second, .val (.double d8), .second, .val (.double d16), .second, .val (.double pp), .second, .val (.ref nr), .unset] [(.int (1 : Int32))])) _
    refine XS.ifNo X3.here hx rfl (hb hby at_128) rfl ((if0 _ _).trans (feq (by decide : ¬ ((1 : Int32) = (0 : Int32)))).1) ?_
    show Steps p.tables e below (T3.setTop (mkF m 131 #[.val (.int pf), .val (.long pm), .second, .val (.int pl), .val (.int pr), .val (.int (1 : Int32)), .val (.int sl), .val (.double d1), .second, .val (.double d2), .second, .val (.double d4), .second, .val (.double d8), .second, .val (.double d16), .second, .val (.double pp), .second, .val (.ref nr), .unset] [])) _
    refine XS.aload X3.here hx rfl (hb hby at_131) rfl rfl ?_
    show Steps p.tables e below (T3.setTop (mkF m 133 #[.val (.int pf), .val (.long pm), .second, .val (.int pl), .val (.int pr), .val (.int (1 : Int32)), .val (.int sl), .val (.double d1), .second, .val (.double d2), .second, .val (.double d4), .second, .val (.double d8), .second, .val (.double d16), .second, .val (.double pp), .second, .val (.ref nr), .unset] [(.ref nr)])) _
    refine XS.dload X3.here hx rfl (hb hby at_133) rfl ?_
    show Steps p.tables e below (T3.setTop (mkF m 135 #[.val (.int pf), .val (.long pm), .second, .val (.int pl), .val (.int pr), .val (.int (1 : Int32)), .val (.int sl), .val (.double d1), .second, .val (.double d2), .second, .val (.double d4), .second, .val (.double d8), .second, .val (.double d16), .second, .val (.double pp), .second, .val (.ref nr), .unset] [(.double pp), (.ref nr)])) _
    refine st4.trans ?_
    show Steps p.tables e below (T4.setTop (mkF m 138 #[.val (.int pf), .val (.long pm), .second, .val (.int pl), .val (.int pr), .val (.int (1 : Int32)), .val (.int sl), .val (.double d1), .second, .val (.double d2), .second, .val (.double d4), .second, .val (.double d8), .second, .val (.double d16), .second, .val (.double pp), .second, .val (.ref nr), .unset] [(.ref nw)])) _
    refine XS.goto X4.here hx rfl (pc0 := 138) (pc' := 143) rfl (hb hby at_138) (by decide) (by decide) ?_
    show Steps p.tables e below (T4.setTop (mkF m 143 #[.val (.int pf), .val (.long pm), .second, .val (.int pl), .val (.int pr), .val (.int (1 : Int32)), .val (.int sl), .val (.double d1), .second, .val (.double d2), .second, .val (.double d4), .second, .val (.double d8), .second, .val (.double d16), .second, .val (.double pp), .second, .val (.ref nr), .unset] [(.ref nw)])) _
    refine XS.astore X4.here hx rfl (hb hby at_143) rfl rfl (l' := #[.val (.int pf), .val (.long pm), .second, .val (.int pl), .val (.int pr), .val (.int (1 : Int32)), .val (.int sl), .val (.double d1), .second, .val (.double d2), .second, .val (.double d4), .second, .val (.double d8), .second, .val (.double d16), .second, .val (.double pp), .second, .val (.ref nr), .val (.ref nw)]) rfl ?_
    show Steps p.tables e below (T4.setTop (mkF m 145 #[.val (.int pf), .val (.long pm), .second, .val (.int pl), .val (.int pr), .val (.int (1 : Int32)), .val (.int sl), .val (.double d1), .second, .val (.double d2), .second, .val (.double d4), .second, .val (.double d8), .second, .val (.double d16), .second, .val (.double pp), .second, .val (.ref nr), .val (.ref nw)] [])) _
    refine XS.aload X4.here hx rfl (hb hby at_145) rfl rfl ?_
    show Steps p.tables e below (T4.setTop (mkF m 147 #[.val (.int pf), .val (.long pm), .second, .val (.int pl), .val (.int pr), .val (.int (1 : Int32)), .val (.int sl), .val (.double d1), .second, .val (.double d2), .second, .val (.double d4), .second, .val (.double d8), .second, .val (.double d16), .second, .val (.double pp), .second, .val (.ref nr), .val (.ref nw)] [(.ref nw)])) _
    refine st5.trans ?_
    show Steps p.tables e below (T5.setTop (mkF m 150 #[.val (.int pf), .val (.long pm), .second, .val (.int pl), .val (.int pr), .val (.int (1 : Int32)), .val (.int sl), .val (.double d1), .second, .val (.double d2), .second, .val (.double d4), .second, .val (.double d8), .second, .val (.double d16), .second, .val (.double pp), .second, .val (.ref nr), .val (.ref nw)] [(.int (0 : Int32))])) _
    refine XS.iload X5.here hx rfl (hb hby at_150) rfl ?_
    show Steps p.tables e below (T5.setTop (mkF m 152 #[.val (.int pf), .val (.long pm), .second, .val (.int pl), .val (.int pr), .val (.int (1 : Int32)), .val (.int sl), .val (.double d1), .second, .val (.double d2), .second, .val (.double d4), .second, .val (.double d8), .second, .val (.double d16), .second, .val (.double pp), .second, .val (.ref nr), .val (.ref nw)] [(.int (1 : Int32)), (.int (0 : Int32))])) _
    refine XS.ifYes X5.here hx rfl (pc0 := 152) (pc' := 159) rfl (hb hby at_152) rfl ((if0 _ _).trans (feq (by decide : ¬ ((1 : Int32) = (0 : Int32)))).2) (by decide) (by decide) ?_
    show Steps p.tables e below (T5.setTop (mkF m 159 #[.val (.int pf), .val (.long pm), .second, .val (.int pl), .val (.int pr), .val (.int (1 : Int32)), .val (.int sl), .val (.double d1), .second, .val (.double d2), .second, .val (.double d4), .second, .val (.double d8), .second, .val (.double d16), .second, .val (.double pp), .second, .val (.ref nr), .val (.ref nw)] [(.int (0 : Int32))])) _
    refine XS.iconst X5.here hx rfl (hb hby at_159) ?_
    show Steps p.tables e below (T5.setTop (mkF m 160 #[.val (.int pf), .val (.long pm), .second, .val (.int pl), .val (.int pr), .val (.int (1 : Int32)), .val (.int sl), .val (.double d1), .second, .val (.double d2), .second, .val (.double d4), .second, .val (.double d8), .second, .val (.double d16), .second, .val (.double pp), .second, .val (.ref nr), .val (.ref nw)] [(.int (0 : Int32)), (.int (0 : Int32))])) _
    refine XS.icmpNo X5.here hx rfl (hb hby at_160) rfl (teq (by decide : (0 : Int32) = (0 : Int32))).2 ?_
    show Steps p.tables e below (T5.setTop (mkF m 163 #[.val (.int pf), .val (.long pm), .second, .val (.int pl), .val (.int pr), .val (.int (1 : Int32)), .val (.int sl), .val (.double d1), .second, .val (.double d2), .second, .val (.double d4), .second, .val (.double d8), .second, .val (.double d16), .second, .val (.double pp), .second, .val (.ref nr), .val (.ref nw)] [])) _
    refine XS.iconst X5.here hx rfl (hb hby at_163) ?_
    show Steps p.tables e below (T5.setTop (mkF m 164 #[.val (.int pf), .val (.long pm), .second, .val (.int pl), .val (.int pr), .val (.int (1 : Int32)), .val (.int sl), .val (.double d1), .second, .val (.double d2), .second, .val (.double d4), .second, .val (.double d8), .second, .val (.double d16), .second, .val (.double pp), .second, .val (.ref nr), .val (.ref nw)] [(.int (1 : Int32))])) _
    refine XS.goto X5.here hx rfl (pc0 := 164) (pc' := 168) rfl (hb hby at_164) (by decide) (by decide) ?_
    show Steps p.tables e below (T5.setTop (mkF m 168 #[.val (.int pf), .val (.long pm), .second, .val (.int pl), .val (.int pr), .val (.int (1 : Int32)), .val (.int sl), .val (.double d1), .second, .val (.double d2), .second, .val (.double d4), .second, .val (.double d8), .second, .val (.double d16), .second, .val (.double pp), .second, .val (.ref nr), .val (.ref nw)] [(.int (1 : Int32))])) _
    exact retN X5 hx (t := .boolean) Bd.returns (by simp) (hb hby at_168) hr
  · show QL n0 _ T5.heap _
    rw [eq5]
    exact ⟨rfl, N5⟩
set_option maxRecDepth 65536 in
set_option maxHeartbeats 40000000 in
theorem rm00 (l : Launch) (Z : State) (a0 : Array Value) (hw : ∀ d ∈ tables_1, d.before a0 Z = true) (ws : List Jvm.Cond) (pf : Int32) (pm : Int64) (pl pr : Int32) (h0 : Heap) (n0 : Nat) (Z0 : n0 ≤ h0.size) (hheld : Jvm.Lit.constHeld Z "com/example/itinerant/itinerant/requests/RequestMustBeServedPinLaw" 13) (hcw : Jvm.Lit.compactW.before a0 Z = true) (cs : Int32) (fv : Value) (S_c : Sta Z Z.heap "java/lang/String" "COMPACT_STRINGS" "Z" (.int cs)) (hcs : ¬ (cs = (0 : Int32))) (S_f : Sta Z Z.heap "jdk/internal/util/Preconditions" "SIOOBE_FORMATTER" "Ljava/util/function/BiFunction;" fv) (hfv : fv.isRef = true) (O0 : Old Z n0 h0) (hfi : (pf &&& (1 : Int32)) = (0 : Int32))  :
    MetFree l x (head1 (Jvm.Cond.code x code maxLocals ret :: ws) room_1) (fun a U => a = #[(.int pf), (.long pm), (.int pl), (.int pr)] ∧ Z.Warmed39 U.vm ∧ U.heap = h0 ∧ U.vm = Z.vm) (fun _ _ _ _ _ => True) (fun _ U o U' => ∃ v L, o = .returned v ∧ QL n0 v U'.heap L ∧ ReturnedEndW U o U' L 13 166) := by
  refine MetFree.of_bodySF (plainFor_of_name pn_com_example_itinerant_itinerant_requests_RequestMustBeServedPinLaw) hisR ?_
  intro p e s m args below meth c s₁ Bd hml0 hP hK
  obtain ⟨rfl, hZ, hh, hvm⟩ := hP
  have hx := Bd.exec
  have hby := Bd.bytes
  have hml : c.maxLocals = 21 := hml0
  have hown : s.vm.findClass "com/example/itinerant/itinerant/requests/RequestMustBeServedPinLaw" = some m.cls := findClass_of_methodNamed Bd.named
  have hnm := (name_of_methodNamed Bd.named Bd.method).1
  have X0 : Stand p l e room_1 (s.setVm s.vm) m #[(.int pf), (.long pm), (.int pl), (.int pr)] below meth c s₁ [] 0 0 := Stand.of_body Bd
  have e0 : s₁.heap = h0 := by rw [← hh, Bd.state]; rfl
  have N0 := Fr.nil n0
  have pre0 : ∀ t, Steps p.tables e below (s₁.setTop (mkF m 0 #[.val (.int pf), .val (.long pm), .second, .val (.int pl), .val (.int pr), .unset, .unset, .unset, .unset, .unset, .unset, .unset, .unset, .unset, .unset, .unset, .unset, .unset, .unset, .unset, .unset] [])) t → Steps p.tables e below (s₁.setTop (entryFrame m #[(.int pf), (.long pm), (.int pl), (.int pr)] maxLocals)) t := fun t k => castTop (ef_code m pf pm pl pr) k
  have hS0 : s.Since s.vm 0 := (State.WarmedH.refl s).since 0
  have hk0 : 0 ≤ h0.size := Nat.zero_le _
  obtain ⟨sl, d1, d2, d4, d8, d16, pp, ku, hU, hst⟩ := own_head0 pf pm pl pr X0 hx hZ hw hby hown hfi
  obtain ⟨T1, h1, X1, e1, E1, A1, D1, -, st1⟩ := newO X0 hx hZ hown (hw _ (List.mem_of_getElem? (i := 1) rfl)) (hw _ (List.mem_of_getElem? (i := 2) rfl)) (hw _ (List.mem_of_getElem? (i := 3) rfl)) e0 (g := (mkF m 104 #[.val (.int pf), .val (.long pm), .second, .val (.int pl), .val (.int pr), .val (.int (0 : Int32)), .val (.int sl), .val (.double d1), .second, .val (.double d2), .second, .val (.double d4), .second, .val (.double d8), .second, .val (.double d16), .second, .val (.double pp), .second, .unset, .unset] [])) rfl (hb hby at_104) (by decide) (by decide)
  obtain ⟨nr, g1⟩ : ∃ z, z = h0.size := ⟨_, rfl⟩
  rw [← g1] at A1 D1 st1
  have g_nr : n0 ≤ nr := Nat.le_trans Z0 (Nat.le_of_eq g1.symm)
  have SZ1 := Nat.le_trans Z0 E1.1
  have hk1 := Nat.le_trans hk0 E1.1
  have O1 := Old.ext O0 E1
  have F1_id : Fld Z h1 nr "com/example/itinerant/itinerant/requests/Request" "id" "Ljava/lang/String;" .null := D1 (Or.inr (hw _ (List.mem_of_getElem? (i := 100) rfl))) (ty := (.object "java/lang/String")) (by decide)
  have F1_location : Fld Z h1 nr "com/example/itinerant/itinerant/requests/Request" "location" "D" (.double (0 : UInt64)) := D1 (Or.inr (hw _ (List.mem_of_getElem? (i := 102) rfl))) (ty := .double) (by decide)
  have F1_release : Fld Z h1 nr "com/example/itinerant/itinerant/requests/Request" "release" "D" (.double (0 : UInt64)) := D1 (Or.inr (hw _ (List.mem_of_getElem? (i := 104) rfl))) (ty := .double) (by decide)
  have F1_disclosure : Fld Z h1 nr "com/example/itinerant/itinerant/requests/Request" "disclosure" "D" (.double (0 : UInt64)) := D1 (Or.inr (hw _ (List.mem_of_getElem? (i := 106) rfl))) (ty := .double) (by decide)
  have F1_penalty : Fld Z h1 nr "com/example/itinerant/itinerant/requests/Request" "penalty" "D" (.double (0 : UInt64)) := D1 (Or.inr (hw _ (List.mem_of_getElem? (i := 108) rfl))) (ty := .double) (by decide)
  have F1_weight : Fld Z h1 nr "com/example/itinerant/itinerant/requests/Request" "weight" "D" (.double (0 : UInt64)) := D1 (Or.inr (hw _ (List.mem_of_getElem? (i := 110) rfl))) (ty := .double) (by decide)
  obtain ⟨sa, T2, h2, k2, sb, kb, X2, e2, E2, hS2, hk2, hZ2, hown2, ES, CS, VS, KS, -, -, -, st2⟩ := ldcSV X1 hx hZ hown (hw _ (List.mem_of_getElem? (i := 4) rfl)) (own_wS hw) e1 hS0 hk1 (Fr.nil _) (fun b cl qq => by rw [hh]; exact O0.2.2 b cl qq) (hvm ▸ IB.start : IB Z s.vm []) (by simp) hheld hcw (vs := [(.int (114 : Int32))]) (z := (1 : Int32)) ⟨by decide, by decide⟩ (by decide) (by decide) (g := (mkF m 108 #[.val (.int pf), .val (.long pm), .second, .val (.int pl), .val (.int pr), .val (.int (0 : Int32)), .val (.int sl), .val (.double d1), .second, .val (.double d2), .second, .val (.double d4), .second, .val (.double d8), .second, .val (.double d16), .second, .val (.double pp), .second, .unset, .unset] [(.ref nr), (.ref nr)])) rfl (hb hby at_108) (n := 4) (by decide) (by decide) (by decide) (by decide)
  have c2_0 := A1.ext E2
  have c2_1 := F1_id.ext E2
  have c2_2 := F1_location.ext E2
  have c2_3 := F1_release.ext E2
  have c2_4 := F1_disclosure.ext E2
  have c2_5 := F1_penalty.ext E2
  have c2_6 := F1_weight.ext E2
  have SZ2 := Nat.le_trans SZ1 E2.1
  have O2 := Old.ext O1 E2
  have ne_sa : sa ≠ nr := Exa.ne ES c2_0 (by decide)
  have ne_sb : sb ≠ nr := Ne.symm (Exa.neArv c2_0 KS (hw _ (List.mem_of_getElem? (i := 2) rfl)))
  obtain ⟨_, _, ⟨T3, L3, k3, n3⟩, -, X3r, hS3r, hz3r, ⟨Lc3, hQ3, l3, y3, z3⟩, st3⟩ := X2.specialBackS hx (y := (⟨"com/example/itinerant/itinerant/requests/Request", "<init>", "(Ljava/lang/String;DD)V"⟩ : MethodName)) rfl hown2 (mvT hZ2 (hw _ (List.mem_of_getElem? (i := 13) rfl))) (mvT hZ2 (hw _ (List.mem_of_getElem? (i := 14) rfl))) (mvT hZ2 (hw _ (List.mem_of_getElem? (i := 15) rfl))) (by decide) (backOfS (W := 1) (rm3 l Z a0 hw [] nr sa sb kb cs fv (FP.i2d (pl &&& (65535 : Int32))) (FP.i2d (pr &&& (65535 : Int32))) h2 n0 SZ2 c2_0 c2_1 c2_2 c2_3 c2_4 c2_5 c2_6 g_nr ES CS VS KS S_c hcs S_f hfv O2 (own_nonneg (own_sixteen pl).1 (own_sixteen pl).2) (own_nonneg (own_sixteen pr).1 (own_sixteen pr).2)) hZ2 (hw _ (List.mem_of_getElem? (i := 15) rfl)) (hw _ (List.mem_of_getElem? (i := 3) rfl)) (by decide) (by decide)) (g := (mkF m 121 #[.val (.int pf), .val (.long pm), .second, .val (.int pl), .val (.int pr), .val (.int (0 : Int32)), .val (.int sl), .val (.double d1), .second, .val (.double d2), .second, .val (.double d4), .second, .val (.double d8), .second, .val (.double d16), .second, .val (.double pp), .second, .unset, .unset] [(.double (FP.i2d (pr &&& (65535 : Int32)))), (.double (FP.i2d (pl &&& (65535 : Int32)))), (.ref sa), (.ref nr), (.ref nr)])) rfl (by rw [hml]; rfl) (Steps.refl _) (a := nr) (argsL := [(.ref sa), (.double (FP.i2d (pl &&& (65535 : Int32)))), (.double (FP.i2d (pr &&& (65535 : Int32))))]) (rest := [(.ref nr)]) (lenOf pd__Ljava_lang_String_DD_V rfl) rfl (by show 2 * 0 + _ ≤ _; exact Nat.le_of_eq rfl) (hb hby at_121) (fun _ _ => ⟨rfl, e2, (by decide : 3 + 10 ≤ _), (by decide : 14 + 152 ≤ _)⟩)
  dsimp only [Pt.U, Pt.locs, Pt.cells, Pt.slots] at X3r hS3r hz3r l3 y3 z3 st3 hQ3
  subst l3 y3 z3
  obtain ⟨X3, hS3, hZ3, hown3⟩ := rebS hS2 (show _ ≤ T2.heap.size from by rw [e2]; exact hk2) X3r hS3r hz3r hZ2 hown2
  obtain ⟨rfl, N3q, K3q, E3q, F3q0, F3q1, F3q2, F3q3, F3q4, F3q5⟩ := hQ3
  have c3_0 := c2_0.keep K3q
  have c3_7 := ES.keep K3q
  have c3_8 := CS.keep K3q (by simp only [List.mem_cons, List.not_mem_nil, or_false, not_or]; exact ne_sa)
  have c3_9 := VS.keep K3q (by simp only [List.mem_cons, List.not_mem_nil, or_false, not_or]; exact ne_sa)
  have c3_10 := KS.keep K3q (by simp only [List.mem_cons, List.not_mem_nil, or_false, not_or]; exact ne_sb)
  have SZ3 := Nat.le_trans SZ2 K3q.1
  have O3 := Old.keep O2 K3q (fun x hx => by simp only [List.mem_cons, List.not_mem_nil, or_false] at hx; subst hx; exact g_nr)
  have N3 := Fr.app N0 N3q
  obtain ⟨cq4, kq4, q4a, q4b, q4c⟩ := isOf hZ3 rfl E3q
  obtain ⟨_, _, ⟨T4, L4, k4, n4⟩, -, X4, ⟨Lc4, hQ4, l4, y4, z4⟩, st4⟩ := X3.virtualBack hx (y := (⟨"com/example/itinerant/itinerant/requests/Request", "mustBeServed", "()Z"⟩ : MethodName)) (z := (⟨"com/example/itinerant/itinerant/requests/Request", "mustBeServed", "()Z"⟩ : MethodName)) hown3 (mvT hZ3 (hw _ (List.mem_of_getElem? (i := 111) rfl))) (mvT hZ3 (hw _ (List.mem_of_getElem? (i := 112) rfl))) (notFace_of_selects (args := #[]) (mvT hZ3 (hw _ (List.mem_of_getElem? (i := 114) rfl)))) (mvT hZ3 (hw _ (List.mem_of_getElem? (i := 114) rfl))) (mvT hZ3 (hw _ (List.mem_of_getElem? (i := 113) rfl))) (by decide) (backOf (W := 0) (rmBt l Z a0 hw [] nr (9218868437227405312 : UInt64) T3.heap n0 SZ3 F3q4 own_infinf) hZ3 (hw _ (List.mem_of_getElem? (i := 115) rfl)) (hw _ (List.mem_of_getElem? (i := 3) rfl)) (by decide) (by decide)) q4a q4c (g := (mkF m 147 #[.val (.int pf), .val (.long pm), .second, .val (.int pl), .val (.int pr), .val (.int (0 : Int32)), .val (.int sl), .val (.double d1), .second, .val (.double d2), .second, .val (.double d4), .second, .val (.double d8), .second, .val (.double d16), .second, .val (.double pp), .second, .val (.ref nr), .val (.ref nr)] [(.ref nr)])) rfl (by rw [hml]; rfl) (Steps.refl _) (argsL := []) (rest := []) (lenOf pd___Z rfl) rfl (by show 2 * 0 + _ ≤ _; exact Nat.le_of_eq rfl) (hb hby at_147) (fun _ _ => ⟨rfl, rfl, (by decide : 13 + 0 ≤ _), (by decide : 166 + 0 ≤ _)⟩)
  dsimp only [Pt.U, Pt.locs, Pt.cells, Pt.slots] at X4 l4 y4 z4 st4 hQ4
  subst l4 y4 z4
  obtain ⟨rfl, N4q, eq4⟩ := hQ4
  have N4 := Fr.app N3 N4q
  obtain ⟨fs, hr, hrun, hended, hRW⟩ := X4.leaveW hS3 (show _ ≤ T4.heap.size from by rw [eq4]; exact (Nat.le_refl _)) (v := some (.int (1 : Int32))) (fun h => by rw [Bd.returns] at h; cases h)
  refine ⟨_, _, pre0 _ ?_, hrun, hended, _, _, rfl, ?_, ⟨_, rfl⟩, hRW.2.1, hRW.2.2.1, hRW.2.2.2.mono (by decide) (by decide)⟩
  · show Steps p.tables e below (s₁.setTop (mkF m 0 #[.val (.int pf), .val (.long pm), .second, .val (.int pl), .val (.int pr), .unset, .unset, .unset, .unset, .unset, .unset, .unset, .unset, .unset, .unset, .unset, .unset, .unset, .unset, .unset, .unset] [])) _
    refine hst _ ?_
    show Steps p.tables e below (s₁.setTop (mkF m 104 #[.val (.int pf), .val (.long pm), .second, .val (.int pl), .val (.int pr), .val (.int (0 : Int32)), .val (.int sl), .val (.double d1), .second, .val (.double d2), .second, .val (.double d4), .second, .val (.double d8), .second, .val (.double d16), .second, .val (.double pp), .second, .unset, .unset] [])) _
    refine st1 _ ?_
    show Steps p.tables e below (T1.setTop (mkF m 107 #[.val (.int pf), .val (.long pm), .second, .val (.int pl), .val (.int pr), .val (.int (0 : Int32)), .val (.int sl), .val (.double d1), .second, .val (.double d2), .second, .val (.double d4), .second, .val (.double d8), .second, .val (.double d16), .second, .val (.double pp), .second, .unset, .unset] [(.ref nr)])) _
    refine XS.dup X1.here hx rfl (hb hby at_107) rfl rfl ?_
    show Steps p.tables e below (T1.setTop (mkF m 108 #[.val (.int pf), .val (.long pm), .second, .val (.int pl), .val (.int pr), .val (.int (0 : Int32)), .val (.int sl), .val (.double d1), .second, .val (.double d2), .second, .val (.double d4), .second, .val (.double d8), .second, .val (.double d16), .second, .val (.double pp), .second, .unset, .unset] [(.ref nr), (.ref nr)])) _
    refine st2 _ ?_
    show Steps p.tables e below (T2.setTop (mkF m 110 #[.val (.int pf), .val (.long pm), .second, .val (.int pl), .val (.int pr), .val (.int (0 : Int32)), .val (.int sl), .val (.double d1), .second, .val (.double d2), .second, .val (.double d4), .second, .val (.double d8), .second, .val (.double d16), .second, .val (.double pp), .second, .unset, .unset] [(.ref sa), (.ref nr), (.ref nr)])) _
    refine XS.iloadN X2.here hx rfl (hb hby at_110) rfl ?_
    show Steps p.tables e below (T2.setTop (mkF m 111 #[.val (.int pf), .val (.long pm), .second, .val (.int pl), .val (.int pr), .val (.int (0 : Int32)), .val (.int sl), .val (.double d1), .second, .val (.double d2), .second, .val (.double d4), .second, .val (.double d8), .second, .val (.double d16), .second, .val (.double pp), .second, .unset, .unset] [(.int pl), (.ref sa), (.ref nr), (.ref nr)])) _
    refine X2.ldcInt hx hown2 (mvT hZ2 (hw _ (List.mem_of_getElem? (i := 12) rfl))) (g := (mkF m 111 #[.val (.int pf), .val (.long pm), .second, .val (.int pl), .val (.int pr), .val (.int (0 : Int32)), .val (.int sl), .val (.double d1), .second, .val (.double d2), .second, .val (.double d4), .second, .val (.double d8), .second, .val (.double d16), .second, .val (.double pp), .second, .unset, .unset] [(.int pl), (.ref sa), (.ref nr), (.ref nr)])) rfl (hb hby at_111) _ ?_
    show Steps p.tables e below (T2.setTop (mkF m 113 #[.val (.int pf), .val (.long pm), .second, .val (.int pl), .val (.int pr), .val (.int (0 : Int32)), .val (.int sl), .val (.double d1), .second, .val (.double d2), .second, .val (.double d4), .second, .val (.double d8), .second, .val (.double d16), .second, .val (.double pp), .second, .unset, .unset] [(.int (65535 : Int32)), (.int pl), (.ref sa), (.ref nr), (.ref nr)])) _
    refine XS.iand X2.here hx rfl (hb hby at_113) rfl ?_
    show Steps p.tables e below (T2.setTop (mkF m 114 #[.val (.int pf), .val (.long pm), .second, .val (.int pl), .val (.int pr), .val (.int (0 : Int32)), .val (.int sl), .val (.double d1), .second, .val (.double d2), .second, .val (.double d4), .second, .val (.double d8), .second, .val (.double d16), .second, .val (.double pp), .second, .unset, .unset] [(.int (pl &&& (65535 : Int32))), (.ref sa), (.ref nr), (.ref nr)])) _
    refine XS.i2dS X2.here hx rfl (hb hby at_114) rfl (v := (FP.i2d (pl &&& (65535 : Int32)))) (rfl) ?_
    show Steps p.tables e below (T2.setTop (mkF m 115 #[.val (.int pf), .val (.long pm), .second, .val (.int pl), .val (.int pr), .val (.int (0 : Int32)), .val (.int sl), .val (.double d1), .second, .val (.double d2), .second, .val (.double d4), .second, .val (.double d8), .second, .val (.double d16), .second, .val (.double pp), .second, .unset, .unset] [(.double (FP.i2d (pl &&& (65535 : Int32)))), (.ref sa), (.ref nr), (.ref nr)])) _
    refine XS.iload X2.here hx rfl (hb hby at_115) rfl ?_
    show Steps p.tables e below (T2.setTop (mkF m 117 #[.val (.int pf), .val (.long pm), .second, .val (.int pl), .val (.int pr), .val (.int (0 : Int32)), .val (.int sl), .val (.double d1), .second, .val (.double d2), .second, .val (.double d4), .second, .val (.double d8), .second, .val (.double d16), .second, .val (.double pp), .second, .unset, .unset] [(.int pr), (.double (FP.i2d (pl &&& (65535 : Int32)))), (.ref sa), (.ref nr), (.ref nr)])) _
    refine X2.ldcInt hx hown2 (mvT hZ2 (hw _ (List.mem_of_getElem? (i := 12) rfl))) (g := (mkF m 117 #[.val (.int pf), .val (.long pm), .second, .val (.int pl), .val (.int pr), .val (.int (0 : Int32)), .val (.int sl), .val (.double d1), .second, .val (.double d2), .second, .val (.double d4), .second, .val (.double d8), .second, .val (.double d16), .second, .val (.double pp), .second, .unset, .unset] [(.int pr), (.double (FP.i2d (pl &&& (65535 : Int32)))), (.ref sa), (.ref nr), (.ref nr)])) rfl (hb hby at_117) _ ?_
    show Steps p.tables e below (T2.setTop (mkF m 119 #[.val (.int pf), .val (.long pm), .second, .val (.int pl), .val (.int pr), .val (.int (0 : Int32)), .val (.int sl), .val (.double d1), .second, .val (.double d2), .second, .val (.double d4), .second, .val (.double d8), .second, .val (.double d16), .second, .val (.double pp), .second, .unset, .unset] [(.int (65535 : Int32)), (.int pr), (.double (FP.i2d (pl &&& (65535 : Int32)))), (.ref sa), (.ref nr), (.ref nr)])) _
    refine XS.iand X2.here hx rfl (hb hby at_119) rfl ?_
    show Steps p.tables e below (T2.setTop (mkF m 120 #[.val (.int pf), .val (.long pm), .second, .val (.int pl), .val (.int pr), .val (.int (0 : Int32)), .val (.int sl), .val (.double d1), .second, .val (.double d2), .second, .val (.double d4), .second, .val (.double d8), .second, .val (.double d16), .second, .val (.double pp), .second, .unset, .unset] [(.int (pr &&& (65535 : Int32))), (.double (FP.i2d (pl &&& (65535 : Int32)))), (.ref sa), (.ref nr), (.ref nr)])) _
    refine XS.i2dS X2.here hx rfl (hb hby at_120) rfl (v := (FP.i2d (pr &&& (65535 : Int32)))) (rfl) ?_
    show Steps p.tables e below (T2.setTop (mkF m 121 #[.val (.int pf), .val (.long pm), .second, .val (.int pl), .val (.int pr), .val (.int (0 : Int32)), .val (.int sl), .val (.double d1), .second, .val (.double d2), .second, .val (.double d4), .second, .val (.double d8), .second, .val (.double d16), .second, .val (.double pp), .second, .unset, .unset] [(.double (FP.i2d (pr &&& (65535 : Int32)))), (.double (FP.i2d (pl &&& (65535 : Int32)))), (.ref sa), (.ref nr), (.ref nr)])) _
    refine st3.trans ?_
    show Steps p.tables e below (T3.setTop (mkF m 124 #[.val (.int pf), .val (.long pm), .second, .val (.int pl), .val (.int pr), .val (.int (0 : Int32)), .val (.int sl), .val (.double d1), .second, .val (.double d2), .second, .val (.double d4), .second, .val (.double d8), .second, .val (.double d16), .second, .val (.double pp), .second, .unset, .unset] [(.ref nr)])) _
    refine XS.astore X3.here hx rfl (hb hby at_124) rfl rfl (l' := #[.val (.int pf), .val (.long pm), .second, .val (.int pl), .val (.int pr), .val (.int (0 : Int32)), .val (.int sl), .val (.double d1), .second, .val (.double d2), .second, .val (.double d4), .second, .val (.double d8), .second, .val (.double d16), .second, .val (.double pp), .second, .val (.ref nr), .unset]) rfl ?_
    show Steps p.tables e below (T3.setTop (mkF m 126 #[.val (.int pf), .val (.long pm), .second, .val (.int pl), .val (.int pr), .val (.int (0 : Int32)), .val (.int sl), .val (.double d1), .second, .val (.double d2), .second, .val (.double d4), .second, .val (.double d8), .second, .val (.double d16), .second, .val (.double pp), .second, .val (.ref nr), .unset] [])) _
    refine XS.iload X3.here hx rfl (hb hby at_126) rfl ?_
    show Steps p.tables e below (T3.setTop (mkF m 128 #[.val (.int pf), .val (.long pm), .second, .val (.int pl), .val (.int pr), .val (.int (0 : Int32)), .val (.int sl), .val (.double d1), .second, .val (.double d2), .second, .val (.double d4), .second, .val (.double d8), .second, .val (.double d16), .second, .val (.double pp), .second, .val (.ref nr), .unset] [(.int (0 : Int32))])) _
    refine XS.ifYes X3.here hx rfl (pc0 := 128) (pc' := 141) rfl (hb hby at_128) rfl ((if0 _ _).trans (teq (by decide : (0 : Int32) = (0 : Int32))).1) (by decide) (by decide) ?_
    show Steps p.tables e below (T3.setTop (mkF m 141 #[.val (.int pf), .val (.long pm), .second, .val (.int pl), .val (.int pr), .val (.int (0 : Int32)), .val (.int sl), .val (.double d1), .second, .val (.double d2), .second, .val (.double d4), .second, .val (.double d8), .second, .val (.double d16), .second, .val (.double pp), .second, .val (.ref nr), .unset] [])) _
    refine XS.aload X3.here hx rfl (hb hby at_141) rfl rfl ?_
    show Steps p.tables e below (T3.setTop (mkF m 143 #[.val (.int pf), .val (.long pm), .second, .val (.int pl), .val (.int pr), .val (.int (0 : Int32)), .val (.int sl), .val (.double d1), .second, .val (.double d2), .second, .val (.double d4), .second, .val (.double d8), .second, .val (.double d16), .second, .val (.double pp), .second, .val (.ref nr), .unset] [(.ref nr)])) _
    refine XS.astore X3.here hx rfl (hb hby at_143) rfl rfl (l' := #[.val (.int pf), .val (.long pm), .second, .val (.int pl), .val (.int pr), .val (.int (0 : Int32)), .val (.int sl), .val (.double d1), .second, .val (.double d2), .second, .val (.double d4), .second, .val (.double d8), .second, .val (.double d16), .second, .val (.double pp), .second, .val (.ref nr), .val (.ref nr)]) rfl ?_
    show Steps p.tables e below (T3.setTop (mkF m 145 #[.val (.int pf), .val (.long pm), .second, .val (.int pl), .val (.int pr), .val (.int (0 : Int32)), .val (.int sl), .val (.double d1), .second, .val (.double d2), .second, .val (.double d4), .second, .val (.double d8), .second, .val (.double d16), .second, .val (.double pp), .second, .val (.ref nr), .val (.ref nr)] [])) _
    refine XS.aload X3.here hx rfl (hb hby at_145) rfl rfl ?_
    show Steps p.tables e below (T3.setTop (mkF m 147 #[.val (.int pf), .val (.long pm), .second, .val (.int pl), .val (.int pr), .val (.int (0 : Int32)), .val (.int sl), .val (.double d1), .second, .val (.double d2), .second, .val (.double d4), .second, .val (.double d8), .second, .val (.double d16), .second, .val (.double pp), .second, .val (.ref nr), .val (.ref nr)] [(.ref nr)])) _
    refine st4.trans ?_
    show Steps p.tables e below (T4.setTop (mkF m 150 #[.val (.int pf), .val (.long pm), .second, .val (.int pl), .val (.int pr), .val (.int (0 : Int32)), .val (.int sl), .val (.double d1), .second, .val (.double d2), .second, .val (.double d4), .second, .val (.double d8), .second, .val (.double d16), .second, .val (.double pp), .second, .val (.ref nr), .val (.ref nr)] [(.int (1 : Int32))])) _
    refine XS.iload X4.here hx rfl (hb hby at_150) rfl ?_
    show Steps p.tables e below (T4.setTop (mkF m 152 #[.val (.int pf), .val (.long pm), .second, .val (.int pl), .val (.int pr), .val (.int (0 : Int32)), .val (.int sl), .val (.double d1), .second, .val (.double d2), .second, .val (.double d4), .second, .val (.double d8), .second, .val (.double d16), .second, .val (.double pp), .second, .val (.ref nr), .val (.ref nr)] [(.int (0 : Int32)), (.int (1 : Int32))])) _
    refine XS.ifNo X4.here hx rfl (hb hby at_152) rfl ((if0 _ _).trans (teq (by decide : (0 : Int32) = (0 : Int32))).2) ?_
    show Steps p.tables e below (T4.setTop (mkF m 155 #[.val (.int pf), .val (.long pm), .second, .val (.int pl), .val (.int pr), .val (.int (0 : Int32)), .val (.int sl), .val (.double d1), .second, .val (.double d2), .second, .val (.double d4), .second, .val (.double d8), .second, .val (.double d16), .second, .val (.double pp), .second, .val (.ref nr), .val (.ref nr)] [(.int (1 : Int32))])) _
    refine XS.iconst X4.here hx rfl (hb hby at_155) ?_
    show Steps p.tables e below (T4.setTop (mkF m 156 #[.val (.int pf), .val (.long pm), .second, .val (.int pl), .val (.int pr), .val (.int (0 : Int32)), .val (.int sl), .val (.double d1), .second, .val (.double d2), .second, .val (.double d4), .second, .val (.double d8), .second, .val (.double d16), .second, .val (.double pp), .second, .val (.ref nr), .val (.ref nr)] [(.int (1 : Int32)), (.int (1 : Int32))])) _
    refine XS.goto X4.here hx rfl (pc0 := 156) (pc' := 160) rfl (hb hby at_156) (by decide) (by decide) ?_
    show Steps p.tables e below (T4.setTop (mkF m 160 #[.val (.int pf), .val (.long pm), .second, .val (.int pl), .val (.int pr), .val (.int (0 : Int32)), .val (.int sl), .val (.double d1), .second, .val (.double d2), .second, .val (.double d4), .second, .val (.double d8), .second, .val (.double d16), .second, .val (.double pp), .second, .val (.ref nr), .val (.ref nr)] [(.int (1 : Int32)), (.int (1 : Int32))])) _
    refine XS.icmpNo X4.here hx rfl (hb hby at_160) rfl (teq (by decide : (1 : Int32) = (1 : Int32))).2 ?_
    show Steps p.tables e below (T4.setTop (mkF m 163 #[.val (.int pf), .val (.long pm), .second, .val (.int pl), .val (.int pr), .val (.int (0 : Int32)), .val (.int sl), .val (.double d1), .second, .val (.double d2), .second, .val (.double d4), .second, .val (.double d8), .second, .val (.double d16), .second, .val (.double pp), .second, .val (.ref nr), .val (.ref nr)] [])) _
    refine XS.iconst X4.here hx rfl (hb hby at_163) ?_
    show Steps p.tables e below (T4.setTop (mkF m 164 #[.val (.int pf), .val (.long pm), .second, .val (.int pl), .val (.int pr), .val (.int (0 : Int32)), .val (.int sl), .val (.double d1), .second, .val (.double d2), .second, .val (.double d4), .second, .val (.double d8), .second, .val (.double d16), .second, .val (.double pp), .second, .val (.ref nr), .val (.ref nr)] [(.int (1 : Int32))])) _
    refine XS.goto X4.here hx rfl (pc0 := 164) (pc' := 168) rfl (hb hby at_164) (by decide) (by decide) ?_
    show Steps p.tables e below (T4.setTop (mkF m 168 #[.val (.int pf), .val (.long pm), .second, .val (.int pl), .val (.int pr), .val (.int (0 : Int32)), .val (.int sl), .val (.double d1), .second, .val (.double d2), .second, .val (.double d4), .second, .val (.double d8), .second, .val (.double d16), .second, .val (.double pp), .second, .val (.ref nr), .val (.ref nr)] [(.int (1 : Int32))])) _
    exact retN X4 hx (t := .boolean) Bd.returns (by simp) (hb hby at_168) hr
  · show QL n0 _ T4.heap _
    rw [eq4]
    exact ⟨rfl, N4⟩
theorem rm0 (l : Launch) (Z : State) (a0 : Array Value) (hw : ∀ d ∈ tables_1, d.before a0 Z = true) (ws : List Jvm.Cond) (pf : Int32) (pm : Int64) (pl pr : Int32) (h0 : Heap) (n0 : Nat) (Z0 : n0 ≤ h0.size) (hheld : Jvm.Lit.constHeld Z "com/example/itinerant/itinerant/requests/RequestMustBeServedPinLaw" 13) (hcw : Jvm.Lit.compactW.before a0 Z = true) (cs : Int32) (fv : Value) (S_c : Sta Z Z.heap "java/lang/String" "COMPACT_STRINGS" "Z" (.int cs)) (hcs : ¬ (cs = (0 : Int32))) (S_f : Sta Z Z.heap "jdk/internal/util/Preconditions" "SIOOBE_FORMATTER" "Ljava/util/function/BiFunction;" fv) (hfv : fv.isRef = true) (O0 : Old Z n0 h0) :
    MetFree l x (head1 (Jvm.Cond.code x code maxLocals ret :: ws) room_1) (fun a U => a = #[(.int pf), (.long pm), (.int pl), (.int pr)] ∧ Z.Warmed39 U.vm ∧ U.heap = h0 ∧ U.vm = Z.vm) (fun _ _ _ _ _ => True) (fun _ U o U' => ∃ v L, o = .returned v ∧ QL n0 v U'.heap L ∧ ReturnedEndW U o U' L 24 324) := by
  by_cases hfi : (pf &&& (1 : Int32)) = (0 : Int32)
  · intro p e ha hc hk s m args below hf happ hP hK
    obtain ⟨n, o, g1, g2, g3, v, L, e1, e2, e3⟩ := rm00 l Z a0 hw ws pf pm pl pr h0 n0 Z0 hheld hcw cs fv S_c hcs S_f hfv O0 hfi p e ha hc hk s m args below hf happ hP hK
    exact ⟨n, o, g1, g2, g3, v, L, e1, e2, e3.1, e3.2.1, e3.2.2.1, e3.2.2.2.mono (by decide) (by decide)⟩
  · exact rm01 l Z a0 hw ws pf pm pl pr h0 n0 Z0 hheld hcw cs fv S_c hcs S_f hfv O0 hfi
set_option maxRecDepth 65536 in
set_option maxHeartbeats 40000000 in
theorem comes_1 {Post : Tables → Env → Array Value → State → Outcome → State → Prop} (hpost : ∀ tb e args s v u, (limb_1_1.after args s (.returned v) u = true ∧ limb_1_2.after args s (.returned v) u = true ∧ True) → ReturnedEndW s (.returned v) u (Jvm.fieldLocs frame_1_writes args s ++ Jvm.arrayLocs frame_1_arrays args s ++ Jvm.staticLocs frame_1_statics s) 24 6272 → Post tb e args s (.returned v) u) :
    ArmFor flags0 classFile x code maxLocals ret World_1 tables_1 room_1 Calls_1 rest_1 Pre_1 Post := by
  intro l hfl _ _ p e ha hc hk s m args below hf hA hF happ hP
  obtain ⟨hcalls, hrest, hpre⟩ := hP
  obtain ⟨-, -, -, hnamed, -, -, -, hat⟩ := (Spec.applies_iff hf).mp happ
  obtain ⟨hg, hn⟩ := and_e (Cond.before_iff.mp (show (Jvm.Cond.and given_1 narrow_1).before args s = true from hpre))
  obtain ⟨hcount, r0⟩ := and_e hg
  obtain ⟨hk0, r1⟩ := and_e r0
  obtain ⟨hk1, r2⟩ := and_e r1
  obtain ⟨hk2, r3⟩ := and_e r2
  have hk3 := r3
  obtain ⟨w0, w1, w2, w3, rfl⟩ : ∃ w0 w1 w2 w3 : Value, args = #[w0, w1, w2, w3] := by
    have hs : args.size = 4 := by simpa [Cond.value, given_1] using hcount
    obtain ⟨L⟩ := args
    match L, hs with
    | [w0, w1, w2, w3], _ => exact ⟨w0, w1, w2, w3, rfl⟩
  have hw := fun d (hd : d ∈ tables_1) => atoms_spec (ws := Jvm.Cond.code x code maxLocals ret :: tables_1) hat d (List.mem_cons_of_mem _ hd)
  have hfit : Fit s := fun {y c} hc i hi => by
    obtain ⟨ha, rfl⟩ := Array.getElem?_eq_some_iff.mp hc
    have q := List.all_eq_true.mp ((Array.all_eq_true_iff_forall_mem.mp hF) _ (Array.getElem_mem ha)) i (List.mem_range.mpr hi)
    simpa [Array.getElem?_eq_getElem hi] using q
  obtain ⟨hsets, hown0⟩ := atoms_of _ (rest_1_c_eq ▸ (show rest_1_c.before _ s = true from hrest))
  obtain ⟨cs, ecs⟩ := is_v (Cond.before_iff.mp (hsets _ (List.mem_of_getElem? (i := 1) rfl)))
  obtain ⟨fv, efv, hfv⟩ := isR_v (Cond.before_iff.mp (hsets _ (List.mem_of_getElem? (i := 8) rfl)))
  have Sc := Sta.start ecs (Or.inl (hsets _ (List.mem_of_getElem? (i := 0) rfl)))
  have Sf := Sta.start efv (Or.inl (hsets _ (List.mem_of_getElem? (i := 7) rfl)))
  have hcs : ¬ (cs = (0 : Int32)) := fun q0 => by
    have q1 := not_v (Cond.before_iff.mp (hsets _ (List.mem_of_getElem? (i := 2) rfl)))
    rw [eq_i ecs (Term.int_eval (0)) (by rw [q0])] at q1
    cases q1
  obtain ⟨i0, ei0⟩ := is_v hk0
  obtain rfl : w0 = (.int i0) := Option.some.inj ei0
  obtain ⟨i1, ei1⟩ := isL_v hk1
  obtain rfl : w1 = (.long i1) := Option.some.inj ei1
  obtain ⟨i2, ei2⟩ := is_v hk2
  obtain rfl : w2 = (.int i2) := Option.some.inj ei2
  obtain ⟨i3, ei3⟩ := is_v hk3
  obtain rfl : w3 = (.int i3) := Option.some.inj ei3
  obtain ⟨n, o, h1, h2, h3, _, L, rfl, ⟨rfl, N⟩, hq⟩ := rm0 l s _ hw tables_1 i0 i1 i2 i3 s.heap s.heap.size (Nat.le_refl _) (hcalls.1 ("com/example/itinerant/itinerant/requests/RequestMustBeServedPinLaw", 13) (by decide +kernel)) (hsets _ (List.mem_of_getElem? (i := 2) rfl)) cs fv Sc hcs Sf hfv (Old.start s) p e ha hc hk s m _ below hf ((Spec.applies_iff_loose hf).mp happ).1 ⟨rfl, State.Warmed39.refl s, rfl, rfl⟩ trivial
  refine ⟨n, _, h1, h2, h3, hpost _ _ _ _ _ _ ⟨Cond.after_iff.mpr rfl, Cond.after_iff.mpr (eq_i res_at (Term.int_eval (1)) rfl), trivial⟩ ⟨hq.1, hq.2.1, hq.2.2.1, (hq.2.2.2.sift fun y hy => Or.inr (N y hy)).mono (by decide) (by decide)⟩⟩
theorem main_1_1 : Claimed_1_1 := comes_1 fun _ _ _ _ _ _ h hF => ⟨h.1, hF⟩
theorem main_1_2 : Claimed_1_2 := comes_1 fun _ _ _ _ _ _ h hF => ⟨h.2.1, hF⟩
end Jvm.Pilot.@@N@@
namespace Jvm.Pilot.@@N@@
open Jvm Jvm.ClassFile Sem Op Lib Jvm.Free Jvm.Stand Jvm.Pilot.@@N@@.Jvm.D
/-! MADE BY PROGRAM (witnessworld.py) out of the Statement's table words and the real class files: 23 classes; the members and pool entries that the words name. The judged class is class 1, her method 1. -/
namespace start1
open Jvm.ClassFile
def u (s : String) : CpInfo := .utf8 (stringToUtf16 s)
/-- a pool by its gaps: so many unusable entries, then the entry; so many at the end -/
def gap : Nat → List CpInfo → List CpInfo
  | 0, r => r
  | n + 1, r => .unusable :: gap n r
def poolList (es : List (Nat × CpInfo)) (last : Nat) : List CpInfo := es.foldr (fun e r => gap e.1 (e.2 :: r)) (gap last [])
def pool (es : List (Nat × CpInfo)) (last : Nat) : Array CpInfo := ⟨poolList es last⟩
def fileOf (pool : Array CpInfo) (this : Nat) (attrs : Array Attribute := #[]) (ms : Array MethodInfo := #[]) (fl : Nat := 33) (sup : Nat := 0) (ifs : Array Nat := #[]) (fds : Array FieldInfo := #[]) : ClassFile where
  minorVersion := 0
  majorVersion := 65
  constantPool := pool
  accessFlags := fl
  thisClass := this
  superClass := sup
  interfaces := ifs
  fields := fds
  methods := ms
  attributes := attrs
def plain (name : String) (sup : Option ClassId) : Class where
  name := name
  kind := .ordinary
  loader := none
  accessFlags := 33
  super := sup
  interfaces := #[]
  cf := none
  fields := #[]
  methods := #[]
  instanceTypes := #[]
  staticTypes := #[]
  resolved := #[]
  callSites := []
  init := .initialized
  statics := none
  mirror := none

def pool0 : Array CpInfo := pool [(5, u "<init>"), (0, u "()V"), (1, .class_ 10), (1, u "java/lang/Object")] 113

def k0c0 : Code := { maxStack := 0, maxLocals := 1, code := object_method_1_code, exceptionTable := #[], attributes := #[] }
def k0m0 : Method := { name := "<init>", desc := "()V", sig := { parameters := [], returnType := none }, accessFlags := 1, code := some k0c0 }
/-- java/lang/Object -/
def k0 : Class := { plain "java/lang/Object" none with
  accessFlags := 33
  interfaces := #[]
  cf := some (fileOf pool0 8 #[] #[{ accessFlags := 1, nameIndex := 5, descriptorIndex := 6, attributes := #[] }] 33 0 #[] #[])
  fields := #[]
  methods := #[k0m0]
  instanceTypes := #[]
  staticTypes := #[]
  resolved := Array.replicate 124 none
  statics := none }

def pool1 : Array CpInfo := pool [(2, .class_ 4), (1, u "java/lang/Object"), (0, u "<init>"), (0, u "()V"), (2, .long 9223372036854775807), (1, .class_ 12), (0, u "com/example/itinerant/itinerant/requests/Request"), (0, .string 14), (0, u "r"), (0, .integer 65535), (0, .methodref 11 17), (0, .nameAndType 5 18), (0, u "(Ljava/lang/String;DD)V"), (0, .methodref 11 20), (0, .nameAndType 21 22), (0, u "withPenalty"), (0, u "(D)Lcom/example/itinerant/itinerant/requests/Request;"), (0, .methodref 11 24), (0, .nameAndType 25 26), (0, u "mustBeServed"), (0, u "()Z"), (0, .class_ 28), (0, u "com/example/itinerant/itinerant/requests/RequestMustBeServedPinLaw"), (2, u "law"), (0, u "(IJII)Z")] 3

def k1m0 : Method := { name := "<init>", desc := "()V", sig := { parameters := [], returnType := none }, accessFlags := 1, code := none }
def k1c1 : Code := { maxStack := 7, maxLocals := 21, code := code, exceptionTable := #[], attributes := #[] }
def k1m1 : Method := { name := "law", desc := "(IJII)Z", sig := { parameters := [.int, .long, .int, .int], returnType := some .boolean }, accessFlags := 9, code := some k1c1 }
/-- com/example/itinerant/itinerant/requests/RequestMustBeServedPinLaw -/
def k1 : Class := { plain "com/example/itinerant/itinerant/requests/RequestMustBeServedPinLaw" (some 0) with
  accessFlags := 49
  interfaces := #[]
  cf := some (fileOf pool1 27 #[] #[{ accessFlags := 1, nameIndex := 5, descriptorIndex := 6, attributes := #[] }, { accessFlags := 9, nameIndex := 31, descriptorIndex := 32, attributes := #[] }] 49 2 #[] #[])
  fields := #[]
  methods := #[k1m0, k1m1]
  instanceTypes := #[]
  staticTypes := #[]
  resolved := Array.replicate 36 none
  statics := none }

def pool2 : Array CpInfo := pool [(1, .methodref 2 3), (0, .class_ 4), (0, .nameAndType 5 6), (0, u "java/lang/Object"), (0, u "<init>"), (0, u "()V"), (0, .class_ 8), (0, u "java/lang/Record")] 13

def k2c0 : Code := { maxStack := 1, maxLocals := 1, code := jdk_30_method_1_code, exceptionTable := #[], attributes := #[] }
def k2m0 : Method := { name := "<init>", desc := "()V", sig := { parameters := [], returnType := none }, accessFlags := 4, code := some k2c0 }
/-- java/lang/Record -/
def k2 : Class := { plain "java/lang/Record" (some 0) with
  accessFlags := 1057
  interfaces := #[]
  cf := some (fileOf pool2 7 #[] #[{ accessFlags := 4, nameIndex := 5, descriptorIndex := 6, attributes := #[] }] 1057 2 #[] #[])
  fields := #[]
  methods := #[k2m0]
  instanceTypes := #[]
  staticTypes := #[]
  resolved := Array.replicate 22 none
  statics := none }

def pool3 : Array CpInfo := pool [(1, .methodref 2 3), (0, .class_ 4), (0, .nameAndType 5 6), (0, u "java/lang/Record"), (0, u "<init>"), (0, u "()V"), (0, .string 8), (0, u "id"), (0, .methodref 10 11), (0, .class_ 12), (0, .nameAndType 13 14), (0, u "java/util/Objects"), (0, u "requireNonNull"), (0, u "(Ljava/lang/Object;Ljava/lang/String;)Ljava/lang/Object;"), (0, .methodref 16 17), (0, .class_ 18), (0, .nameAndType 19 20), (0, u "java/lang/String"), (0, u "isEmpty"), (0, u "()Z"), (7, .methodref 16 29), (0, .nameAndType 30 31), (0, u "length"), (0, u "()I"), (0, .methodref 16 33), (0, .nameAndType 34 35), (0, u "charAt"), (0, u "(I)C"), (0, .methodref 37 38), (0, .class_ 39), (0, .nameAndType 40 41), (0, u "java/lang/Character"), (0, u "isISOControl"), (0, u "(C)Z"), (4, .string 47), (0, u "location"), (0, .methodref 49 50), (0, .class_ 51), (0, .nameAndType 52 53), (0, u "com/example/itinerant/itinerant/requests/Request"), (0, u "nonNegative"), (0, u "(Ljava/lang/String;D)D"), (0, .string 55), (0, u "release"), (0, .string 57), (0, u "disclosure"), (3, .methodref 62 63), (0, .class_ 64), (0, .nameAndType 65 66), (0, u "java/lang/Double"), (0, u "isNaN"), (0, u "(D)Z"), (5, .string 73), (0, u "weight"), (0, .fieldref 49 75), (0, .nameAndType 8 76), (0, u "Ljava/lang/String;"), (0, .fieldref 49 78), (0, .nameAndType 47 79), (0, u "D"), (0, .fieldref 49 81), (0, .nameAndType 55 79), (0, .fieldref 49 83), (0, .nameAndType 57 79), (0, .fieldref 49 85), (0, .nameAndType 86 79), (0, u "penalty"), (0, .fieldref 49 88), (0, .nameAndType 73 79), (0, .double 9218868437227405312), (1, .methodref 49 92), (0, .nameAndType 5 93), (0, u "(Ljava/lang/String;DDDDD)V"), (23, .methodref 62 118), (0, .nameAndType 119 66), (0, u "isFinite"), (20, u "(Ljava/lang/String;DD)V"), (1, u "(D)Lcom/example/itinerant/itinerant/requests/Request;"), (0, u "withPenalty"), (3, u "mustBeServed")] 47

def k3c0 : Code := { maxStack := 6, maxLocals := 13, code := prog_70_method_1_code, exceptionTable := #[], attributes := #[] }
def k3m0 : Method := { name := "<init>", desc := "(Ljava/lang/String;DDDDD)V", sig := { parameters := [(.object "java/lang/String"), .double, .double, .double, .double, .double], returnType := none }, accessFlags := 1, code := some k3c0 }
def k3c1 : Code := { maxStack := 12, maxLocals := 6, code := prog_70_method_2_code, exceptionTable := #[], attributes := #[] }
def k3m1 : Method := { name := "<init>", desc := "(Ljava/lang/String;DD)V", sig := { parameters := [(.object "java/lang/String"), .double, .double], returnType := none }, accessFlags := 1, code := some k3c1 }
def k3c2 : Code := { maxStack := 13, maxLocals := 3, code := prog_70_method_4_code, exceptionTable := #[], attributes := #[] }
def k3m2 : Method := { name := "withPenalty", desc := "(D)Lcom/example/itinerant/itinerant/requests/Request;", sig := { parameters := [.double], returnType := some (.object "com/example/itinerant/itinerant/requests/Request") }, accessFlags := 1, code := some k3c2 }
def k3c3 : Code := { maxStack := 4, maxLocals := 1, code := prog_70_method_7_code, exceptionTable := #[], attributes := #[] }
def k3m3 : Method := { name := "mustBeServed", desc := "()Z", sig := { parameters := [], returnType := some .boolean }, accessFlags := 1, code := some k3c3 }
def k3c4 : Code := { maxStack := 5, maxLocals := 3, code := prog_70_method_9_code, exceptionTable := #[], attributes := #[] }
def k3m4 : Method := { name := "nonNegative", desc := "(Ljava/lang/String;D)D", sig := { parameters := [(.object "java/lang/String"), .double], returnType := some .double }, accessFlags := 10, code := some k3c4 }
/-- com/example/itinerant/itinerant/requests/Request -/
def k3 : Class := { plain "com/example/itinerant/itinerant/requests/Request" (some 2) with
  accessFlags := 49
  interfaces := #[]
  cf := some (fileOf pool3 49 #[] #[{ accessFlags := 1, nameIndex := 5, descriptorIndex := 93, attributes := #[] }, { accessFlags := 1, nameIndex := 5, descriptorIndex := 140, attributes := #[] }, { accessFlags := 1, nameIndex := 143, descriptorIndex := 142, attributes := #[] }, { accessFlags := 1, nameIndex := 147, descriptorIndex := 20, attributes := #[] }, { accessFlags := 10, nameIndex := 52, descriptorIndex := 53, attributes := #[] }] 49 2 #[] #[{ accessFlags := 18, nameIndex := 8, descriptorIndex := 76, attributes := #[] }, { accessFlags := 18, nameIndex := 47, descriptorIndex := 79, attributes := #[] }, { accessFlags := 18, nameIndex := 55, descriptorIndex := 79, attributes := #[] }, { accessFlags := 18, nameIndex := 57, descriptorIndex := 79, attributes := #[] }, { accessFlags := 18, nameIndex := 86, descriptorIndex := 79, attributes := #[] }, { accessFlags := 18, nameIndex := 73, descriptorIndex := 79, attributes := #[] }])
  fields := #[{ name := "id", type := (.object "java/lang/String"), accessFlags := 18, slot := 0, constantValue := 0 }, { name := "location", type := .double, accessFlags := 18, slot := 1, constantValue := 0 }, { name := "release", type := .double, accessFlags := 18, slot := 2, constantValue := 0 }, { name := "disclosure", type := .double, accessFlags := 18, slot := 3, constantValue := 0 }, { name := "penalty", type := .double, accessFlags := 18, slot := 4, constantValue := 0 }, { name := "weight", type := .double, accessFlags := 18, slot := 5, constantValue := 0 }]
  methods := #[k3m0, k3m1, k3m2, k3m3, k3m4]
  instanceTypes := #[(.object "java/lang/String"), .double, .double, .double, .double, .double]
  staticTypes := #[]
  resolved := Array.replicate 195 none
  statics := none }

def pool4 : Array CpInfo := pool [(1, .class_ 2), (0, u "java/io/Serializable"), (0, .class_ 4), (0, u "java/lang/Object")] 2

/-- java/io/Serializable -/
def k4 : Class := { plain "java/io/Serializable" (some 0) with
  accessFlags := 1537
  interfaces := #[]
  cf := some (fileOf pool4 1 #[] #[] 1537 3 #[] #[])
  fields := #[]
  methods := #[]
  instanceTypes := #[]
  staticTypes := #[]
  resolved := Array.replicate 7 none
  statics := none }

def pool5 : Array CpInfo := pool [(1, .class_ 2), (0, u "java/lang/Comparable"), (0, .class_ 4), (0, u "java/lang/Object")] 7

/-- java/lang/Comparable -/
def k5 : Class := { plain "java/lang/Comparable" (some 0) with
  accessFlags := 1537
  interfaces := #[]
  cf := some (fileOf pool5 1 #[] #[] 1537 3 #[] #[])
  fields := #[]
  methods := #[]
  instanceTypes := #[]
  staticTypes := #[]
  resolved := Array.replicate 12 none
  statics := none }

def pool6 : Array CpInfo := pool [(2, .class_ 4), (1, u "java/lang/CharSequence"), (42, .class_ 48), (0, u "java/lang/CharSequence$1CodePointIterator"), (10, .class_ 60), (0, u "java/lang/CharSequence$1CharIterator"), (5, .class_ 67), (0, u "java/lang/Object")] 63

/-- java/lang/CharSequence -/
def k6 : Class := { plain "java/lang/CharSequence" (some 0) with
  accessFlags := 1537
  interfaces := #[]
  cf := some (fileOf pool6 2 #[.nestMembers #[47, 59]] #[] 1537 66 #[] #[])
  fields := #[]
  methods := #[]
  instanceTypes := #[]
  staticTypes := #[]
  resolved := Array.replicate 131 none
  statics := none }

def pool7 : Array CpInfo := pool [(1, .class_ 2), (0, u "java/lang/constant/Constable"), (0, .class_ 4), (0, u "java/lang/Object")] 6

/-- java/lang/constant/Constable -/
def k7 : Class := { plain "java/lang/constant/Constable" (some 0) with
  accessFlags := 1537
  interfaces := #[]
  cf := some (fileOf pool7 1 #[] #[] 1537 3 #[] #[])
  fields := #[]
  methods := #[]
  instanceTypes := #[]
  staticTypes := #[]
  resolved := Array.replicate 11 none
  statics := none }

def pool8 : Array CpInfo := pool [(1, .class_ 2), (0, u "java/lang/constant/ConstantDesc"), (0, .class_ 4), (0, u "java/lang/Object")] 32

/-- java/lang/constant/ConstantDesc -/
def k8 : Class := { plain "java/lang/constant/ConstantDesc" (some 0) with
  accessFlags := 1537
  interfaces := #[]
  cf := some (fileOf pool8 1 #[] #[] 1537 3 #[] #[])
  fields := #[]
  methods := #[]
  instanceTypes := #[]
  staticTypes := #[]
  resolved := Array.replicate 37 none
  statics := none }

def pool9 : Array CpInfo := pool [(2, .class_ 4), (1, u "java/lang/Object"), (0, u "<init>"), (0, u "()V"), (2, .fieldref 10 11), (0, .class_ 12), (0, .nameAndType 13 14), (0, u "java/lang/String"), (0, u "value"), (0, u "[B"), (0, .fieldref 10 16), (0, .nameAndType 17 18), (0, u "coder"), (0, u "B"), (2, u "hash"), (0, u "I"), (2, u "hashIsZero"), (0, u "Z"), (11, .fieldref 10 39), (0, .nameAndType 40 26), (0, u "COMPACT_STRINGS"), (66, .class_ 109), (1, u "java/lang/StringLatin1"), (32, u "()Z"), (191, u "()I"), (0, .methodref 10 336), (0, .nameAndType 17 337), (0, u "()B"), (25, u "([BI)C"), (27, u "(II)V"), (35, u "(I)C"), (64, .methodref 10 493), (0, .nameAndType 494 142), (0, u "isLatin1"), (0, .methodref 107 496), (0, .nameAndType 497 363), (0, u "charAt"), (3, u "checkIndex"), (5, u "length"), (67, .class_ 576), (0, u "java/lang/CharSequence"), (22, u "CASE_INSENSITIVE_ORDER"), (0, u "Ljava/util/Comparator;"), (91, u "isEmpty"), (360, .fieldref 1054 1055), (0, .class_ 1056), (0, .nameAndType 1057 1058), (0, u "jdk/internal/util/Preconditions"), (0, u "SIOOBE_FORMATTER"), (0, u "Ljava/util/function/BiFunction;"), (0, .methodref 1054 1060), (0, .nameAndType 501 1061), (0, u "(IILjava/util/function/BiFunction;)I"), (39, u "serialPersistentFields"), (0, u "[Ljava/io/ObjectStreamField;"), (0, .class_ 1104), (0, u "java/lang/String$CaseInsensitiveComparator"), (1, .class_ 1107), (0, u "java/io/Serializable"), (0, .class_ 1109), (0, u "java/lang/Comparable"), (0, .class_ 1111), (0, u "java/lang/constant/Constable"), (0, .class_ 1113), (0, u "java/lang/constant/ConstantDesc"), (2, u "serialVersionUID"), (0, u "J"), (3, u "REPL"), (0, u "C"), (2, u "LATIN1"), (1, u "UTF16")] 323

def k9m0 : Method := { name := "<init>", desc := "()V", sig := { parameters := [], returnType := none }, accessFlags := 1, code := none }
def k9c1 : Code := { maxStack := 2, maxLocals := 1, code := jdk_42_method_54_code, exceptionTable := #[], attributes := #[] }
def k9m1 : Method := { name := "length", desc := "()I", sig := { parameters := [], returnType := some .int }, accessFlags := 1, code := some k9c1 }
def k9c2 : Code := { maxStack := 1, maxLocals := 1, code := jdk_42_method_55_code, exceptionTable := #[], attributes := #[] }
def k9m2 : Method := { name := "isEmpty", desc := "()Z", sig := { parameters := [], returnType := some .boolean }, accessFlags := 1, code := some k9c2 }
def k9c3 : Code := { maxStack := 2, maxLocals := 2, code := jdk_42_method_56_code, exceptionTable := #[], attributes := #[] }
def k9m3 : Method := { name := "charAt", desc := "(I)C", sig := { parameters := [.int], returnType := some .char }, accessFlags := 1, code := some k9c3 }
def k9c4 : Code := { maxStack := 1, maxLocals := 1, code := jdk_42_method_152_code, exceptionTable := #[], attributes := #[] }
def k9m4 : Method := { name := "coder", desc := "()B", sig := { parameters := [], returnType := some .byte }, accessFlags := 0, code := some k9c4 }
def k9c5 : Code := { maxStack := 1, maxLocals := 1, code := jdk_42_method_154_code, exceptionTable := #[], attributes := #[] }
def k9m5 : Method := { name := "isLatin1", desc := "()Z", sig := { parameters := [], returnType := some .boolean }, accessFlags := 0, code := some k9c5 }
def k9c6 : Code := { maxStack := 3, maxLocals := 2, code := jdk_42_method_155_code, exceptionTable := #[], attributes := #[] }
def k9m6 : Method := { name := "checkIndex", desc := "(II)V", sig := { parameters := [.int, .int], returnType := none }, accessFlags := 8, code := some k9c6 }
/-- java/lang/String -/
def k9 : Class := { plain "java/lang/String" (some 0) with
  accessFlags := 49
  interfaces := #[4, 5, 6, 7, 8]
  cf := some (fileOf pool9 10 #[.nestMembers #[1103]] #[{ accessFlags := 1, nameIndex := 5, descriptorIndex := 6, attributes := #[] }, { accessFlags := 1, nameIndex := 507, descriptorIndex := 334, attributes := #[] }, { accessFlags := 1, nameIndex := 692, descriptorIndex := 142, attributes := #[] }, { accessFlags := 1, nameIndex := 497, descriptorIndex := 427, attributes := #[] }, { accessFlags := 0, nameIndex := 17, descriptorIndex := 337, attributes := #[] }, { accessFlags := 0, nameIndex := 494, descriptorIndex := 142, attributes := #[] }, { accessFlags := 8, nameIndex := 501, descriptorIndex := 391, attributes := #[] }] 49 2 #[1106, 1108, 575, 1110, 1112] #[{ accessFlags := 18, nameIndex := 13, descriptorIndex := 14, attributes := #[] }, { accessFlags := 18, nameIndex := 17, descriptorIndex := 18, attributes := #[] }, { accessFlags := 2, nameIndex := 21, descriptorIndex := 22, attributes := #[] }, { accessFlags := 2, nameIndex := 25, descriptorIndex := 26, attributes := #[] }, { accessFlags := 26, nameIndex := 1116, descriptorIndex := 1117, attributes := #[] }, { accessFlags := 24, nameIndex := 40, descriptorIndex := 26, attributes := #[] }, { accessFlags := 26, nameIndex := 1101, descriptorIndex := 1102, attributes := #[] }, { accessFlags := 26, nameIndex := 1121, descriptorIndex := 1122, attributes := #[] }, { accessFlags := 25, nameIndex := 599, descriptorIndex := 600, attributes := #[] }, { accessFlags := 24, nameIndex := 1125, descriptorIndex := 18, attributes := #[] }, { accessFlags := 24, nameIndex := 1127, descriptorIndex := 18, attributes := #[] }])
  fields := #[{ name := "value", type := (.array .byte), accessFlags := 18, slot := 0, constantValue := 0 }, { name := "coder", type := .byte, accessFlags := 18, slot := 1, constantValue := 0 }, { name := "hash", type := .int, accessFlags := 2, slot := 2, constantValue := 0 }, { name := "hashIsZero", type := .boolean, accessFlags := 2, slot := 3, constantValue := 0 }, { name := "serialVersionUID", type := .long, accessFlags := 26, slot := 0, constantValue := 0 }, { name := "COMPACT_STRINGS", type := .boolean, accessFlags := 24, slot := 1, constantValue := 0 }, { name := "serialPersistentFields", type := (.array (.object "java/io/ObjectStreamField")), accessFlags := 26, slot := 2, constantValue := 0 }, { name := "REPL", type := .char, accessFlags := 26, slot := 3, constantValue := 0 }, { name := "CASE_INSENSITIVE_ORDER", type := (.object "java/util/Comparator"), accessFlags := 25, slot := 4, constantValue := 0 }, { name := "LATIN1", type := .byte, accessFlags := 24, slot := 5, constantValue := 0 }, { name := "UTF16", type := .byte, accessFlags := 24, slot := 6, constantValue := 0 }]
  methods := #[k9m0, k9m1, k9m2, k9m3, k9m4, k9m5, k9m6]
  instanceTypes := #[(.array .byte), .byte, .int, .boolean]
  staticTypes := #[.long, .boolean, (.array (.object "java/io/ObjectStreamField")), .char, (.object "java/util/Comparator"), .byte, .byte]
  resolved := Array.replicate 1451 none
  statics := some 0 }

def pool10 : Array CpInfo := pool [(2, .class_ 4), (1, u "java/lang/Object"), (0, u "<init>"), (0, u "()V"), (35, .class_ 44), (1, u "java/util/Objects"), (0, u "requireNonNull"), (48, u "(Ljava/lang/Object;Ljava/lang/String;)Ljava/lang/Object;")] 89

def k10m0 : Method := { name := "<init>", desc := "()V", sig := { parameters := [], returnType := none }, accessFlags := 2, code := none }
def k10c1 : Code := { maxStack := 3, maxLocals := 2, code := jdk_31_method_11_code, exceptionTable := #[], attributes := #[] }
def k10m1 : Method := { name := "requireNonNull", desc := "(Ljava/lang/Object;Ljava/lang/String;)Ljava/lang/Object;", sig := { parameters := [(.object "java/lang/Object"), (.object "java/lang/String")], returnType := some (.object "java/lang/Object") }, accessFlags := 9, code := some k10c1 }
/-- java/util/Objects -/
def k10 : Class := { plain "java/util/Objects" (some 0) with
  accessFlags := 49
  interfaces := #[]
  cf := some (fileOf pool10 42 #[] #[{ accessFlags := 2, nameIndex := 5, descriptorIndex := 6, attributes := #[] }, { accessFlags := 9, nameIndex := 45, descriptorIndex := 94, attributes := #[] }] 49 2 #[] #[])
  fields := #[]
  methods := #[k10m0, k10m1]
  instanceTypes := #[]
  staticTypes := #[]
  resolved := Array.replicate 184 none
  statics := none }

def pool11 : Array CpInfo := pool [(1, .class_ 2), (0, u "java/lang/String"), (1, .class_ 6), (1, u "java/lang/Object"), (0, u "<init>"), (0, u "()V"), (0, .methodref 1 10), (0, .nameAndType 11 12), (0, u "checkIndex"), (0, u "(II)V"), (1, .class_ 16), (1, u "java/lang/StringLatin1"), (36, u "([BI)C"), (67, u "$assertionsDisabled"), (0, u "Z"), (98, .class_ 223), (1, u "java/lang/StringLatin1$LinesSpliterator"), (28, u "charAt"), (137, .class_ 391), (0, u "java/lang/StringLatin1$CharsSpliterator")] 3

def k11m0 : Method := { name := "<init>", desc := "()V", sig := { parameters := [], returnType := none }, accessFlags := 0, code := none }
def k11c1 : Code := { maxStack := 2, maxLocals := 2, code := jdk_43_method_2_code, exceptionTable := #[], attributes := #[] }
def k11m1 : Method := { name := "charAt", desc := "([BI)C", sig := { parameters := [(.array .byte), .int], returnType := some .char }, accessFlags := 9, code := some k11c1 }
/-- java/lang/StringLatin1 -/
def k11 : Class := { plain "java/lang/StringLatin1" (some 0) with
  accessFlags := 48
  interfaces := #[]
  cf := some (fileOf pool11 14 #[.nestMembers #[390, 221]] #[{ accessFlags := 0, nameIndex := 7, descriptorIndex := 8, attributes := #[] }, { accessFlags := 9, nameIndex := 252, descriptorIndex := 53, attributes := #[] }] 48 4 #[] #[{ accessFlags := 4120, nameIndex := 121, descriptorIndex := 122, attributes := #[] }])
  fields := #[{ name := "$assertionsDisabled", type := .boolean, accessFlags := 4120, slot := 0, constantValue := 0 }]
  methods := #[k11m0, k11m1]
  instanceTypes := #[]
  staticTypes := #[.boolean]
  resolved := Array.replicate 395 none
  statics := none }

def pool12 : Array CpInfo := pool [(2, .class_ 4), (1, u "java/lang/Object"), (0, u "<init>"), (0, u "()V"), (17, .class_ 26), (1, u "jdk/internal/util/Preconditions"), (6, u "checkIndex"), (21, .class_ 56), (0, u "jdk/internal/util/Preconditions$4"), (57, .class_ 115), (0, u "jdk/internal/util/Preconditions$1"), (7, u "SIOOBE_FORMATTER"), (0, u "Ljava/util/function/BiFunction;"), (0, .class_ 126), (0, u "jdk/internal/util/Preconditions$2"), (3, u "AIOOBE_FORMATTER"), (0, .class_ 132), (0, u "jdk/internal/util/Preconditions$3"), (3, u "IOOBE_FORMATTER"), (41, u "(IILjava/util/function/BiFunction;)I")] 15

def k12m0 : Method := { name := "<init>", desc := "()V", sig := { parameters := [], returnType := none }, accessFlags := 1, code := none }
def k12c1 : Code := { maxStack := 3, maxLocals := 3, code := jdk_41_method_11_code, exceptionTable := #[], attributes := #[] }
def k12m1 : Method := { name := "checkIndex", desc := "(IILjava/util/function/BiFunction;)I", sig := { parameters := [.int, .int, (.object "java/util/function/BiFunction")], returnType := some .int }, accessFlags := 9, code := some k12c1 }
/-- jdk/internal/util/Preconditions -/
def k12 : Class := { plain "jdk/internal/util/Preconditions" (some 0) with
  accessFlags := 33
  interfaces := #[]
  cf := some (fileOf pool12 24 #[.nestMembers #[55, 131, 125, 114]] #[{ accessFlags := 1, nameIndex := 5, descriptorIndex := 6, attributes := #[] }, { accessFlags := 9, nameIndex := 33, descriptorIndex := 178, attributes := #[] }] 33 2 #[] #[{ accessFlags := 25, nameIndex := 123, descriptorIndex := 124, attributes := #[] }, { accessFlags := 25, nameIndex := 130, descriptorIndex := 124, attributes := #[] }, { accessFlags := 25, nameIndex := 136, descriptorIndex := 124, attributes := #[] }])
  fields := #[{ name := "SIOOBE_FORMATTER", type := (.object "java/util/function/BiFunction"), accessFlags := 25, slot := 0, constantValue := 0 }, { name := "AIOOBE_FORMATTER", type := (.object "java/util/function/BiFunction"), accessFlags := 25, slot := 1, constantValue := 0 }, { name := "IOOBE_FORMATTER", type := (.object "java/util/function/BiFunction"), accessFlags := 25, slot := 2, constantValue := 0 }]
  methods := #[k12m0, k12m1]
  instanceTypes := #[]
  staticTypes := #[(.object "java/util/function/BiFunction"), (.object "java/util/function/BiFunction"), (.object "java/util/function/BiFunction")]
  resolved := Array.replicate 194 none
  statics := some 1 }

def pool13 : Array CpInfo := pool [(1, .class_ 2), (0, u "java/lang/Character"), (18, u "value"), (0, u "C"), (19, .class_ 44), (1, u "java/lang/Object"), (3, .class_ 50), (1, u "java/lang/Character$CharacterCache"), (30, u "(C)Z"), (32, u "(I)Z"), (151, .methodref 1 267), (0, .nameAndType 268 114), (0, u "isISOControl"), (15, u "$assertionsDisabled"), (0, u "Z"), (21, .class_ 309), (1, u "java/lang/Character$UnicodeBlock"), (73, u "TYPE"), (0, u "Ljava/lang/Class;"), (0, .class_ 386), (0, u "java/io/Serializable"), (0, .class_ 388), (0, u "java/lang/Comparable"), (0, .class_ 390), (0, u "java/lang/constant/Constable"), (0, u "MIN_RADIX"), (0, u "I"), (2, u "MAX_RADIX"), (1, u "MIN_VALUE"), (1, u "MAX_VALUE"), (3, u "UNASSIGNED"), (0, u "B"), (0, u "UPPERCASE_LETTER"), (1, u "LOWERCASE_LETTER"), (0, u "TITLECASE_LETTER"), (1, u "MODIFIER_LETTER"), (1, u "OTHER_LETTER"), (1, u "NON_SPACING_MARK"), (1, u "ENCLOSING_MARK"), (1, u "COMBINING_SPACING_MARK"), (1, u "DECIMAL_DIGIT_NUMBER"), (1, u "LETTER_NUMBER"), (1, u "OTHER_NUMBER"), (1, u "SPACE_SEPARATOR"), (1, u "LINE_SEPARATOR"), (1, u "PARAGRAPH_SEPARATOR"), (1, u "CONTROL"), (1, u "FORMAT"), (1, u "PRIVATE_USE"), (1, u "SURROGATE"), (1, u "DASH_PUNCTUATION"), (1, u "START_PUNCTUATION"), (1, u "END_PUNCTUATION"), (1, u "CONNECTOR_PUNCTUATION"), (1, u "OTHER_PUNCTUATION"), (1, u "MATH_SYMBOL"), (1, u "CURRENCY_SYMBOL"), (1, u "MODIFIER_SYMBOL"), (1, u "OTHER_SYMBOL"), (1, u "INITIAL_QUOTE_PUNCTUATION"), (1, u "FINAL_QUOTE_PUNCTUATION"), (1, u "ERROR"), (1, u "DIRECTIONALITY_UNDEFINED"), (0, u "DIRECTIONALITY_LEFT_TO_RIGHT"), (0, u "DIRECTIONALITY_RIGHT_TO_LEFT"), (0, u "DIRECTIONALITY_RIGHT_TO_LEFT_ARABIC"), (0, u "DIRECTIONALITY_EUROPEAN_NUMBER"), (0, u "DIRECTIONALITY_EUROPEAN_NUMBER_SEPARATOR"), (0, u "DIRECTIONALITY_EUROPEAN_NUMBER_TERMINATOR"), (0, u "DIRECTIONALITY_ARABIC_NUMBER"), (0, u "DIRECTIONALITY_COMMON_NUMBER_SEPARATOR"), (0, u "DIRECTIONALITY_NONSPACING_MARK"), (0, u "DIRECTIONALITY_BOUNDARY_NEUTRAL"), (0, u "DIRECTIONALITY_PARAGRAPH_SEPARATOR"), (0, u "DIRECTIONALITY_SEGMENT_SEPARATOR"), (0, u "DIRECTIONALITY_WHITESPACE"), (0, u "DIRECTIONALITY_OTHER_NEUTRALS"), (0, u "DIRECTIONALITY_LEFT_TO_RIGHT_EMBEDDING"), (0, u "DIRECTIONALITY_LEFT_TO_RIGHT_OVERRIDE"), (0, u "DIRECTIONALITY_RIGHT_TO_LEFT_EMBEDDING"), (0, u "DIRECTIONALITY_RIGHT_TO_LEFT_OVERRIDE"), (1, u "DIRECTIONALITY_POP_DIRECTIONAL_FORMAT"), (0, u "DIRECTIONALITY_LEFT_TO_RIGHT_ISOLATE"), (0, u "DIRECTIONALITY_RIGHT_TO_LEFT_ISOLATE"), (0, u "DIRECTIONALITY_FIRST_STRONG_ISOLATE"), (0, u "DIRECTIONALITY_POP_DIRECTIONAL_ISOLATE"), (0, u "MIN_HIGH_SURROGATE"), (0, u "MAX_HIGH_SURROGATE"), (1, u "MIN_LOW_SURROGATE"), (0, u "MAX_LOW_SURROGATE"), (1, u "MIN_SURROGATE"), (0, u "MAX_SURROGATE"), (0, u "MIN_SUPPLEMENTARY_CODE_POINT"), (0, u "MIN_CODE_POINT"), (0, u "MAX_CODE_POINT"), (1, u "serialVersionUID"), (0, u "J"), (2, u "SIZE"), (0, u "BYTES"), (88, .class_ 596), (0, u "java/lang/Character$UnicodeScript"), (0, .class_ 598), (0, u "java/lang/Character$Subset")] 5

def k13c0 : Code := { maxStack := 1, maxLocals := 1, code := jdk_89_method_88_code, exceptionTable := #[], attributes := #[] }
def k13m0 : Method := { name := "isISOControl", desc := "(C)Z", sig := { parameters := [.char], returnType := some .boolean }, accessFlags := 9, code := some k13c0 }
def k13c1 : Code := { maxStack := 2, maxLocals := 1, code := jdk_89_method_89_code, exceptionTable := #[], attributes := #[] }
def k13m1 : Method := { name := "isISOControl", desc := "(I)Z", sig := { parameters := [.int], returnType := some .boolean }, accessFlags := 9, code := some k13c1 }
/-- java/lang/Character -/
def k13 : Class := { plain "java/lang/Character" (some 0) with
  accessFlags := 49
  interfaces := #[4, 5, 7]
  cf := some (fileOf pool13 1 #[.nestMembers #[48, 595, 307, 597]] #[{ accessFlags := 9, nameIndex := 268, descriptorIndex := 81, attributes := #[] }, { accessFlags := 9, nameIndex := 268, descriptorIndex := 114, attributes := #[] }] 49 42 #[385, 387, 389] #[{ accessFlags := 25, nameIndex := 391, descriptorIndex := 392, attributes := #[] }, { accessFlags := 25, nameIndex := 395, descriptorIndex := 392, attributes := #[] }, { accessFlags := 25, nameIndex := 397, descriptorIndex := 22, attributes := #[] }, { accessFlags := 25, nameIndex := 399, descriptorIndex := 22, attributes := #[] }, { accessFlags := 25, nameIndex := 383, descriptorIndex := 384, attributes := #[] }, { accessFlags := 25, nameIndex := 403, descriptorIndex := 404, attributes := #[] }, { accessFlags := 25, nameIndex := 405, descriptorIndex := 404, attributes := #[] }, { accessFlags := 25, nameIndex := 407, descriptorIndex := 404, attributes := #[] }, { accessFlags := 25, nameIndex := 408, descriptorIndex := 404, attributes := #[] }, { accessFlags := 25, nameIndex := 410, descriptorIndex := 404, attributes := #[] }, { accessFlags := 25, nameIndex := 412, descriptorIndex := 404, attributes := #[] }, { accessFlags := 25, nameIndex := 414, descriptorIndex := 404, attributes := #[] }, { accessFlags := 25, nameIndex := 416, descriptorIndex := 404, attributes := #[] }, { accessFlags := 25, nameIndex := 418, descriptorIndex := 404, attributes := #[] }, { accessFlags := 25, nameIndex := 420, descriptorIndex := 404, attributes := #[] }, { accessFlags := 25, nameIndex := 422, descriptorIndex := 404, attributes := #[] }, { accessFlags := 25, nameIndex := 424, descriptorIndex := 404, attributes := #[] }, { accessFlags := 25, nameIndex := 426, descriptorIndex := 404, attributes := #[] }, { accessFlags := 25, nameIndex := 428, descriptorIndex := 404, attributes := #[] }, { accessFlags := 25, nameIndex := 430, descriptorIndex := 404, attributes := #[] }, { accessFlags := 25, nameIndex := 432, descriptorIndex := 404, attributes := #[] }, { accessFlags := 25, nameIndex := 434, descriptorIndex := 404, attributes := #[] }, { accessFlags := 25, nameIndex := 436, descriptorIndex := 404, attributes := #[] }, { accessFlags := 25, nameIndex := 438, descriptorIndex := 404, attributes := #[] }, { accessFlags := 25, nameIndex := 440, descriptorIndex := 404, attributes := #[] }, { accessFlags := 25, nameIndex := 442, descriptorIndex := 404, attributes := #[] }, { accessFlags := 25, nameIndex := 444, descriptorIndex := 404, attributes := #[] }, { accessFlags := 25, nameIndex := 446, descriptorIndex := 404, attributes := #[] }, { accessFlags := 25, nameIndex := 448, descriptorIndex := 404, attributes := #[] }, { accessFlags := 25, nameIndex := 450, descriptorIndex := 404, attributes := #[] }, { accessFlags := 25, nameIndex := 452, descriptorIndex := 404, attributes := #[] }, { accessFlags := 25, nameIndex := 454, descriptorIndex := 404, attributes := #[] }, { accessFlags := 25, nameIndex := 456, descriptorIndex := 404, attributes := #[] }, { accessFlags := 25, nameIndex := 458, descriptorIndex := 404, attributes := #[] }, { accessFlags := 25, nameIndex := 460, descriptorIndex := 404, attributes := #[] }, { accessFlags := 24, nameIndex := 462, descriptorIndex := 392, attributes := #[] }, { accessFlags := 25, nameIndex := 464, descriptorIndex := 404, attributes := #[] }, { accessFlags := 25, nameIndex := 465, descriptorIndex := 404, attributes := #[] }, { accessFlags := 25, nameIndex := 466, descriptorIndex := 404, attributes := #[] }, { accessFlags := 25, nameIndex := 467, descriptorIndex := 404, attributes := #[] }, { accessFlags := 25, nameIndex := 468, descriptorIndex := 404, attributes := #[] }, { accessFlags := 25, nameIndex := 469, descriptorIndex := 404, attributes := #[] }, { accessFlags := 25, nameIndex := 470, descriptorIndex := 404, attributes := #[] }, { accessFlags := 25, nameIndex := 471, descriptorIndex := 404, attributes := #[] }, { accessFlags := 25, nameIndex := 472, descriptorIndex := 404, attributes := #[] }, { accessFlags := 25, nameIndex := 473, descriptorIndex := 404, attributes := #[] }, { accessFlags := 25, nameIndex := 474, descriptorIndex := 404, attributes := #[] }, { accessFlags := 25, nameIndex := 475, descriptorIndex := 404, attributes := #[] }, { accessFlags := 25, nameIndex := 476, descriptorIndex := 404, attributes := #[] }, { accessFlags := 25, nameIndex := 477, descriptorIndex := 404, attributes := #[] }, { accessFlags := 25, nameIndex := 478, descriptorIndex := 404, attributes := #[] }, { accessFlags := 25, nameIndex := 479, descriptorIndex := 404, attributes := #[] }, { accessFlags := 25, nameIndex := 480, descriptorIndex := 404, attributes := #[] }, { accessFlags := 25, nameIndex := 481, descriptorIndex := 404, attributes := #[] }, { accessFlags := 25, nameIndex := 482, descriptorIndex := 404, attributes := #[] }, { accessFlags := 25, nameIndex := 484, descriptorIndex := 404, attributes := #[] }, { accessFlags := 25, nameIndex := 485, descriptorIndex := 404, attributes := #[] }, { accessFlags := 25, nameIndex := 486, descriptorIndex := 404, attributes := #[] }, { accessFlags := 25, nameIndex := 487, descriptorIndex := 404, attributes := #[] }, { accessFlags := 25, nameIndex := 488, descriptorIndex := 404, attributes := #[] }, { accessFlags := 25, nameIndex := 489, descriptorIndex := 22, attributes := #[] }, { accessFlags := 25, nameIndex := 490, descriptorIndex := 22, attributes := #[] }, { accessFlags := 25, nameIndex := 492, descriptorIndex := 22, attributes := #[] }, { accessFlags := 25, nameIndex := 493, descriptorIndex := 22, attributes := #[] }, { accessFlags := 25, nameIndex := 495, descriptorIndex := 22, attributes := #[] }, { accessFlags := 25, nameIndex := 496, descriptorIndex := 22, attributes := #[] }, { accessFlags := 25, nameIndex := 497, descriptorIndex := 392, attributes := #[] }, { accessFlags := 25, nameIndex := 498, descriptorIndex := 392, attributes := #[] }, { accessFlags := 25, nameIndex := 499, descriptorIndex := 392, attributes := #[] }, { accessFlags := 18, nameIndex := 21, descriptorIndex := 22, attributes := #[] }, { accessFlags := 26, nameIndex := 501, descriptorIndex := 502, attributes := #[] }, { accessFlags := 25, nameIndex := 505, descriptorIndex := 392, attributes := #[] }, { accessFlags := 25, nameIndex := 506, descriptorIndex := 392, attributes := #[] }, { accessFlags := 4120, nameIndex := 284, descriptorIndex := 285, attributes := #[] }])
  fields := #[{ name := "MIN_RADIX", type := .int, accessFlags := 25, slot := 0, constantValue := 0 }, { name := "MAX_RADIX", type := .int, accessFlags := 25, slot := 1, constantValue := 0 }, { name := "MIN_VALUE", type := .char, accessFlags := 25, slot := 2, constantValue := 0 }, { name := "MAX_VALUE", type := .char, accessFlags := 25, slot := 3, constantValue := 0 }, { name := "TYPE", type := (.object "java/lang/Class"), accessFlags := 25, slot := 4, constantValue := 0 }, { name := "UNASSIGNED", type := .byte, accessFlags := 25, slot := 5, constantValue := 0 }, { name := "UPPERCASE_LETTER", type := .byte, accessFlags := 25, slot := 6, constantValue := 0 }, { name := "LOWERCASE_LETTER", type := .byte, accessFlags := 25, slot := 7, constantValue := 0 }, { name := "TITLECASE_LETTER", type := .byte, accessFlags := 25, slot := 8, constantValue := 0 }, { name := "MODIFIER_LETTER", type := .byte, accessFlags := 25, slot := 9, constantValue := 0 }, { name := "OTHER_LETTER", type := .byte, accessFlags := 25, slot := 10, constantValue := 0 }, { name := "NON_SPACING_MARK", type := .byte, accessFlags := 25, slot := 11, constantValue := 0 }, { name := "ENCLOSING_MARK", type := .byte, accessFlags := 25, slot := 12, constantValue := 0 }, { name := "COMBINING_SPACING_MARK", type := .byte, accessFlags := 25, slot := 13, constantValue := 0 }, { name := "DECIMAL_DIGIT_NUMBER", type := .byte, accessFlags := 25, slot := 14, constantValue := 0 }, { name := "LETTER_NUMBER", type := .byte, accessFlags := 25, slot := 15, constantValue := 0 }, { name := "OTHER_NUMBER", type := .byte, accessFlags := 25, slot := 16, constantValue := 0 }, { name := "SPACE_SEPARATOR", type := .byte, accessFlags := 25, slot := 17, constantValue := 0 }, { name := "LINE_SEPARATOR", type := .byte, accessFlags := 25, slot := 18, constantValue := 0 }, { name := "PARAGRAPH_SEPARATOR", type := .byte, accessFlags := 25, slot := 19, constantValue := 0 }, { name := "CONTROL", type := .byte, accessFlags := 25, slot := 20, constantValue := 0 }, { name := "FORMAT", type := .byte, accessFlags := 25, slot := 21, constantValue := 0 }, { name := "PRIVATE_USE", type := .byte, accessFlags := 25, slot := 22, constantValue := 0 }, { name := "SURROGATE", type := .byte, accessFlags := 25, slot := 23, constantValue := 0 }, { name := "DASH_PUNCTUATION", type := .byte, accessFlags := 25, slot := 24, constantValue := 0 }, { name := "START_PUNCTUATION", type := .byte, accessFlags := 25, slot := 25, constantValue := 0 }, { name := "END_PUNCTUATION", type := .byte, accessFlags := 25, slot := 26, constantValue := 0 }, { name := "CONNECTOR_PUNCTUATION", type := .byte, accessFlags := 25, slot := 27, constantValue := 0 }, { name := "OTHER_PUNCTUATION", type := .byte, accessFlags := 25, slot := 28, constantValue := 0 }, { name := "MATH_SYMBOL", type := .byte, accessFlags := 25, slot := 29, constantValue := 0 }, { name := "CURRENCY_SYMBOL", type := .byte, accessFlags := 25, slot := 30, constantValue := 0 }, { name := "MODIFIER_SYMBOL", type := .byte, accessFlags := 25, slot := 31, constantValue := 0 }, { name := "OTHER_SYMBOL", type := .byte, accessFlags := 25, slot := 32, constantValue := 0 }, { name := "INITIAL_QUOTE_PUNCTUATION", type := .byte, accessFlags := 25, slot := 33, constantValue := 0 }, { name := "FINAL_QUOTE_PUNCTUATION", type := .byte, accessFlags := 25, slot := 34, constantValue := 0 }, { name := "ERROR", type := .int, accessFlags := 24, slot := 35, constantValue := 0 }, { name := "DIRECTIONALITY_UNDEFINED", type := .byte, accessFlags := 25, slot := 36, constantValue := 0 }, { name := "DIRECTIONALITY_LEFT_TO_RIGHT", type := .byte, accessFlags := 25, slot := 37, constantValue := 0 }, { name := "DIRECTIONALITY_RIGHT_TO_LEFT", type := .byte, accessFlags := 25, slot := 38, constantValue := 0 }, { name := "DIRECTIONALITY_RIGHT_TO_LEFT_ARABIC", type := .byte, accessFlags := 25, slot := 39, constantValue := 0 }, { name := "DIRECTIONALITY_EUROPEAN_NUMBER", type := .byte, accessFlags := 25, slot := 40, constantValue := 0 }, { name := "DIRECTIONALITY_EUROPEAN_NUMBER_SEPARATOR", type := .byte, accessFlags := 25, slot := 41, constantValue := 0 }, { name := "DIRECTIONALITY_EUROPEAN_NUMBER_TERMINATOR", type := .byte, accessFlags := 25, slot := 42, constantValue := 0 }, { name := "DIRECTIONALITY_ARABIC_NUMBER", type := .byte, accessFlags := 25, slot := 43, constantValue := 0 }, { name := "DIRECTIONALITY_COMMON_NUMBER_SEPARATOR", type := .byte, accessFlags := 25, slot := 44, constantValue := 0 }, { name := "DIRECTIONALITY_NONSPACING_MARK", type := .byte, accessFlags := 25, slot := 45, constantValue := 0 }, { name := "DIRECTIONALITY_BOUNDARY_NEUTRAL", type := .byte, accessFlags := 25, slot := 46, constantValue := 0 }, { name := "DIRECTIONALITY_PARAGRAPH_SEPARATOR", type := .byte, accessFlags := 25, slot := 47, constantValue := 0 }, { name := "DIRECTIONALITY_SEGMENT_SEPARATOR", type := .byte, accessFlags := 25, slot := 48, constantValue := 0 }, { name := "DIRECTIONALITY_WHITESPACE", type := .byte, accessFlags := 25, slot := 49, constantValue := 0 }, { name := "DIRECTIONALITY_OTHER_NEUTRALS", type := .byte, accessFlags := 25, slot := 50, constantValue := 0 }, { name := "DIRECTIONALITY_LEFT_TO_RIGHT_EMBEDDING", type := .byte, accessFlags := 25, slot := 51, constantValue := 0 }, { name := "DIRECTIONALITY_LEFT_TO_RIGHT_OVERRIDE", type := .byte, accessFlags := 25, slot := 52, constantValue := 0 }, { name := "DIRECTIONALITY_RIGHT_TO_LEFT_EMBEDDING", type := .byte, accessFlags := 25, slot := 53, constantValue := 0 }, { name := "DIRECTIONALITY_RIGHT_TO_LEFT_OVERRIDE", type := .byte, accessFlags := 25, slot := 54, constantValue := 0 }, { name := "DIRECTIONALITY_POP_DIRECTIONAL_FORMAT", type := .byte, accessFlags := 25, slot := 55, constantValue := 0 }, { name := "DIRECTIONALITY_LEFT_TO_RIGHT_ISOLATE", type := .byte, accessFlags := 25, slot := 56, constantValue := 0 }, { name := "DIRECTIONALITY_RIGHT_TO_LEFT_ISOLATE", type := .byte, accessFlags := 25, slot := 57, constantValue := 0 }, { name := "DIRECTIONALITY_FIRST_STRONG_ISOLATE", type := .byte, accessFlags := 25, slot := 58, constantValue := 0 }, { name := "DIRECTIONALITY_POP_DIRECTIONAL_ISOLATE", type := .byte, accessFlags := 25, slot := 59, constantValue := 0 }, { name := "MIN_HIGH_SURROGATE", type := .char, accessFlags := 25, slot := 60, constantValue := 0 }, { name := "MAX_HIGH_SURROGATE", type := .char, accessFlags := 25, slot := 61, constantValue := 0 }, { name := "MIN_LOW_SURROGATE", type := .char, accessFlags := 25, slot := 62, constantValue := 0 }, { name := "MAX_LOW_SURROGATE", type := .char, accessFlags := 25, slot := 63, constantValue := 0 }, { name := "MIN_SURROGATE", type := .char, accessFlags := 25, slot := 64, constantValue := 0 }, { name := "MAX_SURROGATE", type := .char, accessFlags := 25, slot := 65, constantValue := 0 }, { name := "MIN_SUPPLEMENTARY_CODE_POINT", type := .int, accessFlags := 25, slot := 66, constantValue := 0 }, { name := "MIN_CODE_POINT", type := .int, accessFlags := 25, slot := 67, constantValue := 0 }, { name := "MAX_CODE_POINT", type := .int, accessFlags := 25, slot := 68, constantValue := 0 }, { name := "value", type := .char, accessFlags := 18, slot := 0, constantValue := 0 }, { name := "serialVersionUID", type := .long, accessFlags := 26, slot := 69, constantValue := 0 }, { name := "SIZE", type := .int, accessFlags := 25, slot := 70, constantValue := 0 }, { name := "BYTES", type := .int, accessFlags := 25, slot := 71, constantValue := 0 }, { name := "$assertionsDisabled", type := .boolean, accessFlags := 4120, slot := 72, constantValue := 0 }]
  methods := #[k13m0, k13m1]
  instanceTypes := #[.char]
  staticTypes := #[.int, .int, .char, .char, (.object "java/lang/Class"), .byte, .byte, .byte, .byte, .byte, .byte, .byte, .byte, .byte, .byte, .byte, .byte, .byte, .byte, .byte, .byte, .byte, .byte, .byte, .byte, .byte, .byte, .byte, .byte, .byte, .byte, .byte, .byte, .byte, .byte, .int, .byte, .byte, .byte, .byte, .byte, .byte, .byte, .byte, .byte, .byte, .byte, .byte, .byte, .byte, .byte, .byte, .byte, .byte, .byte, .byte, .byte, .byte, .byte, .byte, .char, .char, .char, .char, .char, .char, .int, .int, .int, .long, .int, .int, .boolean]
  resolved := Array.replicate 604 none
  statics := none }

def pool14 : Array CpInfo := pool [(2, .class_ 4), (1, u "java/lang/Object"), (0, u "<init>"), (0, u "()V"), (1, .class_ 10), (1, u "java/lang/Number"), (2, .class_ 14), (0, u "java/io/Serializable"), (0, u "serialVersionUID"), (0, u "J")] 20

def k14m0 : Method := { name := "<init>", desc := "()V", sig := { parameters := [], returnType := none }, accessFlags := 1, code := none }
/-- java/lang/Number -/
def k14 : Class := { plain "java/lang/Number" (some 0) with
  accessFlags := 1057
  interfaces := #[4]
  cf := some (fileOf pool14 8 #[] #[{ accessFlags := 1, nameIndex := 5, descriptorIndex := 6, attributes := #[] }] 1057 2 #[13] #[{ accessFlags := 26, nameIndex := 15, descriptorIndex := 16, attributes := #[] }])
  fields := #[{ name := "serialVersionUID", type := .long, accessFlags := 26, slot := 0, constantValue := 0 }]
  methods := #[k14m0]
  instanceTypes := #[]
  staticTypes := #[.long]
  resolved := Array.replicate 37 none
  statics := none }

def pool15 : Array CpInfo := pool [(1, .class_ 2), (0, u "java/lang/Double"), (10, u "isFinite"), (0, u "(D)Z"), (8, .class_ 25), (1, u "java/lang/Math"), (12, .methodref 23 39), (0, .nameAndType 40 41), (0, u "abs"), (0, u "(D)D"), (69, .double 9218868437227405311), (2, .class_ 116), (1, u "java/lang/Number"), (3, u "value"), (0, u "D"), (2, u "isNaN"), (48, u "TYPE"), (0, u "Ljava/lang/Class;"), (0, .class_ 176), (0, u "java/lang/Comparable"), (0, .class_ 178), (0, u "java/lang/constant/Constable"), (0, .class_ 180), (0, u "java/lang/constant/ConstantDesc"), (0, u "POSITIVE_INFINITY"), (3, u "NEGATIVE_INFINITY"), (2, u "NaN"), (2, u "MAX_VALUE"), (0, u "MIN_NORMAL"), (0, u "MIN_VALUE"), (2, u "SIZE"), (0, u "I"), (1, u "PRECISION"), (1, u "MAX_EXPONENT"), (1, u "MIN_EXPONENT"), (1, u "BYTES"), (3, u "serialVersionUID"), (0, u "J")] 79

def k15c0 : Code := { maxStack := 4, maxLocals := 2, code := jdk_117_method_6_code, exceptionTable := #[], attributes := #[] }
def k15m0 : Method := { name := "isNaN", desc := "(D)Z", sig := { parameters := [.double], returnType := some .boolean }, accessFlags := 9, code := some k15c0 }
def k15c1 : Code := { maxStack := 4, maxLocals := 2, code := jdk_117_method_8_code, exceptionTable := #[], attributes := #[] }
def k15m1 : Method := { name := "isFinite", desc := "(D)Z", sig := { parameters := [.double], returnType := some .boolean }, accessFlags := 9, code := some k15c1 }
/-- java/lang/Double -/
def k15 : Class := { plain "java/lang/Double" (some 14) with
  accessFlags := 49
  interfaces := #[5, 7, 8]
  cf := some (fileOf pool15 1 #[] #[{ accessFlags := 9, nameIndex := 124, descriptorIndex := 14, attributes := #[] }, { accessFlags := 9, nameIndex := 13, descriptorIndex := 14, attributes := #[] }] 49 114 #[175, 177, 179] #[{ accessFlags := 25, nameIndex := 181, descriptorIndex := 121, attributes := #[] }, { accessFlags := 25, nameIndex := 185, descriptorIndex := 121, attributes := #[] }, { accessFlags := 25, nameIndex := 188, descriptorIndex := 121, attributes := #[] }, { accessFlags := 25, nameIndex := 191, descriptorIndex := 121, attributes := #[] }, { accessFlags := 25, nameIndex := 192, descriptorIndex := 121, attributes := #[] }, { accessFlags := 25, nameIndex := 193, descriptorIndex := 121, attributes := #[] }, { accessFlags := 25, nameIndex := 196, descriptorIndex := 197, attributes := #[] }, { accessFlags := 25, nameIndex := 199, descriptorIndex := 197, attributes := #[] }, { accessFlags := 25, nameIndex := 201, descriptorIndex := 197, attributes := #[] }, { accessFlags := 25, nameIndex := 203, descriptorIndex := 197, attributes := #[] }, { accessFlags := 25, nameIndex := 205, descriptorIndex := 197, attributes := #[] }, { accessFlags := 25, nameIndex := 173, descriptorIndex := 174, attributes := #[] }, { accessFlags := 18, nameIndex := 120, descriptorIndex := 121, attributes := #[] }, { accessFlags := 26, nameIndex := 209, descriptorIndex := 210, attributes := #[] }])
  fields := #[{ name := "POSITIVE_INFINITY", type := .double, accessFlags := 25, slot := 0, constantValue := 0 }, { name := "NEGATIVE_INFINITY", type := .double, accessFlags := 25, slot := 1, constantValue := 0 }, { name := "NaN", type := .double, accessFlags := 25, slot := 2, constantValue := 0 }, { name := "MAX_VALUE", type := .double, accessFlags := 25, slot := 3, constantValue := 0 }, { name := "MIN_NORMAL", type := .double, accessFlags := 25, slot := 4, constantValue := 0 }, { name := "MIN_VALUE", type := .double, accessFlags := 25, slot := 5, constantValue := 0 }, { name := "SIZE", type := .int, accessFlags := 25, slot := 6, constantValue := 0 }, { name := "PRECISION", type := .int, accessFlags := 25, slot := 7, constantValue := 0 }, { name := "MAX_EXPONENT", type := .int, accessFlags := 25, slot := 8, constantValue := 0 }, { name := "MIN_EXPONENT", type := .int, accessFlags := 25, slot := 9, constantValue := 0 }, { name := "BYTES", type := .int, accessFlags := 25, slot := 10, constantValue := 0 }, { name := "TYPE", type := (.object "java/lang/Class"), accessFlags := 25, slot := 11, constantValue := 0 }, { name := "value", type := .double, accessFlags := 18, slot := 0, constantValue := 0 }, { name := "serialVersionUID", type := .long, accessFlags := 26, slot := 12, constantValue := 0 }]
  methods := #[k15m0, k15m1]
  instanceTypes := #[.double]
  staticTypes := #[.double, .double, .double, .double, .double, .double, .int, .int, .int, .int, .int, (.object "java/lang/Class"), .long]
  resolved := Array.replicate 290 none
  statics := none }

def pool16 : Array CpInfo := pool [(1, .class_ 2), (0, u "java/lang/Math"), (1, .class_ 6), (1, u "java/lang/Object"), (0, u "<init>"), (0, u "()V"), (5, u "(D)D"), (83, .class_ 100), (1, u "java/lang/Math$RandomNumberGeneratorHolder"), (23, u "abs"), (47, u "negativeZeroFloatBits"), (0, u "J"), (2, u "negativeZeroDoubleBits"), (68, u "$assertionsDisabled"), (0, u "Z"), (91, u "twoToTheDoubleScaleDown"), (0, u "D"), (4, u "twoToTheDoubleScaleUp"), (9, u "E"), (3, u "PI"), (2, u "TAU"), (2, u "DEGREES_TO_RADIANS"), (0, u "RADIANS_TO_DEGREES")] 94

def k16m0 : Method := { name := "<init>", desc := "()V", sig := { parameters := [], returnType := none }, accessFlags := 2, code := none }
def k16c1 : Code := { maxStack := 4, maxLocals := 2, code := jdk_29_method_64_code, exceptionTable := #[], attributes := #[] }
def k16m1 : Method := { name := "abs", desc := "(D)D", sig := { parameters := [.double], returnType := some .double }, accessFlags := 9, code := some k16c1 }
/-- java/lang/Math -/
def k16 : Class := { plain "java/lang/Math" (some 0) with
  accessFlags := 49
  interfaces := #[]
  cf := some (fileOf pool16 1 #[.nestMembers #[98]] #[{ accessFlags := 2, nameIndex := 7, descriptorIndex := 8, attributes := #[] }, { accessFlags := 9, nameIndex := 124, descriptorIndex := 14, attributes := #[] }] 49 4 #[] #[{ accessFlags := 25, nameIndex := 354, descriptorIndex := 339, attributes := #[] }, { accessFlags := 25, nameIndex := 358, descriptorIndex := 339, attributes := #[] }, { accessFlags := 25, nameIndex := 361, descriptorIndex := 339, attributes := #[] }, { accessFlags := 26, nameIndex := 364, descriptorIndex := 339, attributes := #[] }, { accessFlags := 26, nameIndex := 365, descriptorIndex := 339, attributes := #[] }, { accessFlags := 26, nameIndex := 172, descriptorIndex := 173, attributes := #[] }, { accessFlags := 26, nameIndex := 176, descriptorIndex := 173, attributes := #[] }, { accessFlags := 8, nameIndex := 344, descriptorIndex := 339, attributes := #[] }, { accessFlags := 8, nameIndex := 338, descriptorIndex := 339, attributes := #[] }, { accessFlags := 4120, nameIndex := 245, descriptorIndex := 246, attributes := #[] }])
  fields := #[{ name := "E", type := .double, accessFlags := 25, slot := 0, constantValue := 0 }, { name := "PI", type := .double, accessFlags := 25, slot := 1, constantValue := 0 }, { name := "TAU", type := .double, accessFlags := 25, slot := 2, constantValue := 0 }, { name := "DEGREES_TO_RADIANS", type := .double, accessFlags := 26, slot := 3, constantValue := 0 }, { name := "RADIANS_TO_DEGREES", type := .double, accessFlags := 26, slot := 4, constantValue := 0 }, { name := "negativeZeroFloatBits", type := .long, accessFlags := 26, slot := 5, constantValue := 0 }, { name := "negativeZeroDoubleBits", type := .long, accessFlags := 26, slot := 6, constantValue := 0 }, { name := "twoToTheDoubleScaleUp", type := .double, accessFlags := 8, slot := 7, constantValue := 0 }, { name := "twoToTheDoubleScaleDown", type := .double, accessFlags := 8, slot := 8, constantValue := 0 }, { name := "$assertionsDisabled", type := .boolean, accessFlags := 4120, slot := 9, constantValue := 0 }]
  methods := #[k16m0, k16m1]
  instanceTypes := #[]
  staticTypes := #[.double, .double, .double, .double, .double, .long, .long, .double, .double, .boolean]
  resolved := Array.replicate 460 none
  statics := none }

def pool17 : Array CpInfo := pool [(9, u "<init>"), (6, .class_ 18), (1, u "java/lang/Object"), (0, u "()V"), (1, .class_ 23), (1, u "jdk/internal/util/ArraysSupport"), (0, u "LOG2_ARRAY_LONG_INDEX_SCALE"), (0, u "I"), (2, u "U"), (0, u "Ljdk/internal/misc/Unsafe;"), (8, u "BIG_ENDIAN"), (0, u "Z"), (8, u "LOG2_BYTE_BIT_SIZE"), (4, u "LOG2_ARRAY_INT_INDEX_SCALE"), (54, u "JLA"), (0, u "Ljdk/internal/access/JavaLangAccess;"), (11, u "LOG2_ARRAY_BOOLEAN_INDEX_SCALE"), (9, u "LOG2_ARRAY_BYTE_INDEX_SCALE"), (5, u "LOG2_ARRAY_CHAR_INDEX_SCALE"), (5, u "LOG2_ARRAY_SHORT_INDEX_SCALE"), (18, u "LOG2_ARRAY_FLOAT_INDEX_SCALE"), (24, u "LOG2_ARRAY_DOUBLE_INDEX_SCALE"), (89, u "T_BOOLEAN"), (2, u "T_CHAR"), (1, u "T_FLOAT"), (1, u "T_DOUBLE"), (1, u "T_BYTE"), (1, u "T_SHORT"), (1, u "T_INT"), (1, u "T_LONG"), (1, u "SOFT_MAX_ARRAY_LENGTH")] 83

def k17m0 : Method := { name := "<init>", desc := "()V", sig := { parameters := [], returnType := none }, accessFlags := 2, code := none }
/-- jdk/internal/util/ArraysSupport -/
def k17 : Class := { plain "jdk/internal/util/ArraysSupport" (some 0) with
  accessFlags := 33
  interfaces := #[]
  cf := some (fileOf pool17 21 #[] #[{ accessFlags := 2, nameIndex := 9, descriptorIndex := 19, attributes := #[] }] 33 16 #[] #[{ accessFlags := 24, nameIndex := 28, descriptorIndex := 29, attributes := #[] }, { accessFlags := 26, nameIndex := 38, descriptorIndex := 39, attributes := #[] }, { accessFlags := 25, nameIndex := 121, descriptorIndex := 25, attributes := #[] }, { accessFlags := 25, nameIndex := 131, descriptorIndex := 25, attributes := #[] }, { accessFlags := 25, nameIndex := 137, descriptorIndex := 25, attributes := #[] }, { accessFlags := 25, nameIndex := 143, descriptorIndex := 25, attributes := #[] }, { accessFlags := 25, nameIndex := 53, descriptorIndex := 25, attributes := #[] }, { accessFlags := 25, nameIndex := 24, descriptorIndex := 25, attributes := #[] }, { accessFlags := 25, nameIndex := 162, descriptorIndex := 25, attributes := #[] }, { accessFlags := 25, nameIndex := 187, descriptorIndex := 25, attributes := #[] }, { accessFlags := 26, nameIndex := 48, descriptorIndex := 25, attributes := #[] }, { accessFlags := 25, nameIndex := 277, descriptorIndex := 25, attributes := #[] }, { accessFlags := 25, nameIndex := 280, descriptorIndex := 25, attributes := #[] }, { accessFlags := 25, nameIndex := 282, descriptorIndex := 25, attributes := #[] }, { accessFlags := 25, nameIndex := 284, descriptorIndex := 25, attributes := #[] }, { accessFlags := 25, nameIndex := 286, descriptorIndex := 25, attributes := #[] }, { accessFlags := 25, nameIndex := 288, descriptorIndex := 25, attributes := #[] }, { accessFlags := 25, nameIndex := 290, descriptorIndex := 25, attributes := #[] }, { accessFlags := 25, nameIndex := 292, descriptorIndex := 25, attributes := #[] }, { accessFlags := 26, nameIndex := 108, descriptorIndex := 109, attributes := #[] }, { accessFlags := 25, nameIndex := 294, descriptorIndex := 25, attributes := #[] }])
  fields := #[{ name := "U", type := (.object "jdk/internal/misc/Unsafe"), accessFlags := 24, slot := 0, constantValue := 0 }, { name := "BIG_ENDIAN", type := .boolean, accessFlags := 26, slot := 1, constantValue := 0 }, { name := "LOG2_ARRAY_BOOLEAN_INDEX_SCALE", type := .int, accessFlags := 25, slot := 2, constantValue := 0 }, { name := "LOG2_ARRAY_BYTE_INDEX_SCALE", type := .int, accessFlags := 25, slot := 3, constantValue := 0 }, { name := "LOG2_ARRAY_CHAR_INDEX_SCALE", type := .int, accessFlags := 25, slot := 4, constantValue := 0 }, { name := "LOG2_ARRAY_SHORT_INDEX_SCALE", type := .int, accessFlags := 25, slot := 5, constantValue := 0 }, { name := "LOG2_ARRAY_INT_INDEX_SCALE", type := .int, accessFlags := 25, slot := 6, constantValue := 0 }, { name := "LOG2_ARRAY_LONG_INDEX_SCALE", type := .int, accessFlags := 25, slot := 7, constantValue := 0 }, { name := "LOG2_ARRAY_FLOAT_INDEX_SCALE", type := .int, accessFlags := 25, slot := 8, constantValue := 0 }, { name := "LOG2_ARRAY_DOUBLE_INDEX_SCALE", type := .int, accessFlags := 25, slot := 9, constantValue := 0 }, { name := "LOG2_BYTE_BIT_SIZE", type := .int, accessFlags := 26, slot := 10, constantValue := 0 }, { name := "T_BOOLEAN", type := .int, accessFlags := 25, slot := 11, constantValue := 0 }, { name := "T_CHAR", type := .int, accessFlags := 25, slot := 12, constantValue := 0 }, { name := "T_FLOAT", type := .int, accessFlags := 25, slot := 13, constantValue := 0 }, { name := "T_DOUBLE", type := .int, accessFlags := 25, slot := 14, constantValue := 0 }, { name := "T_BYTE", type := .int, accessFlags := 25, slot := 15, constantValue := 0 }, { name := "T_SHORT", type := .int, accessFlags := 25, slot := 16, constantValue := 0 }, { name := "T_INT", type := .int, accessFlags := 25, slot := 17, constantValue := 0 }, { name := "T_LONG", type := .int, accessFlags := 25, slot := 18, constantValue := 0 }, { name := "JLA", type := (.object "jdk/internal/access/JavaLangAccess"), accessFlags := 26, slot := 19, constantValue := 0 }, { name := "SOFT_MAX_ARRAY_LENGTH", type := .int, accessFlags := 25, slot := 20, constantValue := 0 }]
  methods := #[k17m0]
  instanceTypes := #[]
  staticTypes := #[(.object "jdk/internal/misc/Unsafe"), .boolean, .int, .int, .int, .int, .int, .int, .int, .int, .int, .int, .int, .int, .int, .int, .int, .int, .int, (.object "jdk/internal/access/JavaLangAccess"), .int]
  resolved := Array.replicate 378 none
  statics := none }

def pool18 : Array CpInfo := pool [(1, u "java/lang/Cloneable"), (0, .class_ 1), (0, u "java/lang/Object"), (0, .class_ 3)] 3

/-- java/lang/Cloneable -/
def k18 : Class := { plain "java/lang/Cloneable" (some 0) with
  accessFlags := 1537
  interfaces := #[]
  cf := some (fileOf pool18 2 #[] #[] 1537 4 #[] #[])
  fields := #[]
  methods := #[]
  instanceTypes := #[]
  staticTypes := #[]
  resolved := Array.replicate 8 none
  statics := none }

/-- the primitive byte -/
def k19 : Class := { plain "byte" none with kind := .primitive 'B', accessFlags := 0x411 }
/-- [B -/
def k20 : Class := { plain "[B" (some 0) with kind := .array 19 .byte, interfaces := #[18, 4], accessFlags := 1041 }

/-- the primitive int -/
def k21 : Class := { plain "int" none with kind := .primitive 'I', accessFlags := 0x411 }
/-- [I -/
def k22 : Class := { plain "[I" (some 0) with kind := .array 21 .int, interfaces := #[18, 4], accessFlags := 1041 }

def heap : Heap := #[{ cls := 9, slots := #[.long 0, .int 1, .null, .int 0, .null, .int 0, .int 0], vm := .statics 9 },
  { cls := 12, slots := #[.null, .null, .null], vm := .statics 12 }]
def classes : Array Class := #[k0, k1, k2, k3, k4, k5, k6, k7, k8, k9, k10, k11, k12, k13, k14, k15, k16, k17, k18, k19, k20, k21, k22]
def interned : List (Array UInt16 × Addr) := []
def slotsUsed : Nat := 10
def theMethod : MethodId := ⟨1, 1⟩
def args0 : Array Value := #[.int 1, .long 5, .int 3, .int 4]
def aboutOver (below : List Frame) : State where
  vm := { classes := classes, interned := interned.toArray }
  heap := heap
  slotsUsed := slotsUsed
  threads := #[{ frames := .invoking theMethod args0 :: below }]
def below0 : List Frame := [.native { method := ⟨0, 0⟩, args := #[] }]
def about1 : State := aboutOver below0
def p0 : Program := .bare "" "" ""
def e0 : Env := launch0.env 0 0 0
theorem w_frames : about1.frames = Frame.invoking theMethod args0 :: below0 := rfl
set_option maxRecDepth 65536 in
theorem w_args : argsFit about1.vm theMethod args0 = true := by decide +kernel
set_option maxRecDepth 65536 in
theorem w_heap : heapFits about1 = true := by decide +kernel
set_option maxRecDepth 65536 in
theorem w_runnable : about1.curStatus? = some .runnable := by decide +kernel
set_option maxRecDepth 65536 in
theorem w_alone : about1.alone = true := by decide +kernel
set_option maxRecDepth 65536 in
theorem w_named : about1.methodNamed? x = some theMethod := by decide +kernel
set_option maxRecDepth 65536 in
theorem w_hears : about1.hears theMethod below0 = true := by decide +kernel
set_option maxRecDepth 65536 in
theorem w_ripe : about1.ripe theMethod args0 below0 = true := by decide +kernel
theorem w_running : about1.status = .running := rfl
set_option maxRecDepth 65536 in
theorem w_room : about1.hasRoom e0.platform room_1 = true :=
  launch0.hasRoom_least _ room_1 (by decide +kernel) (by decide +kernel) (by decide +kernel) (by decide +kernel) (by decide +kernel) (by decide +kernel)
theorem allAtoms_all (ts : List Jvm.Cond) (a : Array Jvm.Value) (st : Jvm.State) : (allAtoms ts).before a st = ts.all (fun c => c.before a st) := by
  induction ts with
  | nil => rfl
  | cons c t ih =>
    show (Jvm.Cond.and c (allAtoms t)).before a st = _
    rw [Jvm.Cond.before_and, ih, List.all_cons]
def words1 : List Jvm.Cond := Jvm.Cond.code x code maxLocals ret :: tables_1
/-- a 'code' word, met by the world's own term for the bytes: nothing is compared byte by byte -/
theorem code_word {y : MethodName} {bytes : ByteArray} {mx : Nat} {rt : Option FieldType} {a : Array Value} {s : State} {m : MethodId} {meth : Method} {c : Code} (h1 : s.methodNamed? y = some m) (h2 : s.vm.method? m = some meth) (h3 : meth.code = some c) (h4 : c.code = bytes)
    (h5 : (c.maxLocals == mx && c.exceptionTable.isEmpty && decide (c.maxStack ≤ mostOperands) && decide (meth.sig.returnType = rt) && !meth.locks && decide (parseMethodDescriptor y.desc = some meth.sig)) = true) : (Jvm.Cond.code y bytes mx rt).before a s = true := by
  simp only [Bool.and_eq_true, beq_iff_eq, Bool.not_eq_true', decide_eq_true_eq] at h5
  obtain ⟨⟨⟨⟨⟨g1, g2⟩, g3⟩, g4⟩, g5⟩, g6⟩ := h5
  simp [Cond.before, Cond.holds, Cond.value, h1, h2, h3, h4, g1, g2, g3, g4, g5, g6]
def isCode : Jvm.Cond → Bool
  | .code _ _ _ _ => true
  | _ => false
theorem all_split {L : List Jvm.Cond} {P : Jvm.Cond → Bool} (h1 : L.all (fun c => isCode c || P c) = true) (h2 : ∀ c ∈ L.filter isCode, P c = true) : L.all P = true := by
  refine List.all_eq_true.mpr fun c hc => ?_
  have h := List.all_eq_true.mp h1 c hc
  rcases Bool.eq_false_or_eq_true (isCode c) with hi | hi
  · exact h2 c (List.mem_filter.mpr ⟨hc, hi⟩)
  · simpa [hi] using h
set_option maxRecDepth 65536 in
theorem w_c0 : (Jvm.Cond.code x code maxLocals ret).before args0 about1 = true := code_word (m := ⟨1, 1⟩) (meth := k1m1) (c := k1c1) (by decide +kernel) rfl rfl rfl (by decide +kernel)
set_option maxRecDepth 65536 in
theorem w_c1 : (Jvm.Cond.code ({ cls := "com/example/itinerant/itinerant/requests/Request", name := "<init>", desc := "(Ljava/lang/String;DD)V" } : Jvm.MethodName) prog_70_method_2_code (6 : Nat) (Option.none : Option Jvm.ClassFile.FieldType)).before args0 about1 = true := code_word (m := ⟨3, 1⟩) (meth := k3m1) (c := k3c1) (by decide +kernel) rfl rfl rfl (by decide +kernel)
set_option maxRecDepth 65536 in
theorem w_c2 : (Jvm.Cond.code ({ cls := "com/example/itinerant/itinerant/requests/Request", name := "<init>", desc := "(Ljava/lang/String;DDDDD)V" } : Jvm.MethodName) prog_70_method_1_code (13 : Nat) (Option.none : Option Jvm.ClassFile.FieldType)).before args0 about1 = true := code_word (m := ⟨3, 0⟩) (meth := k3m0) (c := k3c0) (by decide +kernel) rfl rfl rfl (by decide +kernel)
set_option maxRecDepth 65536 in
theorem w_c3 : (Jvm.Cond.code ({ cls := "java/lang/Record", name := "<init>", desc := "()V" } : Jvm.MethodName) jdk_30_method_1_code (1 : Nat) (Option.none : Option Jvm.ClassFile.FieldType)).before args0 about1 = true := code_word (m := ⟨2, 0⟩) (meth := k2m0) (c := k2c0) (by decide +kernel) rfl rfl rfl (by decide +kernel)
set_option maxRecDepth 65536 in
theorem w_c4 : (Jvm.Cond.code ({ cls := "java/lang/Object", name := "<init>", desc := "()V" } : Jvm.MethodName) object_method_1_code (1 : Nat) (Option.none : Option Jvm.ClassFile.FieldType)).before args0 about1 = true := code_word (m := ⟨0, 0⟩) (meth := k0m0) (c := k0c0) (by decide +kernel) rfl rfl rfl (by decide +kernel)
set_option maxRecDepth 65536 in
theorem w_c5 : (Jvm.Cond.code ({ cls := "java/util/Objects", name := "requireNonNull", desc := "(Ljava/lang/Object;Ljava/lang/String;)Ljava/lang/Object;" } : Jvm.MethodName) jdk_31_method_11_code (2 : Nat) (Option.some (Jvm.ClassFile.FieldType.object "java/lang/Object"))).before args0 about1 = true := code_word (m := ⟨10, 1⟩) (meth := k10m1) (c := k10c1) (by decide +kernel) rfl rfl rfl (by decide +kernel)
set_option maxRecDepth 65536 in
theorem w_c6 : (Jvm.Cond.code ({ cls := "java/lang/String", name := "isEmpty", desc := "()Z" } : Jvm.MethodName) jdk_42_method_55_code (1 : Nat) (Option.some Jvm.ClassFile.FieldType.boolean)).before args0 about1 = true := code_word (m := ⟨9, 2⟩) (meth := k9m2) (c := k9c2) (by decide +kernel) rfl rfl rfl (by decide +kernel)
set_option maxRecDepth 65536 in
theorem w_c7 : (Jvm.Cond.code ({ cls := "java/lang/String", name := "length", desc := "()I" } : Jvm.MethodName) jdk_42_method_54_code (1 : Nat) (Option.some Jvm.ClassFile.FieldType.int)).before args0 about1 = true := code_word (m := ⟨9, 1⟩) (meth := k9m1) (c := k9c1) (by decide +kernel) rfl rfl rfl (by decide +kernel)
set_option maxRecDepth 65536 in
theorem w_c8 : (Jvm.Cond.code ({ cls := "java/lang/String", name := "coder", desc := "()B" } : Jvm.MethodName) jdk_42_method_152_code (1 : Nat) (Option.some Jvm.ClassFile.FieldType.byte)).before args0 about1 = true := code_word (m := ⟨9, 4⟩) (meth := k9m4) (c := k9c4) (by decide +kernel) rfl rfl rfl (by decide +kernel)
set_option maxRecDepth 65536 in
theorem w_c9 : (Jvm.Cond.code ({ cls := "java/lang/String", name := "charAt", desc := "(I)C" } : Jvm.MethodName) jdk_42_method_56_code (2 : Nat) (Option.some Jvm.ClassFile.FieldType.char)).before args0 about1 = true := code_word (m := ⟨9, 3⟩) (meth := k9m3) (c := k9c3) (by decide +kernel) rfl rfl rfl (by decide +kernel)
set_option maxRecDepth 65536 in
theorem w_c10 : (Jvm.Cond.code ({ cls := "java/lang/String", name := "isLatin1", desc := "()Z" } : Jvm.MethodName) jdk_42_method_154_code (1 : Nat) (Option.some Jvm.ClassFile.FieldType.boolean)).before args0 about1 = true := code_word (m := ⟨9, 5⟩) (meth := k9m5) (c := k9c5) (by decide +kernel) rfl rfl rfl (by decide +kernel)
set_option maxRecDepth 65536 in
theorem w_c11 : (Jvm.Cond.code ({ cls := "java/lang/StringLatin1", name := "charAt", desc := "([BI)C" } : Jvm.MethodName) jdk_43_method_2_code (2 : Nat) (Option.some Jvm.ClassFile.FieldType.char)).before args0 about1 = true := code_word (m := ⟨11, 1⟩) (meth := k11m1) (c := k11c1) (by decide +kernel) rfl rfl rfl (by decide +kernel)
set_option maxRecDepth 65536 in
theorem w_c12 : (Jvm.Cond.code ({ cls := "java/lang/String", name := "checkIndex", desc := "(II)V" } : Jvm.MethodName) jdk_42_method_155_code (2 : Nat) (Option.none : Option Jvm.ClassFile.FieldType)).before args0 about1 = true := code_word (m := ⟨9, 6⟩) (meth := k9m6) (c := k9c6) (by decide +kernel) rfl rfl rfl (by decide +kernel)
set_option maxRecDepth 65536 in
theorem w_c13 : (Jvm.Cond.code ({ cls := "jdk/internal/util/Preconditions", name := "checkIndex", desc := "(IILjava/util/function/BiFunction;)I" } : Jvm.MethodName) jdk_41_method_11_code (3 : Nat) (Option.some Jvm.ClassFile.FieldType.int)).before args0 about1 = true := code_word (m := ⟨12, 1⟩) (meth := k12m1) (c := k12c1) (by decide +kernel) rfl rfl rfl (by decide +kernel)
set_option maxRecDepth 65536 in
theorem w_c14 : (Jvm.Cond.code ({ cls := "java/lang/Character", name := "isISOControl", desc := "(C)Z" } : Jvm.MethodName) jdk_89_method_88_code (1 : Nat) (Option.some Jvm.ClassFile.FieldType.boolean)).before args0 about1 = true := code_word (m := ⟨13, 0⟩) (meth := k13m0) (c := k13c0) (by decide +kernel) rfl rfl rfl (by decide +kernel)
set_option maxRecDepth 65536 in
theorem w_c15 : (Jvm.Cond.code ({ cls := "java/lang/Character", name := "isISOControl", desc := "(I)Z" } : Jvm.MethodName) jdk_89_method_89_code (1 : Nat) (Option.some Jvm.ClassFile.FieldType.boolean)).before args0 about1 = true := code_word (m := ⟨13, 1⟩) (meth := k13m1) (c := k13c1) (by decide +kernel) rfl rfl rfl (by decide +kernel)
set_option maxRecDepth 65536 in
theorem w_c16 : (Jvm.Cond.code ({ cls := "com/example/itinerant/itinerant/requests/Request", name := "nonNegative", desc := "(Ljava/lang/String;D)D" } : Jvm.MethodName) prog_70_method_9_code (3 : Nat) (Option.some Jvm.ClassFile.FieldType.double)).before args0 about1 = true := code_word (m := ⟨3, 4⟩) (meth := k3m4) (c := k3c4) (by decide +kernel) rfl rfl rfl (by decide +kernel)
set_option maxRecDepth 65536 in
theorem w_c17 : (Jvm.Cond.code ({ cls := "java/lang/Double", name := "isFinite", desc := "(D)Z" } : Jvm.MethodName) jdk_117_method_8_code (2 : Nat) (Option.some Jvm.ClassFile.FieldType.boolean)).before args0 about1 = true := code_word (m := ⟨15, 1⟩) (meth := k15m1) (c := k15c1) (by decide +kernel) rfl rfl rfl (by decide +kernel)
set_option maxRecDepth 65536 in
theorem w_c18 : (Jvm.Cond.code ({ cls := "java/lang/Math", name := "abs", desc := "(D)D" } : Jvm.MethodName) jdk_29_method_64_code (2 : Nat) (Option.some Jvm.ClassFile.FieldType.double)).before args0 about1 = true := code_word (m := ⟨16, 1⟩) (meth := k16m1) (c := k16c1) (by decide +kernel) rfl rfl rfl (by decide +kernel)
set_option maxRecDepth 65536 in
theorem w_c19 : (Jvm.Cond.code ({ cls := "java/lang/Double", name := "isNaN", desc := "(D)Z" } : Jvm.MethodName) jdk_117_method_6_code (2 : Nat) (Option.some Jvm.ClassFile.FieldType.boolean)).before args0 about1 = true := code_word (m := ⟨15, 0⟩) (meth := k15m0) (c := k15c0) (by decide +kernel) rfl rfl rfl (by decide +kernel)
set_option maxRecDepth 65536 in
theorem w_c20 : (Jvm.Cond.code ({ cls := "com/example/itinerant/itinerant/requests/Request", name := "mustBeServed", desc := "()Z" } : Jvm.MethodName) prog_70_method_7_code (1 : Nat) (Option.some Jvm.ClassFile.FieldType.boolean)).before args0 about1 = true := code_word (m := ⟨3, 3⟩) (meth := k3m3) (c := k3c3) (by decide +kernel) rfl rfl rfl (by decide +kernel)
set_option maxRecDepth 65536 in
theorem w_c21 : (Jvm.Cond.code ({ cls := "com/example/itinerant/itinerant/requests/Request", name := "withPenalty", desc := "(D)Lcom/example/itinerant/itinerant/requests/Request;" } : Jvm.MethodName) prog_70_method_4_code (3 : Nat) (Option.some (Jvm.ClassFile.FieldType.object "com/example/itinerant/itinerant/requests/Request"))).before args0 about1 = true := code_word (m := ⟨3, 2⟩) (meth := k3m2) (c := k3c2) (by decide +kernel) rfl rfl rfl (by decide +kernel)
def codes1 : List Jvm.Cond := [Jvm.Cond.code x code maxLocals ret, Jvm.Cond.code ({ cls := "com/example/itinerant/itinerant/requests/Request", name := "<init>", desc := "(Ljava/lang/String;DD)V" } : Jvm.MethodName) prog_70_method_2_code (6 : Nat) (Option.none : Option Jvm.ClassFile.FieldType), Jvm.Cond.code ({ cls := "com/example/itinerant/itinerant/requests/Request", name := "<init>", desc := "(Ljava/lang/String;DDDDD)V" } : Jvm.MethodName) prog_70_method_1_code (13 : Nat) (Option.none : Option Jvm.ClassFile.FieldType), Jvm.Cond.code ({ cls := "java/lang/Record", name := "<init>", desc := "()V" } : Jvm.MethodName) jdk_30_method_1_code (1 : Nat) (Option.none : Option Jvm.ClassFile.FieldType), Jvm.Cond.code ({ cls := "java/lang/Object", name := "<init>", desc := "()V" } : Jvm.MethodName) object_method_1_code (1 : Nat) (Option.none : Option Jvm.ClassFile.FieldType), Jvm.Cond.code ({ cls := "java/util/Objects", name := "requireNonNull", desc := "(Ljava/lang/Object;Ljava/lang/String;)Ljava/lang/Object;" } : Jvm.MethodName) jdk_31_method_11_code (2 : Nat) (Option.some (Jvm.ClassFile.FieldType.object "java/lang/Object")), Jvm.Cond.code ({ cls := "java/lang/String", name := "isEmpty", desc := "()Z" } : Jvm.MethodName) jdk_42_method_55_code (1 : Nat) (Option.some Jvm.ClassFile.FieldType.boolean), Jvm.Cond.code ({ cls := "java/lang/String", name := "length", desc := "()I" } : Jvm.MethodName) jdk_42_method_54_code (1 : Nat) (Option.some Jvm.ClassFile.FieldType.int), Jvm.Cond.code ({ cls := "java/lang/String", name := "coder", desc := "()B" } : Jvm.MethodName) jdk_42_method_152_code (1 : Nat) (Option.some Jvm.ClassFile.FieldType.byte), Jvm.Cond.code ({ cls := "java/lang/String", name := "charAt", desc := "(I)C" } : Jvm.MethodName) jdk_42_method_56_code (2 : Nat) (Option.some Jvm.ClassFile.FieldType.char), Jvm.Cond.code ({ cls := "java/lang/String", name := "isLatin1", desc := "()Z" } : Jvm.MethodName) jdk_42_method_154_code (1 : Nat) (Option.some Jvm.ClassFile.FieldType.boolean), Jvm.Cond.code ({ cls := "java/lang/StringLatin1", name := "charAt", desc := "([BI)C" } : Jvm.MethodName) jdk_43_method_2_code (2 : Nat) (Option.some Jvm.ClassFile.FieldType.char), Jvm.Cond.code ({ cls := "java/lang/String", name := "checkIndex", desc := "(II)V" } : Jvm.MethodName) jdk_42_method_155_code (2 : Nat) (Option.none : Option Jvm.ClassFile.FieldType), Jvm.Cond.code ({ cls := "jdk/internal/util/Preconditions", name := "checkIndex", desc := "(IILjava/util/function/BiFunction;)I" } : Jvm.MethodName) jdk_41_method_11_code (3 : Nat) (Option.some Jvm.ClassFile.FieldType.int), Jvm.Cond.code ({ cls := "java/lang/Character", name := "isISOControl", desc := "(C)Z" } : Jvm.MethodName) jdk_89_method_88_code (1 : Nat) (Option.some Jvm.ClassFile.FieldType.boolean), Jvm.Cond.code ({ cls := "java/lang/Character", name := "isISOControl", desc := "(I)Z" } : Jvm.MethodName) jdk_89_method_89_code (1 : Nat) (Option.some Jvm.ClassFile.FieldType.boolean), Jvm.Cond.code ({ cls := "com/example/itinerant/itinerant/requests/Request", name := "nonNegative", desc := "(Ljava/lang/String;D)D" } : Jvm.MethodName) prog_70_method_9_code (3 : Nat) (Option.some Jvm.ClassFile.FieldType.double), Jvm.Cond.code ({ cls := "java/lang/Double", name := "isFinite", desc := "(D)Z" } : Jvm.MethodName) jdk_117_method_8_code (2 : Nat) (Option.some Jvm.ClassFile.FieldType.boolean), Jvm.Cond.code ({ cls := "java/lang/Math", name := "abs", desc := "(D)D" } : Jvm.MethodName) jdk_29_method_64_code (2 : Nat) (Option.some Jvm.ClassFile.FieldType.double), Jvm.Cond.code ({ cls := "java/lang/Double", name := "isNaN", desc := "(D)Z" } : Jvm.MethodName) jdk_117_method_6_code (2 : Nat) (Option.some Jvm.ClassFile.FieldType.boolean), Jvm.Cond.code ({ cls := "com/example/itinerant/itinerant/requests/Request", name := "mustBeServed", desc := "()Z" } : Jvm.MethodName) prog_70_method_7_code (1 : Nat) (Option.some Jvm.ClassFile.FieldType.boolean), Jvm.Cond.code ({ cls := "com/example/itinerant/itinerant/requests/Request", name := "withPenalty", desc := "(D)Lcom/example/itinerant/itinerant/requests/Request;" } : Jvm.MethodName) prog_70_method_4_code (3 : Nat) (Option.some (Jvm.ClassFile.FieldType.object "com/example/itinerant/itinerant/requests/Request"))]
set_option maxRecDepth 65536 in
theorem codes_eq : words1.filter isCode = codes1 := rfl
theorem w_codes : ∀ c ∈ words1.filter isCode, c.before args0 about1 = true := by
  rw [codes_eq]
  intro c hc
  simp only [codes1, List.mem_cons, List.not_mem_nil, or_false] at hc
  rcases hc with rfl | rfl | rfl | rfl | rfl | rfl | rfl | rfl | rfl | rfl | rfl | rfl | rfl | rfl | rfl | rfl | rfl | rfl | rfl | rfl | rfl | rfl
  · exact w_c0
  · exact w_c1
  · exact w_c2
  · exact w_c3
  · exact w_c4
  · exact w_c5
  · exact w_c6
  · exact w_c7
  · exact w_c8
  · exact w_c9
  · exact w_c10
  · exact w_c11
  · exact w_c12
  · exact w_c13
  · exact w_c14
  · exact w_c15
  · exact w_c16
  · exact w_c17
  · exact w_c18
  · exact w_c19
  · exact w_c20
  · exact w_c21
set_option maxRecDepth 65536 in
theorem w_t1 : (words1.take 24).all (fun c => isCode c || c.before args0 about1) = true := by decide +kernel
set_option maxRecDepth 65536 in
theorem w_t2 : ((words1.drop 24).take 24).all (fun c => isCode c || c.before args0 about1) = true := by decide +kernel
set_option maxRecDepth 65536 in
theorem w_t3 : (((words1.drop 24).drop 24).take 24).all (fun c => isCode c || c.before args0 about1) = true := by decide +kernel
set_option maxRecDepth 65536 in
theorem w_t4 : ((((words1.drop 24).drop 24).drop 24).take 24).all (fun c => isCode c || c.before args0 about1) = true := by decide +kernel
set_option maxRecDepth 65536 in
theorem w_t5 : (((((words1.drop 24).drop 24).drop 24).drop 24).take 24).all (fun c => isCode c || c.before args0 about1) = true := by decide +kernel
set_option maxRecDepth 65536 in
theorem w_t6 : (((((words1.drop 24).drop 24).drop 24).drop 24).drop 24).all (fun c => isCode c || c.before args0 about1) = true := by decide +kernel
theorem w_tables : (allAtoms (Jvm.Cond.code x code maxLocals ret :: tables_1)).before args0 about1 = true := by
  rw [allAtoms_all]
  show words1.all (fun c => c.before args0 about1) = true
  refine all_split ?_ w_codes
  rw [← List.take_append_drop 24 words1, List.all_append, w_t1, ← List.take_append_drop 24 (words1.drop 24), List.all_append, w_t2, ← List.take_append_drop 24 ((words1.drop 24).drop 24), List.all_append, w_t3, ← List.take_append_drop 24 (((words1.drop 24).drop 24).drop 24), List.all_append, w_t4, ← List.take_append_drop 24 ((((words1.drop 24).drop 24).drop 24).drop 24), List.all_append, w_t5, w_t6]
  rfl
set_option maxRecDepth 65536 in
theorem w_rest : rest_1_c.before args0 about1 = true := by decide +kernel
set_option maxRecDepth 65536 in
theorem w_case : (Jvm.Cond.and given_1 narrow_1).before args0 about1 = true := by decide +kernel
set_option maxRecDepth 65536 in
theorem w_consts : constsHeld consts_1 about1 := Jvm.Lit.constsHeldB_iff.mp (by decide +kernel)
theorem w_applies : (headSpec (Jvm.Cond.code x code maxLocals ret :: tables_1) room_1).applies x e0.platform about1 = true :=
  (Spec.applies_iff w_frames).mpr ⟨w_running, w_runnable, w_alone, w_named, w_hears, w_ripe, w_room, w_tables⟩
theorem atStart : AtStart classFile x code maxLocals ret World_1 tables_1 room_1 Calls_1 rest_1 Pre_1 launch0 p0 e0 about1 theMethod args0 below0 :=
  ⟨lists_1, trivial, launch0.admits_env _ _ _, launch0.least_env, fairChoices_fair.cas, fairChoices_fair.clock, w_frames, w_args, w_heap, w_applies, ⟨w_consts, trivial⟩, w_rest, w_case⟩
end start1
theorem witness_1 : WitnessClaimed_1 := ⟨start1.p0, start1.e0, start1.about1, start1.theMethod, start1.args0, start1.below0, start1.atStart⟩
end Jvm.Pilot.@@N@@
