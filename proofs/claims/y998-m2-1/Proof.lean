import JvmDerived
import JvmDerived.Pilot.@@N@@Statement
import JvmDerived.Pilot.@@N@@Code
set_option linter.unusedVariables false
set_option linter.unusedSimpArgs false
@@BLOCK:NumsL.lean.txt@@
namespace Jvm.Pilot.@@N@@
section OwnFP
open Jvm.FP Jvm.FP.Core
/-- a double as a whole number of units 2^-1074 -/
def oz (a : UInt64) : Int := zval b64 (val64 a)
theorem own_cmp {a b : UInt64} (ha : DFin a) (hb : DFin b) : FP.dcmp a b = some (compare (oz a) (oz b)) := dcmp_zval ha.ne_nan hb.ne_nan
theorem oz_neg (a : UInt64) : oz (Core.dneg a) = -oz a := by unfold oz; rw [Core.val64_dneg, zval_negate]
theorem fin_neg {a : UInt64} (h : DFin a) : DFin (Core.dneg a) := by
  obtain ⟨s, c, q, e⟩ := h; exact ⟨!s, c, q, by rw [Core.val64_dneg, e]; rfl⟩
theorem nn_neg {a : UInt64} (h : val64 a ≠ .nan) : val64 (Core.dneg a) ≠ .nan := by rw [Core.val64_dneg]; exact negate_ne_nan h
theorem own_qmin : b64.qmin = -1074 := by decide
theorem one_pos : (0 : Int) < (one64 : Int) := Int.natCast_pos.mpr one64_pos
theorem zval_nonneg_mag {d : Datum} (h : 0 ≤ zval b64 d) : zval b64 d = (zmag b64 d : Int) := by
  unfold zval signed at *
  split at h <;> simp_all <;> omega
theorem zval_neg_mag {d : Datum} (h : zval b64 d < 0) : zval b64 d = -(zmag b64 d : Int) := by
  unfold zval signed at *
  split at h <;> simp_all <;> omega
theorem own_div_le {a b V : UInt64} (ha : DFin a) (hb : DFin b) (hpos : 0 < oz b) (hV : val64 V ≠ .nan) (h : oz a * (one64 : Int) ≤ oz V * oz b) : oz (FP.ddiv a b) ≤ oz V := by
  have fa := val64_fits a
  have fb := val64_fits b
  have fV := val64_fits V
  obtain ⟨s, c, q, ea⟩ := ha
  obtain ⟨t, d, r, eb⟩ := hb
  unfold oz at *
  rw [ea] at fa h
  rw [eb] at fb h hpos
  have hq1 := fa.2.1
  have hr1 := fb.2.1
  rw [own_qmin] at hq1 hr1
  obtain ⟨hb1, hb2⟩ := signed_pos (show 0 < signed t (inUnits d r b64.qmin) from hpos)
  have ht : t = false := by
    cases t with
    | false => rfl
    | true => exfalso; unfold signed at hb1; simp at hb1; omega
  subst ht
  have hd : 0 < d := by
    rcases Nat.eq_zero_or_pos d with h0 | h0
    · subst h0; unfold inUnits at hb2; simp at hb2
    · exact h0
  have ev : val64 (FP.ddiv a b) = roundRatio b64 s c d (q - r) := by
    rw [show val64 (FP.ddiv a b) = _ from val64_ddiv a b, ea, eb]
    rw [show quotient b64 (.fin s c q) (.fin false d r) = (if d = 0 then (if c = 0 then .nan else .inf (s != false)) else roundRatio b64 (s != false) c d (q - r)) from rfl, if_neg (by omega)]
    cases s <;> rfl
  rw [ev]
  have eu : inUnits c (q - r) (2 * -1074 - r) = zmag b64 (.fin s c q) * one64 := by
    show c * 2 ^ _ = (c * 2 ^ _) * 2 ^ 1074
    rw [Nat.mul_assoc, ← Nat.pow_add, own_qmin]
    congr 2; omega
  have ed : (2 : Nat) ^ (b64.qmin - (2 * -1074 - r)).toNat * d = zmag b64 (.fin false d r) := by
    show _ = d * 2 ^ _
    rw [Nat.mul_comm, own_qmin]; congr 2; omega
  have hzb : zval b64 (.fin false d r) = (zmag b64 (.fin false d r) : Int) := rfl
  rw [hzb] at h
  cases s with
  | false =>
    have hza : zval b64 (.fin false c q) = (zmag b64 (.fin false c q) : Int) := rfl
    rw [hza] at h
    have hzbp : (0 : Int) < (zmag b64 (.fin false d r) : Int) := by rw [← hzb]; exact hpos
    have hVn : 0 ≤ zval b64 (val64 V) := by
      rcases Int.lt_or_le (zval b64 (val64 V)) 0 with hn | hn
      · exfalso
        have h1 : zval b64 (val64 V) * (zmag b64 (.fin false d r) : Int) < 0 := Int.mul_neg_of_neg_of_pos hn hzbp
        have h2 : (0 : Int) ≤ (zmag b64 (.fin false c q) : Int) * (one64 : Int) := Int.mul_nonneg (Int.natCast_nonneg _) (Int.natCast_nonneg _)
        omega
      · exact hn
    rw [zval_nonneg_mag hVn] at h ⊢
    have hle := zmag_roundRatio_le good_b64 (s := false) (A := c) (B := d) (e := q - r) (e0 := 2 * -1074 - r) (V := val64 V) hd fV hV (by rw [own_qmin]; omega) (by omega) (by
      rw [eu, Nat.mul_assoc, ed]; exact Int.ofNat_le.mp (by simpa using h))
    unfold zval
    rw [sgn_roundRatio]
    exact Int.ofNat_le.mpr hle
  | true =>
    have hza : zval b64 (.fin true c q) = -(zmag b64 (.fin true c q) : Int) := rfl
    rw [hza] at h
    have hsg : zval b64 (roundRatio b64 true c d (q - r)) = -(zmag b64 (roundRatio b64 true c d (q - r)) : Int) := by
      unfold zval; rw [sgn_roundRatio]; rfl
    rw [hsg]
    rcases Int.lt_or_le (zval b64 (val64 V)) 0 with hn | hn
    · rw [zval_neg_mag hn] at h ⊢
      have hge := zmag_roundRatio_ge good_b64 (s := true) (A := c) (B := d) (e := q - r) (e0 := 2 * -1074 - r) (V := val64 V) hd fV (by rw [own_qmin]; omega) (by omega) (by
        rw [eu, Nat.mul_assoc, ed]
        rw [Int.neg_mul, Int.neg_mul] at h
        exact Int.ofNat_le.mp (by simpa using Int.le_of_neg_le_neg h))
      omega
    · omega
theorem own_div_ge {a b V : UInt64} (ha : DFin a) (hb : DFin b) (hpos : 0 < oz b) (hV : val64 V ≠ .nan) (h : oz V * oz b ≤ oz a * (one64 : Int)) : oz V ≤ oz (FP.ddiv a b) := by
  have h1 := own_div_le (a := Core.dneg a) (b := b) (V := Core.dneg V) (fin_neg ha) hb hpos (nn_neg hV) (by rw [oz_neg, oz_neg, Int.neg_mul, Int.neg_mul]; omega)
  rw [show FP.ddiv (Core.dneg a) b = Core.dneg (FP.ddiv a b) from ddiv_dneg a b, oz_neg, oz_neg] at h1
  omega
theorem own_mul_z {a b : UInt64} (ha : DFin a) (hb : DFin b) : ∃ s c q, val64 (FP.dmul a b) = round b64 (.fin s c q) ∧ 2 * b64.qmin ≤ q ∧ signed s (inUnits c q (2 * b64.qmin)) = oz a * oz b := by
  have fa := val64_fits a
  have fb := val64_fits b
  obtain ⟨s, c, q, ea⟩ := ha
  obtain ⟨t, d, r, eb⟩ := hb
  rw [ea] at fa; rw [eb] at fb
  obtain ⟨h1, h2, h3⟩ := product_units fa fb
  refine ⟨s != t, c * d, q + r, ?_, h2, ?_⟩
  · rw [show val64 (FP.dmul a b) = _ from val64_dmul a b, ea, eb, h1]
  · rw [h3, signed_xor]; unfold oz; rw [ea, eb]; rfl
theorem own_pow : ((2 ^ (b64.qmin - 2 * b64.qmin).toNat : Nat) : Int) = (one64 : Int) := by rw [own_qmin]; rfl
theorem own_mul_le {a b V : UInt64} (ha : DFin a) (hb : DFin b) (hV : val64 V ≠ .nan) (h : oz a * oz b ≤ oz V * (one64 : Int)) : oz (FP.dmul a b) ≤ oz V := by
  obtain ⟨s, c, q, e, h2, h3⟩ := own_mul_z ha hb
  unfold oz; rw [e]
  exact zval_round_le good_b64 (val64_fits V) hV (e0 := 2 * b64.qmin) (by rw [own_qmin]; omega) h2 (by rw [h3, own_pow]; exact h)
theorem own_mul_ge {a b V : UInt64} (ha : DFin a) (hb : DFin b) (hV : val64 V ≠ .nan) (h : oz V * (one64 : Int) ≤ oz a * oz b) : oz V ≤ oz (FP.dmul a b) := by
  obtain ⟨s, c, q, e, h2, h3⟩ := own_mul_z ha hb
  unfold oz; rw [e]
  exact zval_round_ge good_b64 (val64_fits V) hV (e0 := 2 * b64.qmin) (by rw [own_qmin]; omega) h2 (by rw [h3, own_pow]; exact h)
theorem own_add_le {a b V : UInt64} (ha : DFin a) (hb : DFin b) (hV : val64 V ≠ .nan) (h : oz a + oz b ≤ oz V) : oz (FP.dadd a b) ≤ oz V := by
  unfold oz; rw [show val64 (FP.dadd a b) = _ from val64_dadd a b]
  exact sum_le good_b64 ha hb (val64_fits a) (val64_fits b) (val64_fits V) hV h
theorem own_add_ge {a b V : UInt64} (ha : DFin a) (hb : DFin b) (hV : val64 V ≠ .nan) (h : oz V ≤ oz a + oz b) : oz V ≤ oz (FP.dadd a b) := by
  unfold oz; rw [show val64 (FP.dadd a b) = _ from val64_dadd a b]
  exact sum_ge good_b64 ha hb (val64_fits a) (val64_fits b) (val64_fits V) hV h
theorem own_rep (m : Int) (j : Nat) (hm : m.natAbs < 2 ^ 53) (hj : j ≤ 2045) : ∃ V, DFin V ∧ oz V = m * ((2 ^ j : Nat) : Int) := by
  obtain ⟨c', q', e1, e2⟩ := round_exact good_b64 (decide (m < 0)) (c := m.natAbs) (q := (j : Int) - 1074) hm (by rw [own_qmin]; omega) (by show (j : Int) - 1074 ≤ b64.qmax; rw [show b64.qmax = 971 by decide]; omega)
  have hf := round_fits good_b64 (.fin (decide (m < 0)) m.natAbs ((j : Int) - 1074))
  refine ⟨of64 (round b64 (.fin (decide (m < 0)) m.natAbs ((j : Int) - 1074))), ⟨_, c', q', by rw [val64_of64 hf, e1]⟩, ?_⟩
  unfold oz
  rw [val64_of64 hf, e1]
  show signed (decide (m < 0)) (inUnits c' q' b64.qmin) = _
  rw [e2, own_qmin]
  unfold inUnits
  rw [signed_mul, show ((j : Int) - 1074 - -1074).toNat = j by omega]
  congr 1
  unfold signed
  by_cases h : m < 0 <;> simp [h] <;> omega
theorem own_fin {a V W : UInt64} (hn : val64 a ≠ .nan) (hV : DFin V) (hW : DFin W) (h1 : oz V ≤ oz a) (h2 : oz a ≤ oz W) : DFin a := by
  have v := hV.zval_lt
  have w := hW.zval_lt
  cases e : val64 a with
  | nan => exact absurd e hn
  | fin s c q => exact ⟨s, c, q, e⟩
  | inf s =>
    exfalso
    unfold oz at h1 h2
    rw [e] at h1 h2
    have v1 : -(zmag b64 (val64 V) : Int) ≤ zval b64 (val64 V) := by unfold zval signed; split <;> omega
    have w1 : zval b64 (val64 W) ≤ (zmag b64 (val64 W) : Int) := by unfold zval signed; split <;> omega
    cases s with
    | false => have : zval b64 (.inf false) = ((b64.tails * 2 ^ (b64.exps - 2) : Nat) : Int) := rfl
               rw [this] at h2; omega
    | true => have : zval b64 (.inf true) = -((b64.tails * 2 ^ (b64.exps - 2) : Nat) : Int) := rfl
              rw [this] at h1; omega
theorem oz_l2d {x : Int64} (h : x.toInt.natAbs ≤ 2 ^ 53) : oz (FP.l2d x) = x.toInt * (one64 : Int) := DInt_zval (l2d_int h)
theorem oz_i2d (x : Int32) : oz (FP.i2d x) = x.toInt * (one64 : Int) := DInt_zval (i2d_int x)
theorem nan_div {a b : UInt64} (ha : DFin a) (hb : DFin b) (hz : oz b ≠ 0) : val64 (FP.ddiv a b) ≠ .nan := by
  have := ddiv_out ha.notNaN hb (dnot_zero hb.ne_nan hz)
  exact (notNaN_iff _).mp this
theorem nan_mul {a b : UInt64} (ha : DFin a) (hb : DFin b) : val64 (FP.dmul a b) ≠ .nan := (notNaN_iff _).mp (dmul_out ha hb)
theorem nan_add {a b : UInt64} (ha : DFin a) (hb : DFin b) : val64 (FP.dadd a b) ≠ .nan := (notNaN_iff _).mp (dadd_out ha.notNaN hb)
theorem div_exact {a b V : UInt64} (ha : DFin a) (hb : DFin b) (hpos : 0 < oz b) (hV : DFin V) (h : oz V * oz b = oz a * (one64 : Int)) : DFin (FP.ddiv a b) ∧ oz (FP.ddiv a b) = oz V := by
  have h1 := own_div_le ha hb hpos hV.ne_nan (by omega)
  have h2 := own_div_ge ha hb hpos hV.ne_nan (by omega)
  exact ⟨own_fin (nan_div ha hb (by omega)) hV hV h2 h1, by omega⟩
theorem mul_exact {a b V : UInt64} (ha : DFin a) (hb : DFin b) (hV : DFin V) (h : oz V * (one64 : Int) = oz a * oz b) : DFin (FP.dmul a b) ∧ oz (FP.dmul a b) = oz V := by
  have h1 := own_mul_le ha hb hV.ne_nan (by omega)
  have h2 := own_mul_ge ha hb hV.ne_nan (by omega)
  exact ⟨own_fin (nan_mul ha hb) hV hV h2 h1, by omega⟩
theorem add_exact {a b V : UInt64} (ha : DFin a) (hb : DFin b) (hV : DFin V) (h : oz V = oz a + oz b) : DFin (FP.dadd a b) ∧ oz (FP.dadd a b) = oz V := by
  have h1 := own_add_le ha hb hV.ne_nan (by omega)
  have h2 := own_add_ge ha hb hV.ne_nan (by omega)
  exact ⟨own_fin (nan_add ha hb) hV hV h2 h1, by omega⟩
theorem cmp_lt {a b : UInt64} (ha : DFin a) (hb : DFin b) (h : oz a < oz b) (o : ClassFile.CmpOp) : Op.cmpValue (FP.dcmp a b) o = -1 := by
  rw [own_cmp ha hb, (compare_lt_iff _ _).mpr h]; rfl
theorem cmp_eq {a b : UInt64} (ha : DFin a) (hb : DFin b) (h : oz a = oz b) (o : ClassFile.CmpOp) : Op.cmpValue (FP.dcmp a b) o = 0 := by
  rw [own_cmp ha hb, (compare_eq_iff _ _).mpr h]; rfl
theorem cmp_gt {a b : UInt64} (ha : DFin a) (hb : DFin b) (h : oz b < oz a) (o : ClassFile.CmpOp) : Op.cmpValue (FP.dcmp a b) o = 1 := by
  rw [own_cmp ha hb, (compare_gt_iff _ _).mpr h]; rfl
theorem fin64 {a : UInt64} (h : DFin a) : Jvm.Free.Fl.Fin64 a := Jvm.Free.Fl.fin64_core.mpr h
theorem nonan {a : UInt64} (h : val64 a ≠ .nan) : Jvm.Free.Fl.NoNaN64 a := Jvm.Free.Fl.val64_no.mpr h
end OwnFP
end Jvm.Pilot.@@N@@
namespace Jvm.Pilot.@@N@@
open Jvm Jvm.ClassFile Sem Op Lib Jvm.Free Jvm.Stand Jvm.LawKit Jvm.RoadKit Bundle Jvm.Pilot.@@N@@.Jvm.D
open Jvm.FP Jvm.FP.Core in
theorem own_four : DFin 4616189618054758400 ∧ oz 4616189618054758400 = 4 * (one64 : Int) := by
  refine ⟨⟨false, 2 ^ 52, -50, by decide +kernel⟩, ?_⟩
  unfold oz; decide +kernel
theorem own_A (x : Int32) : -4096 ≤ (((x &&& (8191 : Int32)) - (4096 : Int32)).toInt64).toInt ∧ (((x &&& (8191 : Int32)) - (4096 : Int32)).toInt64).toInt ≤ 4095 := by
  have h1 := Jvm.Kit.i32_mask x 8191 (k := 13) (by decide) (by decide)
  have h2 : 0 ≤ x.toInt % 2 ^ 13 := Int.emod_nonneg _ (by decide)
  have h3 : x.toInt % 2 ^ 13 < 2 ^ 13 := Int.emod_lt_of_pos _ (by decide)
  have e : ((4096 : Int32)).toInt = 4096 := by decide
  have h4 : ((x &&& 8191) - (4096 : Int32)).toInt = (x &&& 8191).toInt - 4096 := by
    have := Jvm.Kit.i32_sub (p := x &&& 8191) (q := 4096) (by rw [h1, e]; omega) (by rw [h1, e]; omega)
    rw [this, e]
  rw [Jvm.Kit.i64_of_i32, h4, h1]; omega
theorem own_Bb (x : Int32) : 1 ≤ (((1 : Int32) + (x &&& (8191 : Int32))).toInt64).toInt ∧ (((1 : Int32) + (x &&& (8191 : Int32))).toInt64).toInt ≤ 8192 := by
  have h1 := Jvm.Kit.i32_mask x 8191 (k := 13) (by decide) (by decide)
  have h2 : 0 ≤ x.toInt % 2 ^ 13 := Int.emod_nonneg _ (by decide)
  have h3 : x.toInt % 2 ^ 13 < 2 ^ 13 := Int.emod_lt_of_pos _ (by decide)
  have e : ((1 : Int32)).toInt = 1 := by decide
  have h4 : ((1 : Int32) + (x &&& 8191)).toInt = 1 + (x &&& 8191).toInt := by
    have := Jvm.Kit.i32_add (p := 1) (q := x &&& 8191) (by rw [h1, e]; omega) (by rw [h1, e]; omega)
    rw [this, e]
  rw [Jvm.Kit.i64_of_i32, h4, h1]; omega
open Jvm.FP Jvm.FP.Core in
theorem own_nz (z : Int32) : Jvm.Free.Fl.NoNaN64 (FP.ddiv (FP.l2d (((z &&& (8191 : Int32)) - (4096 : Int32)).toInt64)) (4616189618054758400 : UInt64)) :=
  nonan (nan_div (l2d_fin _) own_four.1 (by rw [own_four.2]; have := one_pos; omega))
open Jvm.FP Jvm.FP.Core in
theorem own_nn (x y : Int32) : Jvm.Free.Fl.NoNaN64 (FP.ddiv (FP.l2d (((x &&& (8191 : Int32)) - (4096 : Int32)).toInt64)) (FP.l2d (((1 : Int32) + (y &&& (8191 : Int32))).toInt64))) := by
  have hb := own_Bb y
  refine nonan (nan_div (l2d_fin _) (l2d_fin _) ?_)
  rw [oz_l2d (by omega)]
  have := one_pos
  intro h
  rcases Int.mul_eq_zero.mp h with h | h <;> omega
open Jvm.FP Jvm.FP.Core in
theorem own_pow1072 : (one64 : Int) = 4 * ((2 ^ 1072 : Nat) : Int) := by unfold one64; rw [show (2 : Nat) ^ 1074 = 4 * 2 ^ 1072 by rw [show 1074 = 2 + 1072 by rfl, Nat.pow_add], Int.natCast_mul]; rfl
open Jvm.FP Jvm.FP.Core in
theorem own_pow1059 : ((2 ^ 1072 : Nat) : Int) = 8192 * ((2 ^ 1059 : Nat) : Int) := by rw [show (2 : Nat) ^ 1072 = 8192 * 2 ^ 1059 by rw [show 1072 = 13 + 1059 by rfl, Nat.pow_add], Int.natCast_mul]; rfl
/-- the plain law: a / b against c / 4, as doubles -/
theorem own_plain {a b c : Int64} (a1 : -4096 ≤ a.toInt) (a2 : a.toInt ≤ 4095) (b1 : 1 ≤ b.toInt) (b2 : b.toInt ≤ 8192) (c1 : -4096 ≤ c.toInt) (c2 : c.toInt ≤ 4095) :
    (c.toInt * b.toInt ≤ 4 * a.toInt ∧ ¬ cmpValue (FP.dcmp (FP.ddiv (FP.l2d a) (FP.l2d b)) (FP.ddiv (FP.l2d c) (4616189618054758400 : UInt64))) .l < 0) ∨
    (4 * a.toInt < c.toInt * b.toInt ∧ cmpValue (FP.dcmp (FP.ddiv (FP.l2d a) (FP.l2d b)) (FP.ddiv (FP.l2d c) (4616189618054758400 : UInt64))) .l < 0) := by
  have hone := one_pos
  have za := oz_l2d (x := a) (by omega)
  have zb := oz_l2d (x := b) (by omega)
  have zc := oz_l2d (x := c) (by omega)
  have fa : Jvm.FP.Core.DFin (FP.l2d a) := Jvm.FP.Core.l2d_fin a
  have fb : Jvm.FP.Core.DFin (FP.l2d b) := Jvm.FP.Core.l2d_fin b
  have fc : Jvm.FP.Core.DFin (FP.l2d c) := Jvm.FP.Core.l2d_fin c
  have hbp : 0 < oz (FP.l2d b) := by rw [zb]; exact Int.mul_pos (by omega) hone
  obtain ⟨V, fV, zV⟩ := own_rep c.toInt 1072 (by omega) (by omega)
  have hR := div_exact fc own_four.1 (by rw [own_four.2]; omega) fV (by
    rw [zV, own_four.2, zc]
    conv => rhs; rw [Int.mul_assoc]; arg 2; arg 1; rw [own_pow1072]
    simp only [Int.mul_assoc, Int.mul_left_comm, Int.mul_comm])
  obtain ⟨fR, zR⟩ := hR
  rw [zV] at zR
  -- the quotient lies between -4096 and 4096
  obtain ⟨U, fU, zU⟩ := own_rep 4096 1074 (by decide) (by omega)
  obtain ⟨U', fU', zU'⟩ := own_rep (-4096) 1074 (by decide) (by omega)
  have zU1 : oz U = 4096 * (Jvm.FP.Core.one64 : Int) := zU
  have zU2 : oz U' = -4096 * (Jvm.FP.Core.one64 : Int) := zU'
  have hnn := nan_div fa fb (by omega)
  have hx1 : oz (FP.ddiv (FP.l2d a) (FP.l2d b)) ≤ oz U := own_div_le fa fb hbp fU.ne_nan (by
    rw [za, zb, zU1, show 4096 * (Jvm.FP.Core.one64 : Int) * (b.toInt * (Jvm.FP.Core.one64 : Int)) = (4096 * b.toInt) * (Jvm.FP.Core.one64 : Int) * (Jvm.FP.Core.one64 : Int) by simp only [Int.mul_assoc, Int.mul_left_comm]]
    exact Int.mul_le_mul_of_nonneg_right (Int.mul_le_mul_of_nonneg_right (by omega) (by omega)) (by omega))
  have hx2 : oz U' ≤ oz (FP.ddiv (FP.l2d a) (FP.l2d b)) := own_div_ge fa fb hbp fU'.ne_nan (by
    rw [za, zb, zU2, show -4096 * (Jvm.FP.Core.one64 : Int) * (b.toInt * (Jvm.FP.Core.one64 : Int)) = (-4096 * b.toInt) * (Jvm.FP.Core.one64 : Int) * (Jvm.FP.Core.one64 : Int) by simp only [Int.mul_assoc, Int.mul_left_comm]]
    exact Int.mul_le_mul_of_nonneg_right (Int.mul_le_mul_of_nonneg_right (by omega) (by omega)) (by omega))
  have fX := own_fin hnn fU' fU hx2 hx1
  rcases Int.lt_or_le (4 * a.toInt) (c.toInt * b.toInt) with h | h
  · right
    refine ⟨h, ?_⟩
    obtain ⟨W, fW, zW⟩ := own_rep (c.toInt * 8192 - 1) 1059 (by omega) (by omega)
    have hle : oz (FP.ddiv (FP.l2d a) (FP.l2d b)) ≤ oz W := own_div_le fa fb hbp fW.ne_nan (by
      rw [za, zb, zW]
      have e1 : a.toInt * (Jvm.FP.Core.one64 : Int) * (Jvm.FP.Core.one64 : Int) = (4 * a.toInt * 8192) * ((2 ^ 1059 : Nat) : Int) * (Jvm.FP.Core.one64 : Int) := by
        rw [own_pow1072, own_pow1059]; simp only [Int.mul_assoc, Int.mul_left_comm, Int.mul_comm]
      have e2 : (c.toInt * 8192 - 1) * ((2 ^ 1059 : Nat) : Int) * (b.toInt * (Jvm.FP.Core.one64 : Int)) = ((c.toInt * 8192 - 1) * b.toInt) * ((2 ^ 1059 : Nat) : Int) * (Jvm.FP.Core.one64 : Int) := by
        simp only [Int.mul_assoc, Int.mul_left_comm, Int.mul_comm]
      rw [e1, e2]
      refine Int.mul_le_mul_of_nonneg_right (Int.mul_le_mul_of_nonneg_right ?_ (Int.natCast_nonneg _)) (by omega)
      have e3 : (c.toInt * 8192 - 1) * b.toInt = 8192 * (c.toInt * b.toInt) - b.toInt := by rw [Int.sub_mul, Int.one_mul]; congr 1; rw [Int.mul_comm c.toInt, Int.mul_assoc]
      rw [e3]; omega)
    have hlt : oz W < oz (FP.ddiv (FP.l2d c) (4616189618054758400 : UInt64)) := by
      rw [zR, zW, own_pow1059, Int.sub_mul, Int.one_mul, ← Int.mul_assoc]
      have : (0 : Int) < ((2 ^ 1059 : Nat) : Int) := Int.natCast_pos.mpr (Nat.two_pow_pos _)
      generalize ((2 ^ 1059 : Nat) : Int) = P at *
      generalize c.toInt * 8192 * P = Q at *
      omega
    rw [cmp_lt fX fR (Int.lt_of_le_of_lt hle hlt)]; decide
  · left
    refine ⟨h, ?_⟩
    have hge : oz (FP.ddiv (FP.l2d c) (4616189618054758400 : UInt64)) ≤ oz (FP.ddiv (FP.l2d a) (FP.l2d b)) := own_div_ge fa fb hbp fR.ne_nan (by
      rw [zR, za, zb]
      have e1 : a.toInt * (Jvm.FP.Core.one64 : Int) * (Jvm.FP.Core.one64 : Int) = (4 * a.toInt) * ((2 ^ 1072 : Nat) : Int) * (Jvm.FP.Core.one64 : Int) := by
        conv => lhs; rw [Int.mul_assoc]; arg 2; arg 1; rw [own_pow1072]
        simp only [Int.mul_assoc, Int.mul_left_comm, Int.mul_comm]
      have e2 : c.toInt * ((2 ^ 1072 : Nat) : Int) * (b.toInt * (Jvm.FP.Core.one64 : Int)) = (c.toInt * b.toInt) * ((2 ^ 1072 : Nat) : Int) * (Jvm.FP.Core.one64 : Int) := by
        simp only [Int.mul_assoc, Int.mul_left_comm, Int.mul_comm]
      rw [e1, e2]
      exact Int.mul_le_mul_of_nonneg_right (Int.mul_le_mul_of_nonneg_right h (Int.natCast_nonneg _)) (by omega))
    rcases Int.lt_or_eq_of_le hge with h2 | h2
    · rw [cmp_gt fX fR h2]; decide
    · rw [cmp_eq fX fR h2.symm]; decide
theorem own_lc {x y : Int64} : (lcmpW x y < 0) ↔ x.toInt < y.toInt := by rw [lcW, lc_lt, Int64.lt_iff_toInt_lt]

def QR (h0 : Heap) (n0 : Nat) (v : Option Value) (h : Heap) (L : List Loc) : Prop := (v = none ∧ Fr n0 L ∧ h = h0)
theorem d_jdk_30_method_1_code_0 : decode jdk_30_method_1_code 0 = .ok (.aload_n 0, 1) := by decide +kernel
theorem d_jdk_30_method_1_code_1 : decode jdk_30_method_1_code 1 = .ok (.invokespecial 1, 3) := by decide +kernel
theorem d_jdk_30_method_1_code_4 : decode jdk_30_method_1_code 4 = .ok (.return_, 1) := by decide +kernel
theorem pn_java_lang_Record : plainName "java/lang/Record" = true := by first | (simp [plainName, overriddenIn]; done) | decide +kernel
theorem ef_jdk_30_method_1_code (m : MethodId) (x0 : Addr) : entryFrame m #[(.ref x0)] 1 = mkF m 0 #[.val (.ref x0)] [] := by first | (simp [entryFrame, mkF, argsToLocals, Value.category]; done) | rfl
set_option maxRecDepth 65536 in
set_option maxHeartbeats 40000000 in
theorem rmR (l : Launch) (Z : State) (a0 : Array Value) (hw : ∀ d ∈ tables_1, d.before a0 Z = true) (ws : List Jvm.Cond) (a1 : Addr) (h0 : Heap) (n0 : Nat) (Z0 : n0 ≤ h0.size)   :
    MetFree l (⟨"java/lang/Record", "<init>", "()V"⟩ : MethodName) (head1 (Jvm.Cond.code (⟨"java/lang/Record", "<init>", "()V"⟩ : MethodName) jdk_30_method_1_code 1 none :: ws) ({ frames := 1, cells := 0, slots := 0, locals := 12 } : Room)) (fun a U => a = #[(.ref a1)] ∧ Z.Warmed39 U.vm ∧ U.heap = h0) (fun _ _ _ _ _ => True) (fun _ U o U' => ∃ v L, o = .returned v ∧ QR h0 n0 v U'.heap L ∧ FrameEnd U o U' L ({ frames := 1, cells := 0, slots := 0, locals := 12 } : Room).cells ({ frames := 1, cells := 0, slots := 0, locals := 12 } : Room).slots) := by
  refine MetFree.of_bodySF (plainFor_of_name pn_java_lang_Record) hisR ?_
  intro p e s m args below meth c s₁ Bd hml0 hP hK
  obtain ⟨rfl, hZ, hh⟩ := hP
  have hx := Bd.exec
  have hby := Bd.bytes
  have hml : c.maxLocals = 1 := hml0
  have hown : s.vm.findClass "java/lang/Record" = some m.cls := findClass_of_methodNamed Bd.named
  have hnm := (name_of_methodNamed Bd.named Bd.method).1
  have X0 : Stand p l e ({ frames := 1, cells := 0, slots := 0, locals := 12 } : Room) s m #[(.ref a1)] below meth c s₁ [] 0 0 := Stand.of_body Bd
  have e0 : s₁.heap = h0 := by rw [← hh, Bd.state]; rfl
  have N0 := Fr.nil n0
  have pre0 : ∀ t, Steps p.tables e below (s₁.setTop (mkF m 0 #[.val (.ref a1)] [])) t → Steps p.tables e below (s₁.setTop (entryFrame m #[(.ref a1)] 1)) t := fun t k => castTop (ef_jdk_30_method_1_code m a1) k
  obtain ⟨T1, X1, e1, st1⟩ := initO X0 hx hZ hown (hw _ (List.mem_of_getElem? (i := 12) rfl)) (hw _ (List.mem_of_getElem? (i := 13) rfl)) (hw _ (List.mem_of_getElem? (i := 14) rfl)) e0 (g := (mkF m 1 #[.val (.ref a1)] [(.ref a1)])) rfl (by rw [hml]; rfl) rfl (hb hby d_jdk_30_method_1_code_1) (by decide) (W := 0) (by show 2 * 0 + _ ≤ _; exact Nat.le_of_eq rfl) (by decide)
  obtain ⟨fs, hr, hrun, hended, hW, hsame⟩ := X1.leave (v := none) (fun _ => rfl)
  refine ⟨_, _, pre0 _ ?_, hrun, hended, _, _, rfl, ?_, ⟨_, rfl⟩, hW, hsame.mono (by decide) (by decide)⟩
  · show Steps p.tables e below (s₁.setTop (mkF m 0 #[.val (.ref a1)] [])) _
    refine XS.aloadN X0.here hx rfl (hb hby d_jdk_30_method_1_code_0) rfl rfl ?_
    show Steps p.tables e below (s₁.setTop (mkF m 1 #[.val (.ref a1)] [(.ref a1)])) _
    refine st1 _ ?_
    show Steps p.tables e below (T1.setTop (mkF m 4 #[.val (.ref a1)] [])) _
    exact X1.returnOut hx Bd.returns (hb hby d_jdk_30_method_1_code_4) hr
  · show QR h0 n0 _ T1.heap _
    rw [e1]
    exact ⟨rfl, N0, rfl⟩
def QT (Z : State) (a1 : Addr) (p0 : Int32) (p1 : UInt64) (h0 : Heap) (n0 : Nat) (v : Option Value) (h : Heap) (L : List Loc) : Prop := v = none ∧ Fr n0 L ∧ Keep h0 h [a1] ∧ Exa Z h a1 "com/example/latchkey/latchkey/bench/RmiComparison$Target" ∧ Fld Z h a1 "com/example/latchkey/latchkey/bench/RmiComparison$Target" "threads" "I" (.int p0) ∧ Fld Z h a1 "com/example/latchkey/latchkey/bench/RmiComparison$Target" "ratio" "D" (.double p1)
theorem d_prog_26_method_1_code_0 : decode prog_26_method_1_code 0 = .ok (.aload_n 0, 1) := by decide +kernel
theorem d_prog_26_method_1_code_1 : decode prog_26_method_1_code 1 = .ok (.invokespecial 1, 3) := by decide +kernel
theorem d_prog_26_method_1_code_4 : decode prog_26_method_1_code 4 = .ok (.aload_n 0, 1) := by decide +kernel
theorem d_prog_26_method_1_code_5 : decode prog_26_method_1_code 5 = .ok (.iload_n 1, 1) := by decide +kernel
theorem d_prog_26_method_1_code_6 : decode prog_26_method_1_code 6 = .ok (.putfield 7, 3) := by decide +kernel
theorem d_prog_26_method_1_code_9 : decode prog_26_method_1_code 9 = .ok (.aload_n 0, 1) := by decide +kernel
theorem d_prog_26_method_1_code_10 : decode prog_26_method_1_code 10 = .ok (.dload_n 2, 1) := by decide +kernel
theorem d_prog_26_method_1_code_11 : decode prog_26_method_1_code 11 = .ok (.putfield 13, 3) := by decide +kernel
theorem d_prog_26_method_1_code_14 : decode prog_26_method_1_code 14 = .ok (.return_, 1) := by decide +kernel
theorem pd___V : parseMethodDescriptor "()V" = some ⟨[], none⟩ := by decide +kernel
theorem pn_com_example_latchkey_latchkey_bench_RmiComparison_Target : plainName "com/example/latchkey/latchkey/bench/RmiComparison$Target" = true := by first | (simp [plainName, overriddenIn]; done) | decide +kernel
theorem ef_prog_26_method_1_code (m : MethodId) (x0 : Addr) (x1 : Int32) (x2 : UInt64) : entryFrame m #[(.ref x0), (.int x1), (.double x2)] 4 = mkF m 0 #[.val (.ref x0), .val (.int x1), .val (.double x2), .second] [] := by first | (simp [entryFrame, mkF, argsToLocals, Value.category]; done) | rfl
set_option maxRecDepth 65536 in
set_option maxHeartbeats 40000000 in
theorem rmT (l : Launch) (Z : State) (a0 : Array Value) (hw : ∀ d ∈ tables_1, d.before a0 Z = true) (ws : List Jvm.Cond) (a1 : Addr) (p0 : Int32) (p1 : UInt64) (h0 : Heap) (n0 : Nat) (Z0 : n0 ≤ h0.size) (E_a1 : Exa Z h0 a1 "com/example/latchkey/latchkey/bench/RmiComparison$Target") (F_threads : Fld Z h0 a1 "com/example/latchkey/latchkey/bench/RmiComparison$Target" "threads" "I" (.int (0 : Int32))) (F_ratio : Fld Z h0 a1 "com/example/latchkey/latchkey/bench/RmiComparison$Target" "ratio" "D" (.double (0 : UInt64))) (g_a1 : n0 ≤ a1)  :
    MetFree l (⟨"com/example/latchkey/latchkey/bench/RmiComparison$Target", "<init>", "(ID)V"⟩ : MethodName) (head1 (Jvm.Cond.code (⟨"com/example/latchkey/latchkey/bench/RmiComparison$Target", "<init>", "(ID)V"⟩ : MethodName) prog_26_method_1_code 4 none :: ws) ({ frames := 2, cells := 0, slots := 0, locals := 24 } : Room)) (fun a U => a = #[(.ref a1), (.int p0), (.double p1)] ∧ Z.Warmed39 U.vm ∧ U.heap = h0) (fun _ _ _ _ _ => True) (fun _ U o U' => ∃ v L, o = .returned v ∧ QT Z a1 p0 p1 h0 n0 v U'.heap L ∧ FrameEnd U o U' L ({ frames := 2, cells := 0, slots := 0, locals := 24 } : Room).cells ({ frames := 2, cells := 0, slots := 0, locals := 24 } : Room).slots) := by
  refine MetFree.of_bodySF (plainFor_of_name pn_com_example_latchkey_latchkey_bench_RmiComparison_Target) hisR ?_
  intro p e s m args below meth c s₁ Bd hml0 hP hK
  obtain ⟨rfl, hZ, hh⟩ := hP
  have hx := Bd.exec
  have hby := Bd.bytes
  have hml : c.maxLocals = 4 := hml0
  have hown : s.vm.findClass "com/example/latchkey/latchkey/bench/RmiComparison$Target" = some m.cls := findClass_of_methodNamed Bd.named
  have hnm := (name_of_methodNamed Bd.named Bd.method).1
  have X0 : Stand p l e ({ frames := 2, cells := 0, slots := 0, locals := 24 } : Room) s m #[(.ref a1), (.int p0), (.double p1)] below meth c s₁ [] 0 0 := Stand.of_body Bd
  have e0 : s₁.heap = h0 := by rw [← hh, Bd.state]; rfl
  have N0 := Fr.nil n0
  have pre0 : ∀ t, Steps p.tables e below (s₁.setTop (mkF m 0 #[.val (.ref a1), .val (.int p0), .val (.double p1), .second] [])) t → Steps p.tables e below (s₁.setTop (entryFrame m #[(.ref a1), (.int p0), (.double p1)] 4)) t := fun t k => castTop (ef_prog_26_method_1_code m a1 p0 p1) k
  have K0 := Keep.refl h0 [a1]
  obtain ⟨_, _, ⟨T1, L1, k1, n1⟩, -, X1, ⟨Lc1, hQ1, l1, y1, z1⟩, st1⟩ := X0.specialBack hx (y := (⟨"java/lang/Record", "<init>", "()V"⟩ : MethodName)) rfl hown (mvT hZ (hw _ (List.mem_of_getElem? (i := 7) rfl))) (mvT hZ (hw _ (List.mem_of_getElem? (i := 8) rfl))) (mvT hZ (hw _ (List.mem_of_getElem? (i := 11) rfl))) (by decide) (backOf (W := 0) (rmR l Z a0 hw [] a1 h0 n0 Z0) hZ (hw _ (List.mem_of_getElem? (i := 11) rfl)) (hw _ (List.mem_of_getElem? (i := 10) rfl)) (by decide) (by decide)) (g := (mkF m 1 #[.val (.ref a1), .val (.int p0), .val (.double p1), .second] [(.ref a1)])) rfl (by rw [hml]; rfl) (Steps.refl _) (a := a1) (argsL := []) (rest := []) (lenOf pd___V rfl) rfl (by show 2 * 0 + _ ≤ _; exact Nat.le_of_eq rfl) (hb hby d_prog_26_method_1_code_1) (fun _ _ => ⟨rfl, e0, (by decide : 0 + 0 ≤ _), (by decide : 0 + 0 ≤ _)⟩)
  dsimp only [Pt.U, Pt.locs, Pt.cells, Pt.slots] at X1 l1 y1 z1 st1 hQ1
  subst l1 y1 z1
  obtain ⟨rfl, N1q, eq1⟩ := hQ1
  have N1 := Fr.app N0 N1q
  obtain ⟨T2, h2, X2, e2, W2, st2⟩ := putF X1 hx hZ hown (host := "") (Or.inl (hw _ (List.mem_of_getElem? (i := 15) rfl))) Via.refl eq1 F_threads E_a1 (Or.inr ⟨(hw _ (List.mem_of_getElem? (i := 16) rfl)), rfl, hnm⟩) (hw _ (List.mem_of_getElem? (i := 2) rfl)) (ty := .int) (by decide) rfl rfl (g := (mkF m 6 #[.val (.ref a1), .val (.int p0), .val (.double p1), .second] [(.int p0), (.ref a1)])) rfl rfl (hb hby d_prog_26_method_1_code_6)
  have c2_0 := E_a1.wr W2
  have c2_1 := F_threads.same W2
  have c2_2 := F_ratio.other W2 (Or.inr (slot_ne (Or.inr (hw _ (List.mem_of_getElem? (i := 18) rfl))) (Or.inr (hw _ (List.mem_of_getElem? (i := 16) rfl))) (by decide) (t := .double) (t' := .int) (by decide) (by decide)))
  have SZ2 := Nat.le_trans Z0 (Keep.of_wr W2).1
  have K2 := K0.wr W2 (Or.inl (List.mem_of_getElem? (i := 0) rfl))
  have N2 := Fr.snoc X2 N1 g_a1
  obtain ⟨T3, h3, X3, e3, W3, st3⟩ := putF X2 hx hZ hown (host := "") (Or.inl (hw _ (List.mem_of_getElem? (i := 17) rfl))) Via.refl e2 c2_2 c2_0 (Or.inr ⟨(hw _ (List.mem_of_getElem? (i := 18) rfl)), rfl, hnm⟩) (hw _ (List.mem_of_getElem? (i := 2) rfl)) (ty := .double) (by decide) rfl rfl (g := (mkF m 11 #[.val (.ref a1), .val (.int p0), .val (.double p1), .second] [(.double p1), (.ref a1)])) rfl rfl (hb hby d_prog_26_method_1_code_11)
  have c3_0 := c2_0.wr W3
  have c3_1 := c2_1.other W3 (Or.inr (slot_ne (Or.inr (hw _ (List.mem_of_getElem? (i := 16) rfl))) (Or.inr (hw _ (List.mem_of_getElem? (i := 18) rfl))) (by decide) (t := .int) (t' := .double) (by decide) (by decide)))
  have c3_2 := c2_2.same W3
  have SZ3 := Nat.le_trans SZ2 (Keep.of_wr W3).1
  have K3 := K2.wr W3 (Or.inl (List.mem_of_getElem? (i := 0) rfl))
  have N3 := Fr.snoc X3 N2 g_a1
  obtain ⟨fs, hr, hrun, hended, hW, hsame⟩ := X3.leave (v := none) (fun _ => rfl)
  refine ⟨_, _, pre0 _ ?_, hrun, hended, _, _, rfl, ?_, ⟨_, rfl⟩, hW, hsame.mono (by decide) (by decide)⟩
  · show Steps p.tables e below (s₁.setTop (mkF m 0 #[.val (.ref a1), .val (.int p0), .val (.double p1), .second] [])) _
    refine XS.aloadN X0.here hx rfl (hb hby d_prog_26_method_1_code_0) rfl rfl ?_
    show Steps p.tables e below (s₁.setTop (mkF m 1 #[.val (.ref a1), .val (.int p0), .val (.double p1), .second] [(.ref a1)])) _
    refine st1.trans ?_
    show Steps p.tables e below (T1.setTop (mkF m 4 #[.val (.ref a1), .val (.int p0), .val (.double p1), .second] [])) _
    refine XS.aloadN X1.here hx rfl (hb hby d_prog_26_method_1_code_4) rfl rfl ?_
    show Steps p.tables e below (T1.setTop (mkF m 5 #[.val (.ref a1), .val (.int p0), .val (.double p1), .second] [(.ref a1)])) _
    refine XS.iloadN X1.here hx rfl (hb hby d_prog_26_method_1_code_5) rfl ?_
    show Steps p.tables e below (T1.setTop (mkF m 6 #[.val (.ref a1), .val (.int p0), .val (.double p1), .second] [(.int p0), (.ref a1)])) _
    refine st2 _ ?_
    show Steps p.tables e below (T2.setTop (mkF m 9 #[.val (.ref a1), .val (.int p0), .val (.double p1), .second] [])) _
    refine XS.aloadN X2.here hx rfl (hb hby d_prog_26_method_1_code_9) rfl rfl ?_
    show Steps p.tables e below (T2.setTop (mkF m 10 #[.val (.ref a1), .val (.int p0), .val (.double p1), .second] [(.ref a1)])) _
    refine XS.dloadN X2.here hx rfl (hb hby d_prog_26_method_1_code_10) rfl ?_
    show Steps p.tables e below (T2.setTop (mkF m 11 #[.val (.ref a1), .val (.int p0), .val (.double p1), .second] [(.double p1), (.ref a1)])) _
    refine st3 _ ?_
    show Steps p.tables e below (T3.setTop (mkF m 14 #[.val (.ref a1), .val (.int p0), .val (.double p1), .second] [])) _
    exact X3.returnOut hx Bd.returns (hb hby d_prog_26_method_1_code_14) hr
  · show QT Z a1 p0 p1 h0 n0 _ T3.heap _
    rw [e3]
    exact ⟨rfl, N3, K3, c3_0, c3_1, c3_2⟩
def QS (Z : State) (a1 : Addr) (p0 : Int32) (p1 : UInt64) (p2 : UInt64) (h0 : Heap) (n0 : Nat) (v : Option Value) (h : Heap) (L : List Loc) : Prop := v = none ∧ Fr n0 L ∧ Keep h0 h [a1] ∧ Exa Z h a1 "com/example/latchkey/latchkey/bench/RmiComparison$Result" ∧ Fld Z h a1 "com/example/latchkey/latchkey/bench/RmiComparison$Result" "threads" "I" (.int p0) ∧ Fld Z h a1 "com/example/latchkey/latchkey/bench/RmiComparison$Result" "latchkey" "D" (.double p1) ∧ Fld Z h a1 "com/example/latchkey/latchkey/bench/RmiComparison$Result" "rmi" "D" (.double p2)
theorem d_prog_24_method_1_code_0 : decode prog_24_method_1_code 0 = .ok (.aload_n 0, 1) := by decide +kernel
theorem d_prog_24_method_1_code_1 : decode prog_24_method_1_code 1 = .ok (.invokespecial 1, 3) := by decide +kernel
theorem d_prog_24_method_1_code_4 : decode prog_24_method_1_code 4 = .ok (.aload_n 0, 1) := by decide +kernel
theorem d_prog_24_method_1_code_5 : decode prog_24_method_1_code 5 = .ok (.iload_n 1, 1) := by decide +kernel
theorem d_prog_24_method_1_code_6 : decode prog_24_method_1_code 6 = .ok (.putfield 7, 3) := by decide +kernel
theorem d_prog_24_method_1_code_9 : decode prog_24_method_1_code 9 = .ok (.aload_n 0, 1) := by decide +kernel
theorem d_prog_24_method_1_code_10 : decode prog_24_method_1_code 10 = .ok (.dload_n 2, 1) := by decide +kernel
theorem d_prog_24_method_1_code_11 : decode prog_24_method_1_code 11 = .ok (.putfield 13, 3) := by decide +kernel
theorem d_prog_24_method_1_code_14 : decode prog_24_method_1_code 14 = .ok (.aload_n 0, 1) := by decide +kernel
theorem d_prog_24_method_1_code_15 : decode prog_24_method_1_code 15 = .ok (.dload 4, 2) := by decide +kernel
theorem d_prog_24_method_1_code_17 : decode prog_24_method_1_code 17 = .ok (.putfield 17, 3) := by decide +kernel
theorem d_prog_24_method_1_code_20 : decode prog_24_method_1_code 20 = .ok (.return_, 1) := by decide +kernel
theorem pn_com_example_latchkey_latchkey_bench_RmiComparison_Result : plainName "com/example/latchkey/latchkey/bench/RmiComparison$Result" = true := by first | (simp [plainName, overriddenIn]; done) | decide +kernel
theorem ef_prog_24_method_1_code (m : MethodId) (x0 : Addr) (x1 : Int32) (x2 : UInt64) (x3 : UInt64) : entryFrame m #[(.ref x0), (.int x1), (.double x2), (.double x3)] 6 = mkF m 0 #[.val (.ref x0), .val (.int x1), .val (.double x2), .second, .val (.double x3), .second] [] := by first | (simp [entryFrame, mkF, argsToLocals, Value.category]; done) | rfl
set_option maxRecDepth 65536 in
set_option maxHeartbeats 40000000 in
theorem rmS (l : Launch) (Z : State) (a0 : Array Value) (hw : ∀ d ∈ tables_1, d.before a0 Z = true) (ws : List Jvm.Cond) (a1 : Addr) (p0 : Int32) (p1 : UInt64) (p2 : UInt64) (h0 : Heap) (n0 : Nat) (Z0 : n0 ≤ h0.size) (E_a1 : Exa Z h0 a1 "com/example/latchkey/latchkey/bench/RmiComparison$Result") (F_threads : Fld Z h0 a1 "com/example/latchkey/latchkey/bench/RmiComparison$Result" "threads" "I" (.int (0 : Int32))) (F_latchkey : Fld Z h0 a1 "com/example/latchkey/latchkey/bench/RmiComparison$Result" "latchkey" "D" (.double (0 : UInt64))) (F_rmi : Fld Z h0 a1 "com/example/latchkey/latchkey/bench/RmiComparison$Result" "rmi" "D" (.double (0 : UInt64))) (g_a1 : n0 ≤ a1)  :
    MetFree l (⟨"com/example/latchkey/latchkey/bench/RmiComparison$Result", "<init>", "(IDD)V"⟩ : MethodName) (head1 (Jvm.Cond.code (⟨"com/example/latchkey/latchkey/bench/RmiComparison$Result", "<init>", "(IDD)V"⟩ : MethodName) prog_24_method_1_code 6 none :: ws) ({ frames := 2, cells := 0, slots := 0, locals := 24 } : Room)) (fun a U => a = #[(.ref a1), (.int p0), (.double p1), (.double p2)] ∧ Z.Warmed39 U.vm ∧ U.heap = h0) (fun _ _ _ _ _ => True) (fun _ U o U' => ∃ v L, o = .returned v ∧ QS Z a1 p0 p1 p2 h0 n0 v U'.heap L ∧ FrameEnd U o U' L ({ frames := 2, cells := 0, slots := 0, locals := 24 } : Room).cells ({ frames := 2, cells := 0, slots := 0, locals := 24 } : Room).slots) := by
  refine MetFree.of_bodySF (plainFor_of_name pn_com_example_latchkey_latchkey_bench_RmiComparison_Result) hisR ?_
  intro p e s m args below meth c s₁ Bd hml0 hP hK
  obtain ⟨rfl, hZ, hh⟩ := hP
  have hx := Bd.exec
  have hby := Bd.bytes
  have hml : c.maxLocals = 6 := hml0
  have hown : s.vm.findClass "com/example/latchkey/latchkey/bench/RmiComparison$Result" = some m.cls := findClass_of_methodNamed Bd.named
  have hnm := (name_of_methodNamed Bd.named Bd.method).1
  have X0 : Stand p l e ({ frames := 2, cells := 0, slots := 0, locals := 24 } : Room) s m #[(.ref a1), (.int p0), (.double p1), (.double p2)] below meth c s₁ [] 0 0 := Stand.of_body Bd
  have e0 : s₁.heap = h0 := by rw [← hh, Bd.state]; rfl
  have N0 := Fr.nil n0
  have pre0 : ∀ t, Steps p.tables e below (s₁.setTop (mkF m 0 #[.val (.ref a1), .val (.int p0), .val (.double p1), .second, .val (.double p2), .second] [])) t → Steps p.tables e below (s₁.setTop (entryFrame m #[(.ref a1), (.int p0), (.double p1), (.double p2)] 6)) t := fun t k => castTop (ef_prog_24_method_1_code m a1 p0 p1 p2) k
  have K0 := Keep.refl h0 [a1]
  obtain ⟨_, _, ⟨T1, L1, k1, n1⟩, -, X1, ⟨Lc1, hQ1, l1, y1, z1⟩, st1⟩ := X0.specialBack hx (y := (⟨"java/lang/Record", "<init>", "()V"⟩ : MethodName)) rfl hown (mvT hZ (hw _ (List.mem_of_getElem? (i := 25) rfl))) (mvT hZ (hw _ (List.mem_of_getElem? (i := 8) rfl))) (mvT hZ (hw _ (List.mem_of_getElem? (i := 11) rfl))) (by decide) (backOf (W := 0) (rmR l Z a0 hw [] a1 h0 n0 Z0) hZ (hw _ (List.mem_of_getElem? (i := 11) rfl)) (hw _ (List.mem_of_getElem? (i := 10) rfl)) (by decide) (by decide)) (g := (mkF m 1 #[.val (.ref a1), .val (.int p0), .val (.double p1), .second, .val (.double p2), .second] [(.ref a1)])) rfl (by rw [hml]; rfl) (Steps.refl _) (a := a1) (argsL := []) (rest := []) (lenOf pd___V rfl) rfl (by show 2 * 0 + _ ≤ _; exact Nat.le_of_eq rfl) (hb hby d_prog_24_method_1_code_1) (fun _ _ => ⟨rfl, e0, (by decide : 0 + 0 ≤ _), (by decide : 0 + 0 ≤ _)⟩)
  dsimp only [Pt.U, Pt.locs, Pt.cells, Pt.slots] at X1 l1 y1 z1 st1 hQ1
  subst l1 y1 z1
  obtain ⟨rfl, N1q, eq1⟩ := hQ1
  have N1 := Fr.app N0 N1q
  obtain ⟨T2, h2, X2, e2, W2, st2⟩ := putF X1 hx hZ hown (host := "") (Or.inl (hw _ (List.mem_of_getElem? (i := 26) rfl))) Via.refl eq1 F_threads E_a1 (Or.inr ⟨(hw _ (List.mem_of_getElem? (i := 27) rfl)), rfl, hnm⟩) (hw _ (List.mem_of_getElem? (i := 20) rfl)) (ty := .int) (by decide) rfl rfl (g := (mkF m 6 #[.val (.ref a1), .val (.int p0), .val (.double p1), .second, .val (.double p2), .second] [(.int p0), (.ref a1)])) rfl rfl (hb hby d_prog_24_method_1_code_6)
  have c2_0 := E_a1.wr W2
  have c2_1 := F_threads.same W2
  have c2_2 := F_latchkey.other W2 (Or.inr (slot_ne (Or.inr (hw _ (List.mem_of_getElem? (i := 29) rfl))) (Or.inr (hw _ (List.mem_of_getElem? (i := 27) rfl))) (by decide) (t := .double) (t' := .int) (by decide) (by decide)))
  have c2_3 := F_rmi.other W2 (Or.inr (slot_ne (Or.inr (hw _ (List.mem_of_getElem? (i := 31) rfl))) (Or.inr (hw _ (List.mem_of_getElem? (i := 27) rfl))) (by decide) (t := .double) (t' := .int) (by decide) (by decide)))
  have SZ2 := Nat.le_trans Z0 (Keep.of_wr W2).1
  have K2 := K0.wr W2 (Or.inl (List.mem_of_getElem? (i := 0) rfl))
  have N2 := Fr.snoc X2 N1 g_a1
  obtain ⟨T3, h3, X3, e3, W3, st3⟩ := putF X2 hx hZ hown (host := "") (Or.inl (hw _ (List.mem_of_getElem? (i := 28) rfl))) Via.refl e2 c2_2 c2_0 (Or.inr ⟨(hw _ (List.mem_of_getElem? (i := 29) rfl)), rfl, hnm⟩) (hw _ (List.mem_of_getElem? (i := 20) rfl)) (ty := .double) (by decide) rfl rfl (g := (mkF m 11 #[.val (.ref a1), .val (.int p0), .val (.double p1), .second, .val (.double p2), .second] [(.double p1), (.ref a1)])) rfl rfl (hb hby d_prog_24_method_1_code_11)
  have c3_0 := c2_0.wr W3
  have c3_1 := c2_1.other W3 (Or.inr (slot_ne (Or.inr (hw _ (List.mem_of_getElem? (i := 27) rfl))) (Or.inr (hw _ (List.mem_of_getElem? (i := 29) rfl))) (by decide) (t := .int) (t' := .double) (by decide) (by decide)))
  have c3_2 := c2_2.same W3
  have c3_3 := c2_3.other W3 (Or.inr (slot_ne (Or.inr (hw _ (List.mem_of_getElem? (i := 31) rfl))) (Or.inr (hw _ (List.mem_of_getElem? (i := 29) rfl))) (by decide) (t := .double) (t' := .double) (by decide) (by decide)))
  have SZ3 := Nat.le_trans SZ2 (Keep.of_wr W3).1
  have K3 := K2.wr W3 (Or.inl (List.mem_of_getElem? (i := 0) rfl))
  have N3 := Fr.snoc X3 N2 g_a1
  obtain ⟨T4, h4, X4, e4, W4, st4⟩ := putF X3 hx hZ hown (host := "") (Or.inl (hw _ (List.mem_of_getElem? (i := 30) rfl))) Via.refl e3 c3_3 c3_0 (Or.inr ⟨(hw _ (List.mem_of_getElem? (i := 31) rfl)), rfl, hnm⟩) (hw _ (List.mem_of_getElem? (i := 20) rfl)) (ty := .double) (by decide) rfl rfl (g := (mkF m 17 #[.val (.ref a1), .val (.int p0), .val (.double p1), .second, .val (.double p2), .second] [(.double p2), (.ref a1)])) rfl rfl (hb hby d_prog_24_method_1_code_17)
  have c4_0 := c3_0.wr W4
  have c4_1 := c3_1.other W4 (Or.inr (slot_ne (Or.inr (hw _ (List.mem_of_getElem? (i := 27) rfl))) (Or.inr (hw _ (List.mem_of_getElem? (i := 31) rfl))) (by decide) (t := .int) (t' := .double) (by decide) (by decide)))
  have c4_2 := c3_2.other W4 (Or.inr (slot_ne (Or.inr (hw _ (List.mem_of_getElem? (i := 29) rfl))) (Or.inr (hw _ (List.mem_of_getElem? (i := 31) rfl))) (by decide) (t := .double) (t' := .double) (by decide) (by decide)))
  have c4_3 := c3_3.same W4
  have SZ4 := Nat.le_trans SZ3 (Keep.of_wr W4).1
  have K4 := K3.wr W4 (Or.inl (List.mem_of_getElem? (i := 0) rfl))
  have N4 := Fr.snoc X4 N3 g_a1
  obtain ⟨fs, hr, hrun, hended, hW, hsame⟩ := X4.leave (v := none) (fun _ => rfl)
  refine ⟨_, _, pre0 _ ?_, hrun, hended, _, _, rfl, ?_, ⟨_, rfl⟩, hW, hsame.mono (by decide) (by decide)⟩
  · show Steps p.tables e below (s₁.setTop (mkF m 0 #[.val (.ref a1), .val (.int p0), .val (.double p1), .second, .val (.double p2), .second] [])) _
    refine XS.aloadN X0.here hx rfl (hb hby d_prog_24_method_1_code_0) rfl rfl ?_
    show Steps p.tables e below (s₁.setTop (mkF m 1 #[.val (.ref a1), .val (.int p0), .val (.double p1), .second, .val (.double p2), .second] [(.ref a1)])) _
    refine st1.trans ?_
    show Steps p.tables e below (T1.setTop (mkF m 4 #[.val (.ref a1), .val (.int p0), .val (.double p1), .second, .val (.double p2), .second] [])) _
    refine XS.aloadN X1.here hx rfl (hb hby d_prog_24_method_1_code_4) rfl rfl ?_
    show Steps p.tables e below (T1.setTop (mkF m 5 #[.val (.ref a1), .val (.int p0), .val (.double p1), .second, .val (.double p2), .second] [(.ref a1)])) _
    refine XS.iloadN X1.here hx rfl (hb hby d_prog_24_method_1_code_5) rfl ?_
    show Steps p.tables e below (T1.setTop (mkF m 6 #[.val (.ref a1), .val (.int p0), .val (.double p1), .second, .val (.double p2), .second] [(.int p0), (.ref a1)])) _
    refine st2 _ ?_
    show Steps p.tables e below (T2.setTop (mkF m 9 #[.val (.ref a1), .val (.int p0), .val (.double p1), .second, .val (.double p2), .second] [])) _
    refine XS.aloadN X2.here hx rfl (hb hby d_prog_24_method_1_code_9) rfl rfl ?_
    show Steps p.tables e below (T2.setTop (mkF m 10 #[.val (.ref a1), .val (.int p0), .val (.double p1), .second, .val (.double p2), .second] [(.ref a1)])) _
    refine XS.dloadN X2.here hx rfl (hb hby d_prog_24_method_1_code_10) rfl ?_
    show Steps p.tables e below (T2.setTop (mkF m 11 #[.val (.ref a1), .val (.int p0), .val (.double p1), .second, .val (.double p2), .second] [(.double p1), (.ref a1)])) _
    refine st3 _ ?_
    show Steps p.tables e below (T3.setTop (mkF m 14 #[.val (.ref a1), .val (.int p0), .val (.double p1), .second, .val (.double p2), .second] [])) _
    refine XS.aloadN X3.here hx rfl (hb hby d_prog_24_method_1_code_14) rfl rfl ?_
    show Steps p.tables e below (T3.setTop (mkF m 15 #[.val (.ref a1), .val (.int p0), .val (.double p1), .second, .val (.double p2), .second] [(.ref a1)])) _
    refine XS.dload X3.here hx rfl (hb hby d_prog_24_method_1_code_15) rfl ?_
    show Steps p.tables e below (T3.setTop (mkF m 17 #[.val (.ref a1), .val (.int p0), .val (.double p1), .second, .val (.double p2), .second] [(.double p2), (.ref a1)])) _
    refine st4 _ ?_
    show Steps p.tables e below (T4.setTop (mkF m 20 #[.val (.ref a1), .val (.int p0), .val (.double p1), .second, .val (.double p2), .second] [])) _
    exact X4.returnOut hx Bd.returns (hb hby d_prog_24_method_1_code_20) hr
  · show QS Z a1 p0 p1 p2 h0 n0 _ T4.heap _
    rw [e4]
    exact ⟨rfl, N4, K4, c4_0, c4_1, c4_2, c4_3⟩
def QD (r : UInt64) (h0 : Heap) (n0 : Nat) (v : Option Value) (h : Heap) (L : List Loc) : Prop := (v = some (.double r) ∧ Fr n0 L ∧ h = h0)
theorem d_prog_24_method_2_code_0 : decode prog_24_method_2_code 0 = .ok (.aload_n 0, 1) := by decide +kernel
theorem d_prog_24_method_2_code_1 : decode prog_24_method_2_code 1 = .ok (.getfield 13, 3) := by decide +kernel
theorem d_prog_24_method_2_code_4 : decode prog_24_method_2_code 4 = .ok (.aload_n 0, 1) := by decide +kernel
theorem d_prog_24_method_2_code_5 : decode prog_24_method_2_code 5 = .ok (.getfield 17, 3) := by decide +kernel
theorem d_prog_24_method_2_code_8 : decode prog_24_method_2_code 8 = .ok (.ddiv, 1) := by decide +kernel
theorem d_prog_24_method_2_code_9 : decode prog_24_method_2_code 9 = .ok (.dreturn, 1) := by decide +kernel
theorem ef_prog_24_method_2_code (m : MethodId) (x0 : Addr) : entryFrame m #[(.ref x0)] 1 = mkF m 0 #[.val (.ref x0)] [] := by first | (simp [entryFrame, mkF, argsToLocals, Value.category]; done) | rfl
set_option maxRecDepth 65536 in
set_option maxHeartbeats 40000000 in
theorem rmQ (l : Launch) (Z : State) (a0 : Array Value) (hw : ∀ d ∈ tables_1, d.before a0 Z = true) (ws : List Jvm.Cond) (a1 : Addr) (x y : UInt64) (h0 : Heap) (n0 : Nat) (Z0 : n0 ≤ h0.size) (F_latchkey : Fld Z h0 a1 "com/example/latchkey/latchkey/bench/RmiComparison$Result" "latchkey" "D" (.double x)) (F_rmi : Fld Z h0 a1 "com/example/latchkey/latchkey/bench/RmiComparison$Result" "rmi" "D" (.double y)) (hn8 : Jvm.Free.Fl.NoNaN64 (FP.ddiv x y))  :
    MetFree l (⟨"com/example/latchkey/latchkey/bench/RmiComparison$Result", "ratio", "()D"⟩ : MethodName) (head1 (Jvm.Cond.code (⟨"com/example/latchkey/latchkey/bench/RmiComparison$Result", "ratio", "()D"⟩ : MethodName) prog_24_method_2_code 1 (some .double) :: ws) ({ frames := 0, cells := 0, slots := 0, locals := 0 } : Room)) (fun a U => a = #[(.ref a1)] ∧ Z.Warmed39 U.vm ∧ U.heap = h0) (fun _ _ _ _ _ => True) (fun _ U o U' => ∃ v L, o = .returned v ∧ QD (FP.ddiv x y) h0 n0 v U'.heap L ∧ FrameEnd U o U' L ({ frames := 0, cells := 0, slots := 0, locals := 0 } : Room).cells ({ frames := 0, cells := 0, slots := 0, locals := 0 } : Room).slots) := by
  refine MetFree.of_bodySF (plainFor_of_name pn_com_example_latchkey_latchkey_bench_RmiComparison_Result) hisR ?_
  intro p e s m args below meth c s₁ Bd hml0 hP hK
  obtain ⟨rfl, hZ, hh⟩ := hP
  have hx := Bd.exec
  have hby := Bd.bytes
  have hml : c.maxLocals = 1 := hml0
  have hown : s.vm.findClass "com/example/latchkey/latchkey/bench/RmiComparison$Result" = some m.cls := findClass_of_methodNamed Bd.named
  have hnm := (name_of_methodNamed Bd.named Bd.method).1
  have X0 : Stand p l e ({ frames := 0, cells := 0, slots := 0, locals := 0 } : Room) s m #[(.ref a1)] below meth c s₁ [] 0 0 := Stand.of_body Bd
  have e0 : s₁.heap = h0 := by rw [← hh, Bd.state]; rfl
  have N0 := Fr.nil n0
  have pre0 : ∀ t, Steps p.tables e below (s₁.setTop (mkF m 0 #[.val (.ref a1)] [])) t → Steps p.tables e below (s₁.setTop (entryFrame m #[(.ref a1)] 1)) t := fun t k => castTop (ef_prog_24_method_2_code m a1) k
  obtain ⟨T1, X1, e1, st1⟩ := getF X0 hx hZ hown (host := "") (Or.inl (hw _ (List.mem_of_getElem? (i := 28) rfl))) Via.refl e0 F_latchkey (g := (mkF m 1 #[.val (.ref a1)] [(.ref a1)])) rfl rfl (hb hby d_prog_24_method_2_code_1)
  obtain ⟨T2, X2, e2, st2⟩ := getF X1 hx hZ hown (host := "") (Or.inl (hw _ (List.mem_of_getElem? (i := 30) rfl))) Via.refl e1 F_rmi (g := (mkF m 5 #[.val (.ref a1)] [(.ref a1), (.double x)])) rfl rfl (hb hby d_prog_24_method_2_code_5)
  obtain ⟨fs, hr, hrun, hended, hW, hsame⟩ := X2.leave (v := some (.double (FP.ddiv x y))) (fun h => by rw [Bd.returns] at h; cases h)
  refine ⟨_, _, pre0 _ ?_, hrun, hended, _, _, rfl, ?_, ⟨_, rfl⟩, hW, hsame.mono (by decide) (by decide)⟩
  · show Steps p.tables e below (s₁.setTop (mkF m 0 #[.val (.ref a1)] [])) _
    refine XS.aloadN X0.here hx rfl (hb hby d_prog_24_method_2_code_0) rfl rfl ?_
    show Steps p.tables e below (s₁.setTop (mkF m 1 #[.val (.ref a1)] [(.ref a1)])) _
    refine st1 _ ?_
    show Steps p.tables e below (T1.setTop (mkF m 4 #[.val (.ref a1)] [(.double x)])) _
    refine XS.aloadN X1.here hx rfl (hb hby d_prog_24_method_2_code_4) rfl rfl ?_
    show Steps p.tables e below (T1.setTop (mkF m 5 #[.val (.ref a1)] [(.ref a1), (.double x)])) _
    refine st2 _ ?_
    show Steps p.tables e below (T2.setTop (mkF m 8 #[.val (.ref a1)] [(.double y), (.double x)])) _
    refine XS.ddivS X2.here hx rfl (hb hby d_prog_24_method_2_code_8) rfl hn8 (v := (FP.ddiv x y)) rfl ?_
    show Steps p.tables e below (T2.setTop (mkF m 9 #[.val (.ref a1)] [(.double (FP.ddiv x y))])) _
    exact retOut X2 hx (t := .double) Bd.returns rfl (Or.inr (Or.inr (Or.inl ⟨rfl, rfl, _, rfl⟩))) (hb hby d_prog_24_method_2_code_9) hr
  · show QD (FP.ddiv x y) h0 n0 _ T2.heap _
    rw [e2]
    exact ⟨rfl, N0, rfl⟩
def QB (r : Int32) (h0 : Heap) (n0 : Nat) (v : Option Value) (h : Heap) (L : List Loc) : Prop := (v = some (.int r) ∧ Fr n0 L ∧ h = h0)
theorem d_prog_26_method_2_code_0 : decode prog_26_method_2_code 0 = .ok (.aload_n 1, 1) := by decide +kernel
theorem d_prog_26_method_2_code_1 : decode prog_26_method_2_code 1 = .ok (.invokevirtual 17, 3) := by decide +kernel
theorem d_prog_26_method_2_code_4 : decode prog_26_method_2_code 4 = .ok (.aload_n 0, 1) := by decide +kernel
theorem d_prog_26_method_2_code_5 : decode prog_26_method_2_code 5 = .ok (.getfield 13, 3) := by decide +kernel
theorem d_prog_26_method_2_code_8 : decode prog_26_method_2_code 8 = .ok (.dcmp .l, 1) := by decide +kernel
theorem d_prog_26_method_2_code_9 : decode prog_26_method_2_code 9 = .ok (.ifCond .lt 7, 3) := by decide +kernel
theorem d_prog_26_method_2_code_12 : decode prog_26_method_2_code 12 = .ok (.iconst 1, 1) := by decide +kernel
theorem d_prog_26_method_2_code_13 : decode prog_26_method_2_code 13 = .ok (.goto 4, 3) := by decide +kernel
theorem d_prog_26_method_2_code_17 : decode prog_26_method_2_code 17 = .ok (.ireturn, 1) := by decide +kernel
theorem pd___D : parseMethodDescriptor "()D" = some ⟨[], some .double⟩ := by decide +kernel
theorem ef_prog_26_method_2_code (m : MethodId) (x0 : Addr) (x1 : Addr) : entryFrame m #[(.ref x0), (.ref x1)] 2 = mkF m 0 #[.val (.ref x0), .val (.ref x1)] [] := by first | (simp [entryFrame, mkF, argsToLocals, Value.category]; done) | rfl
set_option maxRecDepth 65536 in
set_option maxHeartbeats 40000000 in
theorem rmMt (l : Launch) (Z : State) (a0 : Array Value) (hw : ∀ d ∈ tables_1, d.before a0 Z = true) (ws : List Jvm.Cond) (a1 a2 : Addr) (x y z : UInt64) (vc : Int32) (h0 : Heap) (n0 : Nat) (Z0 : n0 ≤ h0.size) (E_a2 : Exa Z h0 a2 "com/example/latchkey/latchkey/bench/RmiComparison$Result") (F_ratio : Fld Z h0 a1 "com/example/latchkey/latchkey/bench/RmiComparison$Target" "ratio" "D" (.double z)) (F_latchkey : Fld Z h0 a2 "com/example/latchkey/latchkey/bench/RmiComparison$Result" "latchkey" "D" (.double x)) (F_rmi : Fld Z h0 a2 "com/example/latchkey/latchkey/bench/RmiComparison$Result" "rmi" "D" (.double y)) (hn8 : Jvm.Free.Fl.NoNaN64 (FP.ddiv x y)) (hv8 : cmpValue (FP.dcmp (FP.ddiv x y) z) .l = vc) (hc9 : ¬ (vc < (0 : Int32))) :
    MetFree l (⟨"com/example/latchkey/latchkey/bench/RmiComparison$Target", "isMetBy", "(Lcom/example/latchkey/latchkey/bench/RmiComparison$Result;)Z"⟩ : MethodName) (head1 (Jvm.Cond.code (⟨"com/example/latchkey/latchkey/bench/RmiComparison$Target", "isMetBy", "(Lcom/example/latchkey/latchkey/bench/RmiComparison$Result;)Z"⟩ : MethodName) prog_26_method_2_code 2 (some .boolean) :: ws) ({ frames := 1, cells := 0, slots := 0, locals := 12 } : Room)) (fun a U => a = #[(.ref a1), (.ref a2)] ∧ Z.Warmed39 U.vm ∧ U.heap = h0) (fun _ _ _ _ _ => True) (fun _ U o U' => ∃ v L, o = .returned v ∧ QB 1 h0 n0 v U'.heap L ∧ FrameEnd U o U' L ({ frames := 1, cells := 0, slots := 0, locals := 12 } : Room).cells ({ frames := 1, cells := 0, slots := 0, locals := 12 } : Room).slots) := by
  refine MetFree.of_bodySF (plainFor_of_name pn_com_example_latchkey_latchkey_bench_RmiComparison_Target) hisR ?_
  intro p e s m args below meth c s₁ Bd hml0 hP hK
  obtain ⟨rfl, hZ, hh⟩ := hP
  have hx := Bd.exec
  have hby := Bd.bytes
  have hml : c.maxLocals = 2 := hml0
  have hown : s.vm.findClass "com/example/latchkey/latchkey/bench/RmiComparison$Target" = some m.cls := findClass_of_methodNamed Bd.named
  have hnm := (name_of_methodNamed Bd.named Bd.method).1
  have X0 : Stand p l e ({ frames := 1, cells := 0, slots := 0, locals := 12 } : Room) s m #[(.ref a1), (.ref a2)] below meth c s₁ [] 0 0 := Stand.of_body Bd
  have e0 : s₁.heap = h0 := by rw [← hh, Bd.state]; rfl
  have N0 := Fr.nil n0
  have pre0 : ∀ t, Steps p.tables e below (s₁.setTop (mkF m 0 #[.val (.ref a1), .val (.ref a2)] [])) t → Steps p.tables e below (s₁.setTop (entryFrame m #[(.ref a1), (.ref a2)] 2)) t := fun t k => castTop (ef_prog_26_method_2_code m a1 a2) k
  obtain ⟨cq1, kq1, q1a, q1b, q1c⟩ := isOf hZ e0 E_a2
  obtain ⟨_, _, ⟨T1, L1, k1, n1⟩, -, X1, ⟨Lc1, hQ1, l1, y1, z1⟩, st1⟩ := X0.virtualBack hx (y := (⟨"com/example/latchkey/latchkey/bench/RmiComparison$Result", "ratio", "()D"⟩ : MethodName)) (z := (⟨"com/example/latchkey/latchkey/bench/RmiComparison$Result", "ratio", "()D"⟩ : MethodName)) hown (mvT hZ (hw _ (List.mem_of_getElem? (i := 38) rfl))) (mvT hZ (hw _ (List.mem_of_getElem? (i := 39) rfl))) (notFace_of_selects (args := #[]) (mvT hZ (hw _ (List.mem_of_getElem? (i := 41) rfl)))) (mvT hZ (hw _ (List.mem_of_getElem? (i := 41) rfl))) (mvT hZ (hw _ (List.mem_of_getElem? (i := 40) rfl))) (by decide) (backOf (W := 0) (rmQ l Z a0 hw [] a2 x y h0 n0 Z0 F_latchkey F_rmi hn8) hZ (hw _ (List.mem_of_getElem? (i := 42) rfl)) (hw _ (List.mem_of_getElem? (i := 21) rfl)) (by decide) (by decide)) q1a q1c (g := (mkF m 1 #[.val (.ref a1), .val (.ref a2)] [(.ref a2)])) rfl (by rw [hml]; rfl) (Steps.refl _) (argsL := []) (rest := []) (lenOf pd___D rfl) rfl (by show 2 * 0 + _ ≤ _; exact Nat.le_of_eq rfl) (hb hby d_prog_26_method_2_code_1) (fun _ _ => ⟨rfl, e0, (by decide : 0 + 0 ≤ _), (by decide : 0 + 0 ≤ _)⟩)
  dsimp only [Pt.U, Pt.locs, Pt.cells, Pt.slots] at X1 l1 y1 z1 st1 hQ1
  subst l1 y1 z1
  obtain ⟨rfl, N1q, eq1⟩ := hQ1
  have N1 := Fr.app N0 N1q
  obtain ⟨T2, X2, e2, st2⟩ := getF X1 hx hZ hown (host := "") (Or.inl (hw _ (List.mem_of_getElem? (i := 17) rfl))) Via.refl eq1 F_ratio (g := (mkF m 5 #[.val (.ref a1), .val (.ref a2)] [(.ref a1), (.double (FP.ddiv x y))])) rfl rfl (hb hby d_prog_26_method_2_code_5)
  obtain ⟨fs, hr, hrun, hended, hW, hsame⟩ := X2.leave (v := some (.int (1 : Int32))) (fun h => by rw [Bd.returns] at h; cases h)
  refine ⟨_, _, pre0 _ ?_, hrun, hended, _, _, rfl, ?_, ⟨_, rfl⟩, hW, hsame.mono (by decide) (by decide)⟩
  · show Steps p.tables e below (s₁.setTop (mkF m 0 #[.val (.ref a1), .val (.ref a2)] [])) _
    refine XS.aloadN X0.here hx rfl (hb hby d_prog_26_method_2_code_0) rfl rfl ?_
    show Steps p.tables e below (s₁.setTop (mkF m 1 #[.val (.ref a1), .val (.ref a2)] [(.ref a2)])) _
    refine st1.trans ?_
    show Steps p.tables e below (T1.setTop (mkF m 4 #[.val (.ref a1), .val (.ref a2)] [(.double (FP.ddiv x y))])) _
    refine XS.aloadN X1.here hx rfl (hb hby d_prog_26_method_2_code_4) rfl rfl ?_
    show Steps p.tables e below (T1.setTop (mkF m 5 #[.val (.ref a1), .val (.ref a2)] [(.ref a1), (.double (FP.ddiv x y))])) _
    refine st2 _ ?_
    show Steps p.tables e below (T2.setTop (mkF m 8 #[.val (.ref a1), .val (.ref a2)] [(.double z), (.double (FP.ddiv x y))])) _
    refine XS.dcmpS X2.here hx rfl (hb hby d_prog_26_method_2_code_8) rfl (v := vc) hv8 ?_
    show Steps p.tables e below (T2.setTop (mkF m 9 #[.val (.ref a1), .val (.ref a2)] [(.int vc)])) _
    refine XS.ifNo X2.here hx rfl (hb hby d_prog_26_method_2_code_9) rfl ((if0 _ _).trans (flt (hc9 : ¬ (vc < (0 : Int32)))).1) ?_
    show Steps p.tables e below (T2.setTop (mkF m 12 #[.val (.ref a1), .val (.ref a2)] [])) _
    refine XS.iconst X2.here hx rfl (hb hby d_prog_26_method_2_code_12) ?_
    show Steps p.tables e below (T2.setTop (mkF m 13 #[.val (.ref a1), .val (.ref a2)] [(.int (1 : Int32))])) _
    refine XS.goto X2.here hx rfl (pc0 := 13) (pc' := 17) rfl (hb hby d_prog_26_method_2_code_13) (by decide) (by decide) ?_
    show Steps p.tables e below (T2.setTop (mkF m 17 #[.val (.ref a1), .val (.ref a2)] [(.int (1 : Int32))])) _
    exact retN X2 hx (t := .boolean) Bd.returns (by simp) (hb hby d_prog_26_method_2_code_17) hr
  · show QB 1 h0 n0 _ T2.heap _
    rw [e2]
    exact ⟨rfl, N1, rfl⟩
theorem d_prog_26_method_2_code_16 : decode prog_26_method_2_code 16 = .ok (.iconst 0, 1) := by decide +kernel
set_option maxRecDepth 65536 in
set_option maxHeartbeats 40000000 in
theorem rmMf (l : Launch) (Z : State) (a0 : Array Value) (hw : ∀ d ∈ tables_1, d.before a0 Z = true) (ws : List Jvm.Cond) (a1 a2 : Addr) (x y z : UInt64) (vc : Int32) (h0 : Heap) (n0 : Nat) (Z0 : n0 ≤ h0.size) (E_a2 : Exa Z h0 a2 "com/example/latchkey/latchkey/bench/RmiComparison$Result") (F_ratio : Fld Z h0 a1 "com/example/latchkey/latchkey/bench/RmiComparison$Target" "ratio" "D" (.double z)) (F_latchkey : Fld Z h0 a2 "com/example/latchkey/latchkey/bench/RmiComparison$Result" "latchkey" "D" (.double x)) (F_rmi : Fld Z h0 a2 "com/example/latchkey/latchkey/bench/RmiComparison$Result" "rmi" "D" (.double y)) (hn8 : Jvm.Free.Fl.NoNaN64 (FP.ddiv x y)) (hv8 : cmpValue (FP.dcmp (FP.ddiv x y) z) .l = vc) (hc9 : vc < (0 : Int32)) :
    MetFree l (⟨"com/example/latchkey/latchkey/bench/RmiComparison$Target", "isMetBy", "(Lcom/example/latchkey/latchkey/bench/RmiComparison$Result;)Z"⟩ : MethodName) (head1 (Jvm.Cond.code (⟨"com/example/latchkey/latchkey/bench/RmiComparison$Target", "isMetBy", "(Lcom/example/latchkey/latchkey/bench/RmiComparison$Result;)Z"⟩ : MethodName) prog_26_method_2_code 2 (some .boolean) :: ws) ({ frames := 1, cells := 0, slots := 0, locals := 12 } : Room)) (fun a U => a = #[(.ref a1), (.ref a2)] ∧ Z.Warmed39 U.vm ∧ U.heap = h0) (fun _ _ _ _ _ => True) (fun _ U o U' => ∃ v L, o = .returned v ∧ QB 0 h0 n0 v U'.heap L ∧ FrameEnd U o U' L ({ frames := 1, cells := 0, slots := 0, locals := 12 } : Room).cells ({ frames := 1, cells := 0, slots := 0, locals := 12 } : Room).slots) := by
  refine MetFree.of_bodySF (plainFor_of_name pn_com_example_latchkey_latchkey_bench_RmiComparison_Target) hisR ?_
  intro p e s m args below meth c s₁ Bd hml0 hP hK
  obtain ⟨rfl, hZ, hh⟩ := hP
  have hx := Bd.exec
  have hby := Bd.bytes
  have hml : c.maxLocals = 2 := hml0
  have hown : s.vm.findClass "com/example/latchkey/latchkey/bench/RmiComparison$Target" = some m.cls := findClass_of_methodNamed Bd.named
  have hnm := (name_of_methodNamed Bd.named Bd.method).1
  have X0 : Stand p l e ({ frames := 1, cells := 0, slots := 0, locals := 12 } : Room) s m #[(.ref a1), (.ref a2)] below meth c s₁ [] 0 0 := Stand.of_body Bd
  have e0 : s₁.heap = h0 := by rw [← hh, Bd.state]; rfl
  have N0 := Fr.nil n0
  have pre0 : ∀ t, Steps p.tables e below (s₁.setTop (mkF m 0 #[.val (.ref a1), .val (.ref a2)] [])) t → Steps p.tables e below (s₁.setTop (entryFrame m #[(.ref a1), (.ref a2)] 2)) t := fun t k => castTop (ef_prog_26_method_2_code m a1 a2) k
  obtain ⟨cq1, kq1, q1a, q1b, q1c⟩ := isOf hZ e0 E_a2
  obtain ⟨_, _, ⟨T1, L1, k1, n1⟩, -, X1, ⟨Lc1, hQ1, l1, y1, z1⟩, st1⟩ := X0.virtualBack hx (y := (⟨"com/example/latchkey/latchkey/bench/RmiComparison$Result", "ratio", "()D"⟩ : MethodName)) (z := (⟨"com/example/latchkey/latchkey/bench/RmiComparison$Result", "ratio", "()D"⟩ : MethodName)) hown (mvT hZ (hw _ (List.mem_of_getElem? (i := 38) rfl))) (mvT hZ (hw _ (List.mem_of_getElem? (i := 39) rfl))) (notFace_of_selects (args := #[]) (mvT hZ (hw _ (List.mem_of_getElem? (i := 41) rfl)))) (mvT hZ (hw _ (List.mem_of_getElem? (i := 41) rfl))) (mvT hZ (hw _ (List.mem_of_getElem? (i := 40) rfl))) (by decide) (backOf (W := 0) (rmQ l Z a0 hw [] a2 x y h0 n0 Z0 F_latchkey F_rmi hn8) hZ (hw _ (List.mem_of_getElem? (i := 42) rfl)) (hw _ (List.mem_of_getElem? (i := 21) rfl)) (by decide) (by decide)) q1a q1c (g := (mkF m 1 #[.val (.ref a1), .val (.ref a2)] [(.ref a2)])) rfl (by rw [hml]; rfl) (Steps.refl _) (argsL := []) (rest := []) (lenOf pd___D rfl) rfl (by show 2 * 0 + _ ≤ _; exact Nat.le_of_eq rfl) (hb hby d_prog_26_method_2_code_1) (fun _ _ => ⟨rfl, e0, (by decide : 0 + 0 ≤ _), (by decide : 0 + 0 ≤ _)⟩)
  dsimp only [Pt.U, Pt.locs, Pt.cells, Pt.slots] at X1 l1 y1 z1 st1 hQ1
  subst l1 y1 z1
  obtain ⟨rfl, N1q, eq1⟩ := hQ1
  have N1 := Fr.app N0 N1q
  obtain ⟨T2, X2, e2, st2⟩ := getF X1 hx hZ hown (host := "") (Or.inl (hw _ (List.mem_of_getElem? (i := 17) rfl))) Via.refl eq1 F_ratio (g := (mkF m 5 #[.val (.ref a1), .val (.ref a2)] [(.ref a1), (.double (FP.ddiv x y))])) rfl rfl (hb hby d_prog_26_method_2_code_5)
  obtain ⟨fs, hr, hrun, hended, hW, hsame⟩ := X2.leave (v := some (.int (0 : Int32))) (fun h => by rw [Bd.returns] at h; cases h)
  refine ⟨_, _, pre0 _ ?_, hrun, hended, _, _, rfl, ?_, ⟨_, rfl⟩, hW, hsame.mono (by decide) (by decide)⟩
  · show Steps p.tables e below (s₁.setTop (mkF m 0 #[.val (.ref a1), .val (.ref a2)] [])) _
    refine XS.aloadN X0.here hx rfl (hb hby d_prog_26_method_2_code_0) rfl rfl ?_
    show Steps p.tables e below (s₁.setTop (mkF m 1 #[.val (.ref a1), .val (.ref a2)] [(.ref a2)])) _
    refine st1.trans ?_
    show Steps p.tables e below (T1.setTop (mkF m 4 #[.val (.ref a1), .val (.ref a2)] [(.double (FP.ddiv x y))])) _
    refine XS.aloadN X1.here hx rfl (hb hby d_prog_26_method_2_code_4) rfl rfl ?_
    show Steps p.tables e below (T1.setTop (mkF m 5 #[.val (.ref a1), .val (.ref a2)] [(.ref a1), (.double (FP.ddiv x y))])) _
    refine st2 _ ?_
    show Steps p.tables e below (T2.setTop (mkF m 8 #[.val (.ref a1), .val (.ref a2)] [(.double z), (.double (FP.ddiv x y))])) _
    refine XS.dcmpS X2.here hx rfl (hb hby d_prog_26_method_2_code_8) rfl (v := vc) hv8 ?_
    show Steps p.tables e below (T2.setTop (mkF m 9 #[.val (.ref a1), .val (.ref a2)] [(.int vc)])) _
    refine XS.ifYes X2.here hx rfl (pc0 := 9) (pc' := 16) rfl (hb hby d_prog_26_method_2_code_9) rfl ((if0 _ _).trans (tlt (hc9 : vc < (0 : Int32))).1) (by decide) (by decide) ?_
    show Steps p.tables e below (T2.setTop (mkF m 16 #[.val (.ref a1), .val (.ref a2)] [])) _
    refine XS.iconst X2.here hx rfl (hb hby d_prog_26_method_2_code_16) ?_
    show Steps p.tables e below (T2.setTop (mkF m 17 #[.val (.ref a1), .val (.ref a2)] [(.int (0 : Int32))])) _
    exact retN X2 hx (t := .boolean) Bd.returns (by simp) (hb hby d_prog_26_method_2_code_17) hr
  · show QB 0 h0 n0 _ T2.heap _
    rw [e2]
    exact ⟨rfl, N1, rfl⟩
def QL (n0 : Nat) (v : Option Value) (h : Heap) (L : List Loc) : Prop := v = some (.int 1) ∧ Fr n0 L
theorem own_law (px py pz : Int32) : (¬ (cmpValue (FP.dcmp (FP.ddiv (FP.l2d (((px &&& (8191 : Int32)) - (4096 : Int32)).toInt64)) (FP.l2d (((1 : Int32) + (py &&& (8191 : Int32))).toInt64))) (FP.ddiv (FP.l2d (((pz &&& (8191 : Int32)) - (4096 : Int32)).toInt64)) (4616189618054758400 : UInt64))) .l < (0 : Int32)) ∧ ¬ (lcmpW ((4 : Int64) * (((px &&& (8191 : Int32)) - (4096 : Int32)).toInt64)) ((((pz &&& (8191 : Int32)) - (4096 : Int32)).toInt64) * (((1 : Int32) + (py &&& (8191 : Int32))).toInt64)) < (0 : Int32))) ∨ (cmpValue (FP.dcmp (FP.ddiv (FP.l2d (((px &&& (8191 : Int32)) - (4096 : Int32)).toInt64)) (FP.l2d (((1 : Int32) + (py &&& (8191 : Int32))).toInt64))) (FP.ddiv (FP.l2d (((pz &&& (8191 : Int32)) - (4096 : Int32)).toInt64)) (4616189618054758400 : UInt64))) .l < (0 : Int32) ∧ lcmpW ((4 : Int64) * (((px &&& (8191 : Int32)) - (4096 : Int32)).toInt64)) ((((pz &&& (8191 : Int32)) - (4096 : Int32)).toInt64) * (((1 : Int32) + (py &&& (8191 : Int32))).toInt64)) < (0 : Int32)) := by
  have ha := own_A px
  have hb := own_Bb py
  have hc := own_A pz
  have m1 : ((4 : Int64) * (((px &&& (8191 : Int32)) - (4096 : Int32)).toInt64)).toInt = 4 * (((px &&& (8191 : Int32)) - (4096 : Int32)).toInt64).toInt := by
    have e : ((4 : Int64)).toInt = 4 := by decide
    have := Jvm.Kit.i64_mul (x := 4) (y := (((px &&& (8191 : Int32)) - (4096 : Int32)).toInt64)) (by rw [e]; omega) (by rw [e]; omega)
    rw [this, e]
  have b1 : (((pz &&& (8191 : Int32)) - (4096 : Int32)).toInt64).toInt * (((1 : Int32) + (py &&& (8191 : Int32))).toInt64).toInt ≤ 4095 * 8192 ∧ -(4096 * 8192) ≤ (((pz &&& (8191 : Int32)) - (4096 : Int32)).toInt64).toInt * (((1 : Int32) + (py &&& (8191 : Int32))).toInt64).toInt := by
    generalize (((pz &&& (8191 : Int32)) - (4096 : Int32)).toInt64).toInt = u at *
    generalize (((1 : Int32) + (py &&& (8191 : Int32))).toInt64).toInt = v at *
    have h1 : u * v ≤ 4095 * v := Int.mul_le_mul_of_nonneg_right (by omega) (by omega)
    have h2 : -4096 * v ≤ u * v := Int.mul_le_mul_of_nonneg_right (by omega) (by omega)
    omega
  have m2 : ((((pz &&& (8191 : Int32)) - (4096 : Int32)).toInt64) * (((1 : Int32) + (py &&& (8191 : Int32))).toInt64)).toInt = (((pz &&& (8191 : Int32)) - (4096 : Int32)).toInt64).toInt * (((1 : Int32) + (py &&& (8191 : Int32))).toInt64).toInt := Jvm.Kit.i64_mul (by omega) (by omega)
  rw [own_lc, m1, m2]
  rcases own_plain ha.1 ha.2 hb.1 hb.2 hc.1 hc.2 with ⟨h1, h2⟩ | ⟨h1, h2⟩
  · exact Or.inl ⟨h2, by omega⟩
  · exact Or.inr ⟨h2, h1⟩
theorem pd__ID_V : parseMethodDescriptor "(ID)V" = some ⟨[.int, .double], none⟩ := by decide +kernel
theorem pd__IDD_V : parseMethodDescriptor "(IDD)V" = some ⟨[.int, .double, .double], none⟩ := by decide +kernel
theorem pd__Lcom_example_latchkey_latchkey_bench_RmiComparison_Result__Z : parseMethodDescriptor "(Lcom/example/latchkey/latchkey/bench/RmiComparison$Result;)Z" = some ⟨[(.object "com/example/latchkey/latchkey/bench/RmiComparison$Result")], some .boolean⟩ := by decide +kernel
theorem pn_com_example_latchkey_latchkey_bench_TargetIsMetByPinLaw : plainName "com/example/latchkey/latchkey/bench/TargetIsMetByPinLaw" = true := by first | (simp [plainName, overriddenIn]; done) | decide +kernel
theorem ef_code (m : MethodId) (x0 : Int32) (x1 : Int32) (x2 : Int32) (x3 : Int32) (x4 : Int32) : entryFrame m #[(.int x0), (.int x1), (.int x2), (.int x3), (.int x4)] maxLocals = mkF m 0 #[.val (.int x0), .val (.int x1), .val (.int x2), .val (.int x3), .val (.int x4), .unset, .unset, .unset, .unset, .unset, .unset, .unset, .unset, .unset, .unset, .unset, .unset, .unset, .unset, .unset] [] := by first | (simp [entryFrame, mkF, argsToLocals, Value.category, maxLocals]; done) | rfl
set_option maxRecDepth 65536 in
set_option maxHeartbeats 40000000 in
theorem rm01 (l : Launch) (Z : State) (a0 : Array Value) (hw : ∀ d ∈ tables_1, d.before a0 Z = true) (ws : List Jvm.Cond) (pt pr px py pz : Int32) (h0 : Heap) (n0 : Nat) (Z0 : n0 ≤ h0.size) (vc : Int32) (hvc : cmpValue (FP.dcmp (FP.ddiv (FP.l2d (((px &&& (8191 : Int32)) - (4096 : Int32)).toInt64)) (FP.l2d (((1 : Int32) + (py &&& (8191 : Int32))).toInt64))) (FP.ddiv (FP.l2d (((pz &&& (8191 : Int32)) - (4096 : Int32)).toInt64)) (4616189618054758400 : UInt64))) .l = vc) (hc : ¬ (vc < (0 : Int32))) (hc92 : ¬ ((lcmpW ((4 : Int64) * (((px &&& (8191 : Int32)) - (4096 : Int32)).toInt64)) ((((pz &&& (8191 : Int32)) - (4096 : Int32)).toInt64) * (((1 : Int32) + (py &&& (8191 : Int32))).toInt64))) < (0 : Int32))) :
    MetFree l x (head1 (Jvm.Cond.code x code maxLocals ret :: ws) room_1) (fun a U => a = #[(.int pt), (.int pr), (.int px), (.int py), (.int pz)] ∧ Z.Warmed39 U.vm ∧ U.heap = h0) (fun _ _ _ _ _ => True) (fun _ U o U' => ∃ v L, o = .returned v ∧ QL n0 v U'.heap L ∧ FrameEnd U o U' L 2 5) := by
  refine MetFree.of_bodySF (plainFor_of_name pn_com_example_latchkey_latchkey_bench_TargetIsMetByPinLaw) hisR ?_
  intro p e s m args below meth c s₁ Bd hml0 hP hK
  obtain ⟨rfl, hZ, hh⟩ := hP
  have hx := Bd.exec
  have hby := Bd.bytes
  have hml : c.maxLocals = 20 := hml0
  have hown : s.vm.findClass "com/example/latchkey/latchkey/bench/TargetIsMetByPinLaw" = some m.cls := findClass_of_methodNamed Bd.named
  have hnm := (name_of_methodNamed Bd.named Bd.method).1
  have X0 : Stand p l e room_1 s m #[(.int pt), (.int pr), (.int px), (.int py), (.int pz)] below meth c s₁ [] 0 0 := Stand.of_body Bd
  have e0 : s₁.heap = h0 := by rw [← hh, Bd.state]; rfl
  have N0 := Fr.nil n0
  have pre0 : ∀ t, Steps p.tables e below (s₁.setTop (mkF m 0 #[.val (.int pt), .val (.int pr), .val (.int px), .val (.int py), .val (.int pz), .unset, .unset, .unset, .unset, .unset, .unset, .unset, .unset, .unset, .unset, .unset, .unset, .unset, .unset, .unset] [])) t → Steps p.tables e below (s₁.setTop (entryFrame m #[(.int pt), (.int pr), (.int px), (.int py), (.int pz)] maxLocals)) t := fun t k => castTop (ef_code m pt pr px py pz) k
  obtain ⟨T1, h1, X1, e1, E1, A1, D1, -, st1⟩ := newO X0 hx hZ hown (hw _ (List.mem_of_getElem? (i := 1) rfl)) (hw _ (List.mem_of_getElem? (i := 2) rfl)) (hw _ (List.mem_of_getElem? (i := 3) rfl)) e0 (g := (mkF m 54 #[.val (.int pt), .val (.int pr), .val (.int px), .val (.int py), .val (.int pz), .val (.long (((px &&& (8191 : Int32)) - (4096 : Int32)).toInt64)), .second, .val (.long (((1 : Int32) + (py &&& (8191 : Int32))).toInt64)), .second, .val (.long (((pz &&& (8191 : Int32)) - (4096 : Int32)).toInt64)), .second, .val (.double (FP.l2d (((px &&& (8191 : Int32)) - (4096 : Int32)).toInt64))), .second, .val (.double (FP.l2d (((1 : Int32) + (py &&& (8191 : Int32))).toInt64))), .second, .val (.double (FP.ddiv (FP.l2d (((pz &&& (8191 : Int32)) - (4096 : Int32)).toInt64)) (4616189618054758400 : UInt64))), .second, .unset, .unset, .unset] [])) rfl (hb hby at_54) (by decide) (by decide)
  obtain ⟨b1, g1⟩ : ∃ z, z = h0.size := ⟨_, rfl⟩
  rw [← g1] at A1 D1 st1
  have g_b1 : n0 ≤ b1 := Nat.le_trans Z0 (Nat.le_of_eq g1.symm)
  have SZ1 := Nat.le_trans Z0 E1.1
  have F1_threads : Fld Z h1 b1 "com/example/latchkey/latchkey/bench/RmiComparison$Target" "threads" "I" (.int (0 : Int32)) := D1 (Or.inr (hw _ (List.mem_of_getElem? (i := 16) rfl))) (ty := .int) (by decide)
  have F1_ratio : Fld Z h1 b1 "com/example/latchkey/latchkey/bench/RmiComparison$Target" "ratio" "D" (.double (0 : UInt64)) := D1 (Or.inr (hw _ (List.mem_of_getElem? (i := 18) rfl))) (ty := .double) (by decide)
  obtain ⟨_, _, ⟨T2, L2, k2, n2⟩, -, X2, ⟨Lc2, hQ2, l2, y2, z2⟩, st2⟩ := X1.specialBack hx (y := (⟨"com/example/latchkey/latchkey/bench/RmiComparison$Target", "<init>", "(ID)V"⟩ : MethodName)) rfl hown (mvT hZ (hw _ (List.mem_of_getElem? (i := 4) rfl))) (mvT hZ (hw _ (List.mem_of_getElem? (i := 5) rfl))) (mvT hZ (hw _ (List.mem_of_getElem? (i := 6) rfl))) (by decide) (backOf (W := 1) (rmT l Z a0 hw [] b1 pt (FP.ddiv (FP.l2d (((pz &&& (8191 : Int32)) - (4096 : Int32)).toInt64)) (4616189618054758400 : UInt64)) h1 n0 SZ1 A1 F1_threads F1_ratio g_b1) hZ (hw _ (List.mem_of_getElem? (i := 6) rfl)) (hw _ (List.mem_of_getElem? (i := 3) rfl)) (by decide) (by decide)) (g := (mkF m 61 #[.val (.int pt), .val (.int pr), .val (.int px), .val (.int py), .val (.int pz), .val (.long (((px &&& (8191 : Int32)) - (4096 : Int32)).toInt64)), .second, .val (.long (((1 : Int32) + (py &&& (8191 : Int32))).toInt64)), .second, .val (.long (((pz &&& (8191 : Int32)) - (4096 : Int32)).toInt64)), .second, .val (.double (FP.l2d (((px &&& (8191 : Int32)) - (4096 : Int32)).toInt64))), .second, .val (.double (FP.l2d (((1 : Int32) + (py &&& (8191 : Int32))).toInt64))), .second, .val (.double (FP.ddiv (FP.l2d (((pz &&& (8191 : Int32)) - (4096 : Int32)).toInt64)) (4616189618054758400 : UInt64))), .second, .unset, .unset, .unset] [(.double (FP.ddiv (FP.l2d (((pz &&& (8191 : Int32)) - (4096 : Int32)).toInt64)) (4616189618054758400 : UInt64))), (.int pt), (.ref b1), (.ref b1)])) rfl (by rw [hml]; rfl) (Steps.refl _) (a := b1) (argsL := [(.int pt), (.double (FP.ddiv (FP.l2d (((pz &&& (8191 : Int32)) - (4096 : Int32)).toInt64)) (4616189618054758400 : UInt64)))]) (rest := [(.ref b1)]) (lenOf pd__ID_V rfl) rfl (by show 2 * 0 + _ ≤ _; exact Nat.le_of_eq rfl) (hb hby at_61) (fun _ _ => ⟨rfl, e1, (by decide : 1 + 0 ≤ _), (by decide : 2 + 0 ≤ _)⟩)
  dsimp only [Pt.U, Pt.locs, Pt.cells, Pt.slots] at X2 l2 y2 z2 st2 hQ2
  subst l2 y2 z2
  obtain ⟨rfl, N2q, K2q, E2q, F2q0, F2q1⟩ := hQ2
  have c2_0 := A1.keep K2q
  have SZ2 := Nat.le_trans SZ1 K2q.1
  have N2 := Fr.app N0 N2q
  obtain ⟨T3, h3, X3, e3, E3, A3, D3, -, st3⟩ := newO X2 hx hZ hown (hw _ (List.mem_of_getElem? (i := 19) rfl)) (hw _ (List.mem_of_getElem? (i := 20) rfl)) (hw _ (List.mem_of_getElem? (i := 21) rfl)) rfl (g := (mkF m 66 #[.val (.int pt), .val (.int pr), .val (.int px), .val (.int py), .val (.int pz), .val (.long (((px &&& (8191 : Int32)) - (4096 : Int32)).toInt64)), .second, .val (.long (((1 : Int32) + (py &&& (8191 : Int32))).toInt64)), .second, .val (.long (((pz &&& (8191 : Int32)) - (4096 : Int32)).toInt64)), .second, .val (.double (FP.l2d (((px &&& (8191 : Int32)) - (4096 : Int32)).toInt64))), .second, .val (.double (FP.l2d (((1 : Int32) + (py &&& (8191 : Int32))).toInt64))), .second, .val (.double (FP.ddiv (FP.l2d (((pz &&& (8191 : Int32)) - (4096 : Int32)).toInt64)) (4616189618054758400 : UInt64))), .second, .val (.ref b1), .unset, .unset] [])) rfl (hb hby at_66) (by decide) (by decide)
  obtain ⟨b3, g3⟩ : ∃ z, z = T2.heap.size := ⟨_, rfl⟩
  rw [← g3] at A3 D3 st3
  have g_b3 : n0 ≤ b3 := Nat.le_trans SZ2 (Nat.le_of_eq g3.symm)
  have ne_b1_b3 : b1 ≠ b3 := Nat.ne_of_lt (Nat.lt_of_lt_of_le E2q.lt (Nat.le_of_eq g3.symm))
  have c3_0 := E2q.ext E3
  have c3_1 := F2q0.ext E3
  have c3_2 := F2q1.ext E3
  have SZ3 := Nat.le_trans SZ2 E3.1
  have F3_threads : Fld Z h3 b3 "com/example/latchkey/latchkey/bench/RmiComparison$Result" "threads" "I" (.int (0 : Int32)) := D3 (Or.inr (hw _ (List.mem_of_getElem? (i := 27) rfl))) (ty := .int) (by decide)
  have F3_latchkey : Fld Z h3 b3 "com/example/latchkey/latchkey/bench/RmiComparison$Result" "latchkey" "D" (.double (0 : UInt64)) := D3 (Or.inr (hw _ (List.mem_of_getElem? (i := 29) rfl))) (ty := .double) (by decide)
  have F3_rmi : Fld Z h3 b3 "com/example/latchkey/latchkey/bench/RmiComparison$Result" "rmi" "D" (.double (0 : UInt64)) := D3 (Or.inr (hw _ (List.mem_of_getElem? (i := 31) rfl))) (ty := .double) (by decide)
  obtain ⟨_, _, ⟨T4, L4, k4, n4⟩, -, X4, ⟨Lc4, hQ4, l4, y4, z4⟩, st4⟩ := X3.specialBack hx (y := (⟨"com/example/latchkey/latchkey/bench/RmiComparison$Result", "<init>", "(IDD)V"⟩ : MethodName)) rfl hown (mvT hZ (hw _ (List.mem_of_getElem? (i := 22) rfl))) (mvT hZ (hw _ (List.mem_of_getElem? (i := 23) rfl))) (mvT hZ (hw _ (List.mem_of_getElem? (i := 24) rfl))) (by decide) (backOf (W := 1) (rmS l Z a0 hw [] b3 pr (FP.l2d (((px &&& (8191 : Int32)) - (4096 : Int32)).toInt64)) (FP.l2d (((1 : Int32) + (py &&& (8191 : Int32))).toInt64)) h3 n0 SZ3 A3 F3_threads F3_latchkey F3_rmi g_b3) hZ (hw _ (List.mem_of_getElem? (i := 24) rfl)) (hw _ (List.mem_of_getElem? (i := 21) rfl)) (by decide) (by decide)) (g := (mkF m 75 #[.val (.int pt), .val (.int pr), .val (.int px), .val (.int py), .val (.int pz), .val (.long (((px &&& (8191 : Int32)) - (4096 : Int32)).toInt64)), .second, .val (.long (((1 : Int32) + (py &&& (8191 : Int32))).toInt64)), .second, .val (.long (((pz &&& (8191 : Int32)) - (4096 : Int32)).toInt64)), .second, .val (.double (FP.l2d (((px &&& (8191 : Int32)) - (4096 : Int32)).toInt64))), .second, .val (.double (FP.l2d (((1 : Int32) + (py &&& (8191 : Int32))).toInt64))), .second, .val (.double (FP.ddiv (FP.l2d (((pz &&& (8191 : Int32)) - (4096 : Int32)).toInt64)) (4616189618054758400 : UInt64))), .second, .val (.ref b1), .unset, .unset] [(.double (FP.l2d (((1 : Int32) + (py &&& (8191 : Int32))).toInt64))), (.double (FP.l2d (((px &&& (8191 : Int32)) - (4096 : Int32)).toInt64))), (.int pr), (.ref b3), (.ref b3)])) rfl (by rw [hml]; rfl) (Steps.refl _) (a := b3) (argsL := [(.int pr), (.double (FP.l2d (((px &&& (8191 : Int32)) - (4096 : Int32)).toInt64))), (.double (FP.l2d (((1 : Int32) + (py &&& (8191 : Int32))).toInt64)))]) (rest := [(.ref b3)]) (lenOf pd__IDD_V rfl) rfl (by show 2 * 0 + _ ≤ _; exact Nat.le_of_eq rfl) (hb hby at_75) (fun _ _ => ⟨rfl, e3, (by decide : 2 + 0 ≤ _), (by decide : 5 + 0 ≤ _)⟩)
  dsimp only [Pt.U, Pt.locs, Pt.cells, Pt.slots] at X4 l4 y4 z4 st4 hQ4
  subst l4 y4 z4
  obtain ⟨rfl, N4q, K4q, E4q, F4q0, F4q1, F4q2⟩ := hQ4
  have c4_0 := c3_0.keep K4q
  have c4_1 := c3_1.keep K4q (by simp only [List.mem_cons, List.not_mem_nil, or_false, not_or]; exact ne_b1_b3)
  have c4_2 := c3_2.keep K4q (by simp only [List.mem_cons, List.not_mem_nil, or_false, not_or]; exact ne_b1_b3)
  have c4_3 := A3.keep K4q
  have SZ4 := Nat.le_trans SZ3 K4q.1
  have N4 := Fr.app N2 N4q
  obtain ⟨cq5, kq5, q5a, q5b, q5c⟩ := isOf hZ rfl c4_0
  obtain ⟨_, _, ⟨T5, L5, k5, n5⟩, -, X5, ⟨Lc5, hQ5, l5, y5, z5⟩, st5⟩ := X4.virtualBack hx (y := (⟨"com/example/latchkey/latchkey/bench/RmiComparison$Target", "isMetBy", "(Lcom/example/latchkey/latchkey/bench/RmiComparison$Result;)Z"⟩ : MethodName)) (z := (⟨"com/example/latchkey/latchkey/bench/RmiComparison$Target", "isMetBy", "(Lcom/example/latchkey/latchkey/bench/RmiComparison$Result;)Z"⟩ : MethodName)) hown (mvT hZ (hw _ (List.mem_of_getElem? (i := 33) rfl))) (mvT hZ (hw _ (List.mem_of_getElem? (i := 34) rfl))) (notFace_of_selects (args := #[]) (mvT hZ (hw _ (List.mem_of_getElem? (i := 36) rfl)))) (mvT hZ (hw _ (List.mem_of_getElem? (i := 36) rfl))) (mvT hZ (hw _ (List.mem_of_getElem? (i := 35) rfl))) (by decide) (backOf (W := 0) (rmMt l Z a0 hw [] b1 b3 (FP.l2d (((px &&& (8191 : Int32)) - (4096 : Int32)).toInt64)) (FP.l2d (((1 : Int32) + (py &&& (8191 : Int32))).toInt64)) (FP.ddiv (FP.l2d (((pz &&& (8191 : Int32)) - (4096 : Int32)).toInt64)) (4616189618054758400 : UInt64)) vc T4.heap n0 SZ4 E4q c4_2 F4q1 F4q2 (own_nn px py) hvc hc) hZ (hw _ (List.mem_of_getElem? (i := 37) rfl)) (hw _ (List.mem_of_getElem? (i := 3) rfl)) (by decide) (by decide)) q5a q5c (g := (mkF m 106 #[.val (.int pt), .val (.int pr), .val (.int px), .val (.int py), .val (.int pz), .val (.long (((px &&& (8191 : Int32)) - (4096 : Int32)).toInt64)), .second, .val (.long (((1 : Int32) + (py &&& (8191 : Int32))).toInt64)), .second, .val (.long (((pz &&& (8191 : Int32)) - (4096 : Int32)).toInt64)), .second, .val (.double (FP.l2d (((px &&& (8191 : Int32)) - (4096 : Int32)).toInt64))), .second, .val (.double (FP.l2d (((1 : Int32) + (py &&& (8191 : Int32))).toInt64))), .second, .val (.double (FP.ddiv (FP.l2d (((pz &&& (8191 : Int32)) - (4096 : Int32)).toInt64)) (4616189618054758400 : UInt64))), .second, .val (.ref b1), .val (.ref b3), .val (.int (1 : Int32))] [(.ref b3), (.ref b1)])) rfl (by rw [hml]; rfl) (Steps.refl _) (argsL := [(.ref b3)]) (rest := []) (lenOf pd__Lcom_example_latchkey_latchkey_bench_RmiComparison_Result__Z rfl) rfl (by show 2 * 0 + _ ≤ _; exact Nat.le_of_eq rfl) (hb hby at_106) (fun _ _ => ⟨rfl, rfl, (by decide : 2 + 0 ≤ _), (by decide : 5 + 0 ≤ _)⟩)
  dsimp only [Pt.U, Pt.locs, Pt.cells, Pt.slots] at X5 l5 y5 z5 st5 hQ5
  subst l5 y5 z5
  obtain ⟨rfl, N5q, eq5⟩ := hQ5
  have N5 := Fr.app N4 N5q
  obtain ⟨fs, hr, hrun, hended, hW, hsame⟩ := X5.leave (v := some (.int (1 : Int32))) (fun h => by rw [Bd.returns] at h; cases h)
  refine ⟨_, _, pre0 _ ?_, hrun, hended, _, _, rfl, ?_, ⟨_, rfl⟩, hW, hsame.mono (by decide) (by decide)⟩
  · show Steps p.tables e below (s₁.setTop (mkF m 0 #[.val (.int pt), .val (.int pr), .val (.int px), .val (.int py), .val (.int pz), .unset, .unset, .unset, .unset, .unset, .unset, .unset, .unset, .unset, .unset, .unset, .unset, .unset, .unset, .unset] [])) _
    refine XS.iloadN X0.here hx rfl (hb hby at_0) rfl ?_
    show Steps p.tables e below (s₁.setTop (mkF m 1 #[.val (.int pt), .val (.int pr), .val (.int px), .val (.int py), .val (.int pz), .unset, .unset, .unset, .unset, .unset, .unset, .unset, .unset, .unset, .unset, .unset, .unset, .unset, .unset, .unset] [(.int px)])) _
    refine XS.sipush X0.here hx rfl (hb hby at_1) ?_
    show Steps p.tables e below (s₁.setTop (mkF m 4 #[.val (.int pt), .val (.int pr), .val (.int px), .val (.int py), .val (.int pz), .unset, .unset, .unset, .unset, .unset, .unset, .unset, .unset, .unset, .unset, .unset, .unset, .unset, .unset, .unset] [(.int (8191 : Int32)), (.int px)])) _
    refine XS.iand X0.here hx rfl (hb hby at_4) rfl ?_
    show Steps p.tables e below (s₁.setTop (mkF m 5 #[.val (.int pt), .val (.int pr), .val (.int px), .val (.int py), .val (.int pz), .unset, .unset, .unset, .unset, .unset, .unset, .unset, .unset, .unset, .unset, .unset, .unset, .unset, .unset, .unset] [(.int (px &&& (8191 : Int32)))])) _
    refine XS.sipush X0.here hx rfl (hb hby at_5) ?_
    show Steps p.tables e below (s₁.setTop (mkF m 8 #[.val (.int pt), .val (.int pr), .val (.int px), .val (.int py), .val (.int pz), .unset, .unset, .unset, .unset, .unset, .unset, .unset, .unset, .unset, .unset, .unset, .unset, .unset, .unset, .unset] [(.int (4096 : Int32)), (.int (px &&& (8191 : Int32)))])) _
    refine XS.isub X0.here hx rfl (hb hby at_8) rfl ?_
    show Steps p.tables e below (s₁.setTop (mkF m 9 #[.val (.int pt), .val (.int pr), .val (.int px), .val (.int py), .val (.int pz), .unset, .unset, .unset, .unset, .unset, .unset, .unset, .unset, .unset, .unset, .unset, .unset, .unset, .unset, .unset] [(.int ((px &&& (8191 : Int32)) - (4096 : Int32)))])) _
    refine XS.i2l X0.here hx rfl (hb hby at_9) rfl ?_
    show Steps p.tables e below (s₁.setTop (mkF m 10 #[.val (.int pt), .val (.int pr), .val (.int px), .val (.int py), .val (.int pz), .unset, .unset, .unset, .unset, .unset, .unset, .unset, .unset, .unset, .unset, .unset, .unset, .unset, .unset, .unset] [(.long (((px &&& (8191 : Int32)) - (4096 : Int32)).toInt64))])) _
    refine XS.lstore X0.here hx rfl (hb hby at_10) rfl (l' := #[.val (.int pt), .val (.int pr), .val (.int px), .val (.int py), .val (.int pz), .val (.long (((px &&& (8191 : Int32)) - (4096 : Int32)).toInt64)), .second, .unset, .unset, .unset, .unset, .unset, .unset, .unset, .unset, .unset, .unset, .unset, .unset, .unset]) rfl ?_
    show Steps p.tables e below (s₁.setTop (mkF m 12 #[.val (.int pt), .val (.int pr), .val (.int px), .val (.int py), .val (.int pz), .val (.long (((px &&& (8191 : Int32)) - (4096 : Int32)).toInt64)), .second, .unset, .unset, .unset, .unset, .unset, .unset, .unset, .unset, .unset, .unset, .unset, .unset, .unset] [])) _
    refine XS.iconst X0.here hx rfl (hb hby at_12) ?_
    show Steps p.tables e below (s₁.setTop (mkF m 13 #[.val (.int pt), .val (.int pr), .val (.int px), .val (.int py), .val (.int pz), .val (.long (((px &&& (8191 : Int32)) - (4096 : Int32)).toInt64)), .second, .unset, .unset, .unset, .unset, .unset, .unset, .unset, .unset, .unset, .unset, .unset, .unset, .unset] [(.int (1 : Int32))])) _
    refine XS.iloadN X0.here hx rfl (hb hby at_13) rfl ?_
    show Steps p.tables e below (s₁.setTop (mkF m 14 #[.val (.int pt), .val (.int pr), .val (.int px), .val (.int py), .val (.int pz), .val (.long (((px &&& (8191 : Int32)) - (4096 : Int32)).toInt64)), .second, .unset, .unset, .unset, .unset, .unset, .unset, .unset, .unset, .unset, .unset, .unset, .unset, .unset] [(.int py), (.int (1 : Int32))])) _
    refine XS.sipush X0.here hx rfl (hb hby at_14) ?_
    show Steps p.tables e below (s₁.setTop (mkF m 17 #[.val (.int pt), .val (.int pr), .val (.int px), .val (.int py), .val (.int pz), .val (.long (((px &&& (8191 : Int32)) - (4096 : Int32)).toInt64)), .second, .unset, .unset, .unset, .unset, .unset, .unset, .unset, .unset, .unset, .unset, .unset, .unset, .unset] [(.int (8191 : Int32)), (.int py), (.int (1 : Int32))])) _
    refine XS.iand X0.here hx rfl (hb hby at_17) rfl ?_
    show Steps p.tables e below (s₁.setTop (mkF m 18 #[.val (.int pt), .val (.int pr), .val (.int px), .val (.int py), .val (.int pz), .val (.long (((px &&& (8191 : Int32)) - (4096 : Int32)).toInt64)), .second, .unset, .unset, .unset, .unset, .unset, .unset, .unset, .unset, .unset, .unset, .unset, .unset, .unset] [(.int (py &&& (8191 : Int32))), (.int (1 : Int32))])) _
    refine XS.iadd X0.here hx rfl (hb hby at_18) rfl ?_
    show Steps p.tables e below (s₁.setTop (mkF m 19 #[.val (.int pt), .val (.int pr), .val (.int px), .val (.int py), .val (.int pz), .val (.long (((px &&& (8191 : Int32)) - (4096 : Int32)).toInt64)), .second, .unset, .unset, .unset, .unset, .unset, .unset, .unset, .unset, .unset, .unset, .unset, .unset, .unset] [(.int ((1 : Int32) + (py &&& (8191 : Int32))))])) _
    refine XS.i2l X0.here hx rfl (hb hby at_19) rfl ?_
    show Steps p.tables e below (s₁.setTop (mkF m 20 #[.val (.int pt), .val (.int pr), .val (.int px), .val (.int py), .val (.int pz), .val (.long (((px &&& (8191 : Int32)) - (4096 : Int32)).toInt64)), .second, .unset, .unset, .unset, .unset, .unset, .unset, .unset, .unset, .unset, .unset, .unset, .unset, .unset] [(.long (((1 : Int32) + (py &&& (8191 : Int32))).toInt64))])) _
    refine XS.lstore X0.here hx rfl (hb hby at_20) rfl (l' := #[.val (.int pt), .val (.int pr), .val (.int px), .val (.int py), .val (.int pz), .val (.long (((px &&& (8191 : Int32)) - (4096 : Int32)).toInt64)), .second, .val (.long (((1 : Int32) + (py &&& (8191 : Int32))).toInt64)), .second, .unset, .unset, .unset, .unset, .unset, .unset, .unset, .unset, .unset, .unset, .unset]) rfl ?_
    show Steps p.tables e below (s₁.setTop (mkF m 22 #[.val (.int pt), .val (.int pr), .val (.int px), .val (.int py), .val (.int pz), .val (.long (((px &&& (8191 : Int32)) - (4096 : Int32)).toInt64)), .second, .val (.long (((1 : Int32) + (py &&& (8191 : Int32))).toInt64)), .second, .unset, .unset, .unset, .unset, .unset, .unset, .unset, .unset, .unset, .unset, .unset] [])) _
    refine XS.iload X0.here hx rfl (hb hby at_22) rfl ?_
    show Steps p.tables e below (s₁.setTop (mkF m 24 #[.val (.int pt), .val (.int pr), .val (.int px), .val (.int py), .val (.int pz), .val (.long (((px &&& (8191 : Int32)) - (4096 : Int32)).toInt64)), .second, .val (.long (((1 : Int32) + (py &&& (8191 : Int32))).toInt64)), .second, .unset, .unset, .unset, .unset, .unset, .unset, .unset, .unset, .unset, .unset, .unset] [(.int pz)])) _
    refine XS.sipush X0.here hx rfl (hb hby at_24) ?_
    show Steps p.tables e below (s₁.setTop (mkF m 27 #[.val (.int pt), .val (.int pr), .val (.int px), .val (.int py), .val (.int pz), .val (.long (((px &&& (8191 : Int32)) - (4096 : Int32)).toInt64)), .second, .val (.long (((1 : Int32) + (py &&& (8191 : Int32))).toInt64)), .second, .unset, .unset, .unset, .unset, .unset, .unset, .unset, .unset, .unset, .unset, .unset] [(.int (8191 : Int32)), (.int pz)])) _
    refine XS.iand X0.here hx rfl (hb hby at_27) rfl ?_
    show Steps p.tables e below (s₁.setTop (mkF m 28 #[.val (.int pt), .val (.int pr), .val (.int px), .val (.int py), .val (.int pz), .val (.long (((px &&& (8191 : Int32)) - (4096 : Int32)).toInt64)), .second, .val (.long (((1 : Int32) + (py &&& (8191 : Int32))).toInt64)), .second, .unset, .unset, .unset, .unset, .unset, .unset, .unset, .unset, .unset, .unset, .unset] [(.int (pz &&& (8191 : Int32)))])) _
    refine XS.sipush X0.here hx rfl (hb hby at_28) ?_
    show Steps p.tables e below (s₁.setTop (mkF m 31 #[.val (.int pt), .val (.int pr), .val (.int px), .val (.int py), .val (.int pz), .val (.long (((px &&& (8191 : Int32)) - (4096 : Int32)).toInt64)), .second, .val (.long (((1 : Int32) + (py &&& (8191 : Int32))).toInt64)), .second, .unset, .unset, .unset, .unset, .unset, .unset, .unset, .unset, .unset, .unset, .unset] [(.int (4096 : Int32)), (.int (pz &&& (8191 : Int32)))])) _
    refine XS.isub X0.here hx rfl (hb hby at_31) rfl ?_
    show Steps p.tables e below (s₁.setTop (mkF m 32 #[.val (.int pt), .val (.int pr), .val (.int px), .val (.int py), .val (.int pz), .val (.long (((px &&& (8191 : Int32)) - (4096 : Int32)).toInt64)), .second, .val (.long (((1 : Int32) + (py &&& (8191 : Int32))).toInt64)), .second, .unset, .unset, .unset, .unset, .unset, .unset, .unset, .unset, .unset, .unset, .unset] [(.int ((pz &&& (8191 : Int32)) - (4096 : Int32)))])) _
    refine XS.i2l X0.here hx rfl (hb hby at_32) rfl ?_
    show Steps p.tables e below (s₁.setTop (mkF m 33 #[.val (.int pt), .val (.int pr), .val (.int px), .val (.int py), .val (.int pz), .val (.long (((px &&& (8191 : Int32)) - (4096 : Int32)).toInt64)), .second, .val (.long (((1 : Int32) + (py &&& (8191 : Int32))).toInt64)), .second, .unset, .unset, .unset, .unset, .unset, .unset, .unset, .unset, .unset, .unset, .unset] [(.long (((pz &&& (8191 : Int32)) - (4096 : Int32)).toInt64))])) _
    refine XS.lstore X0.here hx rfl (hb hby at_33) rfl (l' := #[.val (.int pt), .val (.int pr), .val (.int px), .val (.int py), .val (.int pz), .val (.long (((px &&& (8191 : Int32)) - (4096 : Int32)).toInt64)), .second, .val (.long (((1 : Int32) + (py &&& (8191 : Int32))).toInt64)), .second, .val (.long (((pz &&& (8191 : Int32)) - (4096 : Int32)).toInt64)), .second, .unset, .unset, .unset, .unset, .unset, .unset, .unset, .unset, .unset]) rfl ?_
    show Steps p.tables e below (s₁.setTop (mkF m 35 #[.val (.int pt), .val (.int pr), .val (.int px), .val (.int py), .val (.int pz), .val (.long (((px &&& (8191 : Int32)) - (4096 : Int32)).toInt64)), .second, .val (.long (((1 : Int32) + (py &&& (8191 : Int32))).toInt64)), .second, .val (.long (((pz &&& (8191 : Int32)) - (4096 : Int32)).toInt64)), .second, .unset, .unset, .unset, .unset, .unset, .unset, .unset, .unset, .unset] [])) _
    refine XS.lload X0.here hx rfl (hb hby at_35) rfl ?_
    show Steps p.tables e below (s₁.setTop (mkF m 37 #[.val (.int pt), .val (.int pr), .val (.int px), .val (.int py), .val (.int pz), .val (.long (((px &&& (8191 : Int32)) - (4096 : Int32)).toInt64)), .second, .val (.long (((1 : Int32) + (py &&& (8191 : Int32))).toInt64)), .second, .val (.long (((pz &&& (8191 : Int32)) - (4096 : Int32)).toInt64)), .second, .unset, .unset, .unset, .unset, .unset, .unset, .unset, .unset, .unset] [(.long (((px &&& (8191 : Int32)) - (4096 : Int32)).toInt64))])) _
    refine XS.l2dS X0.here hx rfl (hb hby at_37) rfl (v := (FP.l2d (((px &&& (8191 : Int32)) - (4096 : Int32)).toInt64))) rfl ?_
    show Steps p.tables e below (s₁.setTop (mkF m 38 #[.val (.int pt), .val (.int pr), .val (.int px), .val (.int py), .val (.int pz), .val (.long (((px &&& (8191 : Int32)) - (4096 : Int32)).toInt64)), .second, .val (.long (((1 : Int32) + (py &&& (8191 : Int32))).toInt64)), .second, .val (.long (((pz &&& (8191 : Int32)) - (4096 : Int32)).toInt64)), .second, .unset, .unset, .unset, .unset, .unset, .unset, .unset, .unset, .unset] [(.double (FP.l2d (((px &&& (8191 : Int32)) - (4096 : Int32)).toInt64)))])) _
    refine XS.dstore X0.here hx rfl (hb hby at_38) rfl (l' := #[.val (.int pt), .val (.int pr), .val (.int px), .val (.int py), .val (.int pz), .val (.long (((px &&& (8191 : Int32)) - (4096 : Int32)).toInt64)), .second, .val (.long (((1 : Int32) + (py &&& (8191 : Int32))).toInt64)), .second, .val (.long (((pz &&& (8191 : Int32)) - (4096 : Int32)).toInt64)), .second, .val (.double (FP.l2d (((px &&& (8191 : Int32)) - (4096 : Int32)).toInt64))), .second, .unset, .unset, .unset, .unset, .unset, .unset, .unset]) rfl ?_
    show Steps p.tables e below (s₁.setTop (mkF m 40 #[.val (.int pt), .val (.int pr), .val (.int px), .val (.int py), .val (.int pz), .val (.long (((px &&& (8191 : Int32)) - (4096 : Int32)).toInt64)), .second, .val (.long (((1 : Int32) + (py &&& (8191 : Int32))).toInt64)), .second, .val (.long (((pz &&& (8191 : Int32)) - (4096 : Int32)).toInt64)), .second, .val (.double (FP.l2d (((px &&& (8191 : Int32)) - (4096 : Int32)).toInt64))), .second, .unset, .unset, .unset, .unset, .unset, .unset, .unset] [])) _
    refine XS.lload X0.here hx rfl (hb hby at_40) rfl ?_
    show Steps p.tables e below (s₁.setTop (mkF m 42 #[.val (.int pt), .val (.int pr), .val (.int px), .val (.int py), .val (.int pz), .val (.long (((px &&& (8191 : Int32)) - (4096 : Int32)).toInt64)), .second, .val (.long (((1 : Int32) + (py &&& (8191 : Int32))).toInt64)), .second, .val (.long (((pz &&& (8191 : Int32)) - (4096 : Int32)).toInt64)), .second, .val (.double (FP.l2d (((px &&& (8191 : Int32)) - (4096 : Int32)).toInt64))), .second, .unset, .unset, .unset, .unset, .unset, .unset, .unset] [(.long (((1 : Int32) + (py &&& (8191 : Int32))).toInt64))])) _
    refine XS.l2dS X0.here hx rfl (hb hby at_42) rfl (v := (FP.l2d (((1 : Int32) + (py &&& (8191 : Int32))).toInt64))) rfl ?_
    show Steps p.tables e below (s₁.setTop (mkF m 43 #[.val (.int pt), .val (.int pr), .val (.int px), .val (.int py), .val (.int pz), .val (.long (((px &&& (8191 : Int32)) - (4096 : Int32)).toInt64)), .second, .val (.long (((1 : Int32) + (py &&& (8191 : Int32))).toInt64)), .second, .val (.long (((pz &&& (8191 : Int32)) - (4096 : Int32)).toInt64)), .second, .val (.double (FP.l2d (((px &&& (8191 : Int32)) - (4096 : Int32)).toInt64))), .second, .unset, .unset, .unset, .unset, .unset, .unset, .unset] [(.double (FP.l2d (((1 : Int32) + (py &&& (8191 : Int32))).toInt64)))])) _
    refine XS.dstore X0.here hx rfl (hb hby at_43) rfl (l' := #[.val (.int pt), .val (.int pr), .val (.int px), .val (.int py), .val (.int pz), .val (.long (((px &&& (8191 : Int32)) - (4096 : Int32)).toInt64)), .second, .val (.long (((1 : Int32) + (py &&& (8191 : Int32))).toInt64)), .second, .val (.long (((pz &&& (8191 : Int32)) - (4096 : Int32)).toInt64)), .second, .val (.double (FP.l2d (((px &&& (8191 : Int32)) - (4096 : Int32)).toInt64))), .second, .val (.double (FP.l2d (((1 : Int32) + (py &&& (8191 : Int32))).toInt64))), .second, .unset, .unset, .unset, .unset, .unset]) rfl ?_
    show Steps p.tables e below (s₁.setTop (mkF m 45 #[.val (.int pt), .val (.int pr), .val (.int px), .val (.int py), .val (.int pz), .val (.long (((px &&& (8191 : Int32)) - (4096 : Int32)).toInt64)), .second, .val (.long (((1 : Int32) + (py &&& (8191 : Int32))).toInt64)), .second, .val (.long (((pz &&& (8191 : Int32)) - (4096 : Int32)).toInt64)), .second, .val (.double (FP.l2d (((px &&& (8191 : Int32)) - (4096 : Int32)).toInt64))), .second, .val (.double (FP.l2d (((1 : Int32) + (py &&& (8191 : Int32))).toInt64))), .second, .unset, .unset, .unset, .unset, .unset] [])) _
    refine XS.lload X0.here hx rfl (hb hby at_45) rfl ?_
    show Steps p.tables e below (s₁.setTop (mkF m 47 #[.val (.int pt), .val (.int pr), .val (.int px), .val (.int py), .val (.int pz), .val (.long (((px &&& (8191 : Int32)) - (4096 : Int32)).toInt64)), .second, .val (.long (((1 : Int32) + (py &&& (8191 : Int32))).toInt64)), .second, .val (.long (((pz &&& (8191 : Int32)) - (4096 : Int32)).toInt64)), .second, .val (.double (FP.l2d (((px &&& (8191 : Int32)) - (4096 : Int32)).toInt64))), .second, .val (.double (FP.l2d (((1 : Int32) + (py &&& (8191 : Int32))).toInt64))), .second, .unset, .unset, .unset, .unset, .unset] [(.long (((pz &&& (8191 : Int32)) - (4096 : Int32)).toInt64))])) _
    refine XS.l2dS X0.here hx rfl (hb hby at_47) rfl (v := (FP.l2d (((pz &&& (8191 : Int32)) - (4096 : Int32)).toInt64))) rfl ?_
    show Steps p.tables e below (s₁.setTop (mkF m 48 #[.val (.int pt), .val (.int pr), .val (.int px), .val (.int py), .val (.int pz), .val (.long (((px &&& (8191 : Int32)) - (4096 : Int32)).toInt64)), .second, .val (.long (((1 : Int32) + (py &&& (8191 : Int32))).toInt64)), .second, .val (.long (((pz &&& (8191 : Int32)) - (4096 : Int32)).toInt64)), .second, .val (.double (FP.l2d (((px &&& (8191 : Int32)) - (4096 : Int32)).toInt64))), .second, .val (.double (FP.l2d (((1 : Int32) + (py &&& (8191 : Int32))).toInt64))), .second, .unset, .unset, .unset, .unset, .unset] [(.double (FP.l2d (((pz &&& (8191 : Int32)) - (4096 : Int32)).toInt64)))])) _
    refine X0.ldc2DoubleC hx hown (mvT hZ (hw _ (List.mem_of_getElem? (i := 0) rfl))) (g := (mkF m 48 #[.val (.int pt), .val (.int pr), .val (.int px), .val (.int py), .val (.int pz), .val (.long (((px &&& (8191 : Int32)) - (4096 : Int32)).toInt64)), .second, .val (.long (((1 : Int32) + (py &&& (8191 : Int32))).toInt64)), .second, .val (.long (((pz &&& (8191 : Int32)) - (4096 : Int32)).toInt64)), .second, .val (.double (FP.l2d (((px &&& (8191 : Int32)) - (4096 : Int32)).toInt64))), .second, .val (.double (FP.l2d (((1 : Int32) + (py &&& (8191 : Int32))).toInt64))), .second, .unset, .unset, .unset, .unset, .unset] [(.double (FP.l2d (((pz &&& (8191 : Int32)) - (4096 : Int32)).toInt64)))])) rfl (hb hby at_48) _ ?_
    show Steps p.tables e below (s₁.setTop (mkF m 51 #[.val (.int pt), .val (.int pr), .val (.int px), .val (.int py), .val (.int pz), .val (.long (((px &&& (8191 : Int32)) - (4096 : Int32)).toInt64)), .second, .val (.long (((1 : Int32) + (py &&& (8191 : Int32))).toInt64)), .second, .val (.long (((pz &&& (8191 : Int32)) - (4096 : Int32)).toInt64)), .second, .val (.double (FP.l2d (((px &&& (8191 : Int32)) - (4096 : Int32)).toInt64))), .second, .val (.double (FP.l2d (((1 : Int32) + (py &&& (8191 : Int32))).toInt64))), .second, .unset, .unset, .unset, .unset, .unset] [(.double (4616189618054758400 : UInt64)), (.double (FP.l2d (((pz &&& (8191 : Int32)) - (4096 : Int32)).toInt64)))])) _
    refine XS.ddivS X0.here hx rfl (hb hby at_51) rfl (own_nz pz) (v := (FP.ddiv (FP.l2d (((pz &&& (8191 : Int32)) - (4096 : Int32)).toInt64)) (4616189618054758400 : UInt64))) rfl ?_
    show Steps p.tables e below (s₁.setTop (mkF m 52 #[.val (.int pt), .val (.int pr), .val (.int px), .val (.int py), .val (.int pz), .val (.long (((px &&& (8191 : Int32)) - (4096 : Int32)).toInt64)), .second, .val (.long (((1 : Int32) + (py &&& (8191 : Int32))).toInt64)), .second, .val (.long (((pz &&& (8191 : Int32)) - (4096 : Int32)).toInt64)), .second, .val (.double (FP.l2d (((px &&& (8191 : Int32)) - (4096 : Int32)).toInt64))), .second, .val (.double (FP.l2d (((1 : Int32) + (py &&& (8191 : Int32))).toInt64))), .second, .unset, .unset, .unset, .unset, .unset] [(.double (FP.ddiv (FP.l2d (((pz &&& (8191 : Int32)) - (4096 : Int32)).toInt64)) (4616189618054758400 : UInt64)))])) _
    refine XS.dstore X0.here hx rfl (hb hby at_52) rfl (l' := #[.val (.int pt), .val (.int pr), .val (.int px), .val (.int py), .val (.int pz), .val (.long (((px &&& (8191 : Int32)) - (4096 : Int32)).toInt64)), .second, .val (.long (((1 : Int32) + (py &&& (8191 : Int32))).toInt64)), .second, .val (.long (((pz &&& (8191 : Int32)) - (4096 : Int32)).toInt64)), .second, .val (.double (FP.l2d (((px &&& (8191 : Int32)) - (4096 : Int32)).toInt64))), .second, .val (.double (FP.l2d (((1 : Int32) + (py &&& (8191 : Int32))).toInt64))), .second, .val (.double (FP.ddiv (FP.l2d (((pz &&& (8191 : Int32)) - (4096 : Int32)).toInt64)) (4616189618054758400 : UInt64))), .second, .unset, .unset, .unset]) rfl ?_
    show Steps p.tables e below (s₁.setTop (mkF m 54 #[.val (.int pt), .val (.int pr), .val (.int px), .val (.int py), .val (.int pz), .val (.long (((px &&& (8191 : Int32)) - (4096 : Int32)).toInt64)), .second, .val (.long (((1 : Int32) + (py &&& (8191 : Int32))).toInt64)), .second, .val (.long (((pz &&& (8191 : Int32)) - (4096 : Int32)).toInt64)), .second, .val (.double (FP.l2d (((px &&& (8191 : Int32)) - (4096 : Int32)).toInt64))), .second, .val (.double (FP.l2d (((1 : Int32) + (py &&& (8191 : Int32))).toInt64))), .second, .val (.double (FP.ddiv (FP.l2d (((pz &&& (8191 : Int32)) - (4096 : Int32)).toInt64)) (4616189618054758400 : UInt64))), .second, .unset, .unset, .unset] [])) _
    refine st1 _ ?_
    show Steps p.tables e below (T1.setTop (mkF m 57 #[.val (.int pt), .val (.int pr), .val (.int px), .val (.int py), .val (.int pz), .val (.long (((px &&& (8191 : Int32)) - (4096 : Int32)).toInt64)), .second, .val (.long (((1 : Int32) + (py &&& (8191 : Int32))).toInt64)), .second, .val (.long (((pz &&& (8191 : Int32)) - (4096 : Int32)).toInt64)), .second, .val (.double (FP.l2d (((px &&& (8191 : Int32)) - (4096 : Int32)).toInt64))), .second, .val (.double (FP.l2d (((1 : Int32) + (py &&& (8191 : Int32))).toInt64))), .second, .val (.double (FP.ddiv (FP.l2d (((pz &&& (8191 : Int32)) - (4096 : Int32)).toInt64)) (4616189618054758400 : UInt64))), .second, .unset, .unset, .unset] [(.ref b1)])) _
    refine XS.dup X1.here hx rfl (hb hby at_57) rfl rfl ?_
    show Steps p.tables e below (T1.setTop (mkF m 58 #[.val (.int pt), .val (.int pr), .val (.int px), .val (.int py), .val (.int pz), .val (.long (((px &&& (8191 : Int32)) - (4096 : Int32)).toInt64)), .second, .val (.long (((1 : Int32) + (py &&& (8191 : Int32))).toInt64)), .second, .val (.long (((pz &&& (8191 : Int32)) - (4096 : Int32)).toInt64)), .second, .val (.double (FP.l2d (((px &&& (8191 : Int32)) - (4096 : Int32)).toInt64))), .second, .val (.double (FP.l2d (((1 : Int32) + (py &&& (8191 : Int32))).toInt64))), .second, .val (.double (FP.ddiv (FP.l2d (((pz &&& (8191 : Int32)) - (4096 : Int32)).toInt64)) (4616189618054758400 : UInt64))), .second, .unset, .unset, .unset] [(.ref b1), (.ref b1)])) _
    refine XS.iloadN X1.here hx rfl (hb hby at_58) rfl ?_
    show Steps p.tables e below (T1.setTop (mkF m 59 #[.val (.int pt), .val (.int pr), .val (.int px), .val (.int py), .val (.int pz), .val (.long (((px &&& (8191 : Int32)) - (4096 : Int32)).toInt64)), .second, .val (.long (((1 : Int32) + (py &&& (8191 : Int32))).toInt64)), .second, .val (.long (((pz &&& (8191 : Int32)) - (4096 : Int32)).toInt64)), .second, .val (.double (FP.l2d (((px &&& (8191 : Int32)) - (4096 : Int32)).toInt64))), .second, .val (.double (FP.l2d (((1 : Int32) + (py &&& (8191 : Int32))).toInt64))), .second, .val (.double (FP.ddiv (FP.l2d (((pz &&& (8191 : Int32)) - (4096 : Int32)).toInt64)) (4616189618054758400 : UInt64))), .second, .unset, .unset, .unset] [(.int pt), (.ref b1), (.ref b1)])) _
    refine XS.dload X1.here hx rfl (hb hby at_59) rfl ?_
    show Steps p.tables e below (T1.setTop (mkF m 61 #[.val (.int pt), .val (.int pr), .val (.int px), .val (.int py), .val (.int pz), .val (.long (((px &&& (8191 : Int32)) - (4096 : Int32)).toInt64)), .second, .val (.long (((1 : Int32) + (py &&& (8191 : Int32))).toInt64)), .second, .val (.long (((pz &&& (8191 : Int32)) - (4096 : Int32)).toInt64)), .second, .val (.double (FP.l2d (((px &&& (8191 : Int32)) - (4096 : Int32)).toInt64))), .second, .val (.double (FP.l2d (((1 : Int32) + (py &&& (8191 : Int32))).toInt64))), .second, .val (.double (FP.ddiv (FP.l2d (((pz &&& (8191 : Int32)) - (4096 : Int32)).toInt64)) (4616189618054758400 : UInt64))), .second, .unset, .unset, .unset] [(.double (FP.ddiv (FP.l2d (((pz &&& (8191 : Int32)) - (4096 : Int32)).toInt64)) (4616189618054758400 : UInt64))), (.int pt), (.ref b1), (.ref b1)])) _
    refine st2.trans ?_
    show Steps p.tables e below (T2.setTop (mkF m 64 #[.val (.int pt), .val (.int pr), .val (.int px), .val (.int py), .val (.int pz), .val (.long (((px &&& (8191 : Int32)) - (4096 : Int32)).toInt64)), .second, .val (.long (((1 : Int32) + (py &&& (8191 : Int32))).toInt64)), .second, .val (.long (((pz &&& (8191 : Int32)) - (4096 : Int32)).toInt64)), .second, .val (.double (FP.l2d (((px &&& (8191 : Int32)) - (4096 : Int32)).toInt64))), .second, .val (.double (FP.l2d (((1 : Int32) + (py &&& (8191 : Int32))).toInt64))), .second, .val (.double (FP.ddiv (FP.l2d (((pz &&& (8191 : Int32)) - (4096 : Int32)).toInt64)) (4616189618054758400 : UInt64))), .second, .unset, .unset, .unset] [(.ref b1)])) _
    refine XS.astore X2.here hx rfl (hb hby at_64) rfl rfl (l' := #[.val (.int pt), .val (.int pr), .val (.int px), .val (.int py), .val (.int pz), .val (.long (((px &&& (8191 : Int32)) - (4096 : Int32)).toInt64)), .second, .val (.long (((1 : Int32) + (py &&& (8191 : Int32))).toInt64)), .second, .val (.long (((pz &&& (8191 : Int32)) - (4096 : Int32)).toInt64)), .second, .val (.double (FP.l2d (((px &&& (8191 : Int32)) - (4096 : Int32)).toInt64))), .second, .val (.double (FP.l2d (((1 : Int32) + (py &&& (8191 : Int32))).toInt64))), .second, .val (.double (FP.ddiv (FP.l2d (((pz &&& (8191 : Int32)) - (4096 : Int32)).toInt64)) (4616189618054758400 : UInt64))), .second, .val (.ref b1), .unset, .unset]) rfl ?_
    show Steps p.tables e below (T2.setTop (mkF m 66 #[.val (.int pt), .val (.int pr), .val (.int px), .val (.int py), .val (.int pz), .val (.long (((px &&& (8191 : Int32)) - (4096 : Int32)).toInt64)), .second, .val (.long (((1 : Int32) + (py &&& (8191 : Int32))).toInt64)), .second, .val (.long (((pz &&& (8191 : Int32)) - (4096 : Int32)).toInt64)), .second, .val (.double (FP.l2d (((px &&& (8191 : Int32)) - (4096 : Int32)).toInt64))), .second, .val (.double (FP.l2d (((1 : Int32) + (py &&& (8191 : Int32))).toInt64))), .second, .val (.double (FP.ddiv (FP.l2d (((pz &&& (8191 : Int32)) - (4096 : Int32)).toInt64)) (4616189618054758400 : UInt64))), .second, .val (.ref b1), .unset, .unset] [])) _
    refine st3 _ ?_
    show Steps p.tables e below (T3.setTop (mkF m 69 #[.val (.int pt), .val (.int pr), .val (.int px), .val (.int py), .val (.int pz), .val (.long (((px &&& (8191 : Int32)) - (4096 : Int32)).toInt64)), .second, .val (.long (((1 : Int32) + (py &&& (8191 : Int32))).toInt64)), .second, .val (.long (((pz &&& (8191 : Int32)) - (4096 : Int32)).toInt64)), .second, .val (.double (FP.l2d (((px &&& (8191 : Int32)) - (4096 : Int32)).toInt64))), .second, .val (.double (FP.l2d (((1 : Int32) + (py &&& (8191 : Int32))).toInt64))), .second, .val (.double (FP.ddiv (FP.l2d (((pz &&& (8191 : Int32)) - (4096 : Int32)).toInt64)) (4616189618054758400 : UInt64))), .second, .val (.ref b1), .unset, .unset] [(.ref b3)])) _
    refine XS.dup X3.here hx rfl (hb hby at_69) rfl rfl ?_
    show Steps p.tables e below (T3.setTop (mkF m 70 #[.val (.int pt), .val (.int pr), .val (.int px), .val (.int py), .val (.int pz), .val (.long (((px &&& (8191 : Int32)) - (4096 : Int32)).toInt64)), .second, .val (.long (((1 : Int32) + (py &&& (8191 : Int32))).toInt64)), .second, .val (.long (((pz &&& (8191 : Int32)) - (4096 : Int32)).toInt64)), .second, .val (.double (FP.l2d (((px &&& (8191 : Int32)) - (4096 : Int32)).toInt64))), .second, .val (.double (FP.l2d (((1 : Int32) + (py &&& (8191 : Int32))).toInt64))), .second, .val (.double (FP.ddiv (FP.l2d (((pz &&& (8191 : Int32)) - (4096 : Int32)).toInt64)) (4616189618054758400 : UInt64))), .second, .val (.ref b1), .unset, .unset] [(.ref b3), (.ref b3)])) _
    refine XS.iloadN X3.here hx rfl (hb hby at_70) rfl ?_
    show Steps p.tables e below (T3.setTop (mkF m 71 #[.val (.int pt), .val (.int pr), .val (.int px), .val (.int py), .val (.int pz), .val (.long (((px &&& (8191 : Int32)) - (4096 : Int32)).toInt64)), .second, .val (.long (((1 : Int32) + (py &&& (8191 : Int32))).toInt64)), .second, .val (.long (((pz &&& (8191 : Int32)) - (4096 : Int32)).toInt64)), .second, .val (.double (FP.l2d (((px &&& (8191 : Int32)) - (4096 : Int32)).toInt64))), .second, .val (.double (FP.l2d (((1 : Int32) + (py &&& (8191 : Int32))).toInt64))), .second, .val (.double (FP.ddiv (FP.l2d (((pz &&& (8191 : Int32)) - (4096 : Int32)).toInt64)) (4616189618054758400 : UInt64))), .second, .val (.ref b1), .unset, .unset] [(.int pr), (.ref b3), (.ref b3)])) _
    refine XS.dload X3.here hx rfl (hb hby at_71) rfl ?_
    show Steps p.tables e below (T3.setTop (mkF m 73 #[.val (.int pt), .val (.int pr), .val (.int px), .val (.int py), .val (.int pz), .val (.long (((px &&& (8191 : Int32)) - (4096 : Int32)).toInt64)), .second, .val (.long (((1 : Int32) + (py &&& (8191 : Int32))).toInt64)), .second, .val (.long (((pz &&& (8191 : Int32)) - (4096 : Int32)).toInt64)), .second, .val (.double (FP.l2d (((px &&& (8191 : Int32)) - (4096 : Int32)).toInt64))), .second, .val (.double (FP.l2d (((1 : Int32) + (py &&& (8191 : Int32))).toInt64))), .second, .val (.double (FP.ddiv (FP.l2d (((pz &&& (8191 : Int32)) - (4096 : Int32)).toInt64)) (4616189618054758400 : UInt64))), .second, .val (.ref b1), .unset, .unset] [(.double (FP.l2d (((px &&& (8191 : Int32)) - (4096 : Int32)).toInt64))), (.int pr), (.ref b3), (.ref b3)])) _
    refine XS.dload X3.here hx rfl (hb hby at_73) rfl ?_
    show Steps p.tables e below (T3.setTop (mkF m 75 #[.val (.int pt), .val (.int pr), .val (.int px), .val (.int py), .val (.int pz), .val (.long (((px &&& (8191 : Int32)) - (4096 : Int32)).toInt64)), .second, .val (.long (((1 : Int32) + (py &&& (8191 : Int32))).toInt64)), .second, .val (.long (((pz &&& (8191 : Int32)) - (4096 : Int32)).toInt64)), .second, .val (.double (FP.l2d (((px &&& (8191 : Int32)) - (4096 : Int32)).toInt64))), .second, .val (.double (FP.l2d (((1 : Int32) + (py &&& (8191 : Int32))).toInt64))), .second, .val (.double (FP.ddiv (FP.l2d (((pz &&& (8191 : Int32)) - (4096 : Int32)).toInt64)) (4616189618054758400 : UInt64))), .second, .val (.ref b1), .unset, .unset] [(.double (FP.l2d (((1 : Int32) + (py &&& (8191 : Int32))).toInt64))), (.double (FP.l2d (((px &&& (8191 : Int32)) - (4096 : Int32)).toInt64))), (.int pr), (.ref b3), (.ref b3)])) _
    refine st4.trans ?_
    show Steps p.tables e below (T4.setTop (mkF m 78 #[.val (.int pt), .val (.int pr), .val (.int px), .val (.int py), .val (.int pz), .val (.long (((px &&& (8191 : Int32)) - (4096 : Int32)).toInt64)), .second, .val (.long (((1 : Int32) + (py &&& (8191 : Int32))).toInt64)), .second, .val (.long (((pz &&& (8191 : Int32)) - (4096 : Int32)).toInt64)), .second, .val (.double (FP.l2d (((px &&& (8191 : Int32)) - (4096 : Int32)).toInt64))), .second, .val (.double (FP.l2d (((1 : Int32) + (py &&& (8191 : Int32))).toInt64))), .second, .val (.double (FP.ddiv (FP.l2d (((pz &&& (8191 : Int32)) - (4096 : Int32)).toInt64)) (4616189618054758400 : UInt64))), .second, .val (.ref b1), .unset, .unset] [(.ref b3)])) _
    refine XS.astore X4.here hx rfl (hb hby at_78) rfl rfl (l' := #[.val (.int pt), .val (.int pr), .val (.int px), .val (.int py), .val (.int pz), .val (.long (((px &&& (8191 : Int32)) - (4096 : Int32)).toInt64)), .second, .val (.long (((1 : Int32) + (py &&& (8191 : Int32))).toInt64)), .second, .val (.long (((pz &&& (8191 : Int32)) - (4096 : Int32)).toInt64)), .second, .val (.double (FP.l2d (((px &&& (8191 : Int32)) - (4096 : Int32)).toInt64))), .second, .val (.double (FP.l2d (((1 : Int32) + (py &&& (8191 : Int32))).toInt64))), .second, .val (.double (FP.ddiv (FP.l2d (((pz &&& (8191 : Int32)) - (4096 : Int32)).toInt64)) (4616189618054758400 : UInt64))), .second, .val (.ref b1), .val (.ref b3), .unset]) rfl ?_
    show Steps p.tables e below (T4.setTop (mkF m 80 #[.val (.int pt), .val (.int pr), .val (.int px), .val (.int py), .val (.int pz), .val (.long (((px &&& (8191 : Int32)) - (4096 : Int32)).toInt64)), .second, .val (.long (((1 : Int32) + (py &&& (8191 : Int32))).toInt64)), .second, .val (.long (((pz &&& (8191 : Int32)) - (4096 : Int32)).toInt64)), .second, .val (.double (FP.l2d (((px &&& (8191 : Int32)) - (4096 : Int32)).toInt64))), .second, .val (.double (FP.l2d (((1 : Int32) + (py &&& (8191 : Int32))).toInt64))), .second, .val (.double (FP.ddiv (FP.l2d (((pz &&& (8191 : Int32)) - (4096 : Int32)).toInt64)) (4616189618054758400 : UInt64))), .second, .val (.ref b1), .val (.ref b3), .unset] [])) _
    refine X4.ldc2Long hx hown (mvT hZ (hw _ (List.mem_of_getElem? (i := 32) rfl))) (g := (mkF m 80 #[.val (.int pt), .val (.int pr), .val (.int px), .val (.int py), .val (.int pz), .val (.long (((px &&& (8191 : Int32)) - (4096 : Int32)).toInt64)), .second, .val (.long (((1 : Int32) + (py &&& (8191 : Int32))).toInt64)), .second, .val (.long (((pz &&& (8191 : Int32)) - (4096 : Int32)).toInt64)), .second, .val (.double (FP.l2d (((px &&& (8191 : Int32)) - (4096 : Int32)).toInt64))), .second, .val (.double (FP.l2d (((1 : Int32) + (py &&& (8191 : Int32))).toInt64))), .second, .val (.double (FP.ddiv (FP.l2d (((pz &&& (8191 : Int32)) - (4096 : Int32)).toInt64)) (4616189618054758400 : UInt64))), .second, .val (.ref b1), .val (.ref b3), .unset] [])) rfl (hb hby at_80) _ ?_
    show Steps p.tables e below (T4.setTop (mkF m 83 #[.val (.int pt), .val (.int pr), .val (.int px), .val (.int py), .val (.int pz), .val (.long (((px &&& (8191 : Int32)) - (4096 : Int32)).toInt64)), .second, .val (.long (((1 : Int32) + (py &&& (8191 : Int32))).toInt64)), .second, .val (.long (((pz &&& (8191 : Int32)) - (4096 : Int32)).toInt64)), .second, .val (.double (FP.l2d (((px &&& (8191 : Int32)) - (4096 : Int32)).toInt64))), .second, .val (.double (FP.l2d (((1 : Int32) + (py &&& (8191 : Int32))).toInt64))), .second, .val (.double (FP.ddiv (FP.l2d (((pz &&& (8191 : Int32)) - (4096 : Int32)).toInt64)) (4616189618054758400 : UInt64))), .second, .val (.ref b1), .val (.ref b3), .unset] [(.long (4 : Int64))])) _
    refine XS.lload X4.here hx rfl (hb hby at_83) rfl ?_
    show Steps p.tables e below (T4.setTop (mkF m 85 #[.val (.int pt), .val (.int pr), .val (.int px), .val (.int py), .val (.int pz), .val (.long (((px &&& (8191 : Int32)) - (4096 : Int32)).toInt64)), .second, .val (.long (((1 : Int32) + (py &&& (8191 : Int32))).toInt64)), .second, .val (.long (((pz &&& (8191 : Int32)) - (4096 : Int32)).toInt64)), .second, .val (.double (FP.l2d (((px &&& (8191 : Int32)) - (4096 : Int32)).toInt64))), .second, .val (.double (FP.l2d (((1 : Int32) + (py &&& (8191 : Int32))).toInt64))), .second, .val (.double (FP.ddiv (FP.l2d (((pz &&& (8191 : Int32)) - (4096 : Int32)).toInt64)) (4616189618054758400 : UInt64))), .second, .val (.ref b1), .val (.ref b3), .unset] [(.long (((px &&& (8191 : Int32)) - (4096 : Int32)).toInt64)), (.long (4 : Int64))])) _
    refine XS.lmul X4.here hx rfl (hb hby at_85) rfl ?_
    show Steps p.tables e below (T4.setTop (mkF m 86 #[.val (.int pt), .val (.int pr), .val (.int px), .val (.int py), .val (.int pz), .val (.long (((px &&& (8191 : Int32)) - (4096 : Int32)).toInt64)), .second, .val (.long (((1 : Int32) + (py &&& (8191 : Int32))).toInt64)), .second, .val (.long (((pz &&& (8191 : Int32)) - (4096 : Int32)).toInt64)), .second, .val (.double (FP.l2d (((px &&& (8191 : Int32)) - (4096 : Int32)).toInt64))), .second, .val (.double (FP.l2d (((1 : Int32) + (py &&& (8191 : Int32))).toInt64))), .second, .val (.double (FP.ddiv (FP.l2d (((pz &&& (8191 : Int32)) - (4096 : Int32)).toInt64)) (4616189618054758400 : UInt64))), .second, .val (.ref b1), .val (.ref b3), .unset] [(.long ((4 : Int64) * (((px &&& (8191 : Int32)) - (4096 : Int32)).toInt64)))])) _
    refine XS.lload X4.here hx rfl (hb hby at_86) rfl ?_
    show Steps p.tables e below (T4.setTop (mkF m 88 #[.val (.int pt), .val (.int pr), .val (.int px), .val (.int py), .val (.int pz), .val (.long (((px &&& (8191 : Int32)) - (4096 : Int32)).toInt64)), .second, .val (.long (((1 : Int32) + (py &&& (8191 : Int32))).toInt64)), .second, .val (.long (((pz &&& (8191 : Int32)) - (4096 : Int32)).toInt64)), .second, .val (.double (FP.l2d (((px &&& (8191 : Int32)) - (4096 : Int32)).toInt64))), .second, .val (.double (FP.l2d (((1 : Int32) + (py &&& (8191 : Int32))).toInt64))), .second, .val (.double (FP.ddiv (FP.l2d (((pz &&& (8191 : Int32)) - (4096 : Int32)).toInt64)) (4616189618054758400 : UInt64))), .second, .val (.ref b1), .val (.ref b3), .unset] [(.long (((pz &&& (8191 : Int32)) - (4096 : Int32)).toInt64)), (.long ((4 : Int64) * (((px &&& (8191 : Int32)) - (4096 : Int32)).toInt64)))])) _
    refine XS.lload X4.here hx rfl (hb hby at_88) rfl ?_
    show Steps p.tables e below (T4.setTop (mkF m 90 #[.val (.int pt), .val (.int pr), .val (.int px), .val (.int py), .val (.int pz), .val (.long (((px &&& (8191 : Int32)) - (4096 : Int32)).toInt64)), .second, .val (.long (((1 : Int32) + (py &&& (8191 : Int32))).toInt64)), .second, .val (.long (((pz &&& (8191 : Int32)) - (4096 : Int32)).toInt64)), .second, .val (.double (FP.l2d (((px &&& (8191 : Int32)) - (4096 : Int32)).toInt64))), .second, .val (.double (FP.l2d (((1 : Int32) + (py &&& (8191 : Int32))).toInt64))), .second, .val (.double (FP.ddiv (FP.l2d (((pz &&& (8191 : Int32)) - (4096 : Int32)).toInt64)) (4616189618054758400 : UInt64))), .second, .val (.ref b1), .val (.ref b3), .unset] [(.long (((1 : Int32) + (py &&& (8191 : Int32))).toInt64)), (.long (((pz &&& (8191 : Int32)) - (4096 : Int32)).toInt64)), (.long ((4 : Int64) * (((px &&& (8191 : Int32)) - (4096 : Int32)).toInt64)))])) _
    refine XS.lmul X4.here hx rfl (hb hby at_90) rfl ?_
    show Steps p.tables e below (T4.setTop (mkF m 91 #[.val (.int pt), .val (.int pr), .val (.int px), .val (.int py), .val (.int pz), .val (.long (((px &&& (8191 : Int32)) - (4096 : Int32)).toInt64)), .second, .val (.long (((1 : Int32) + (py &&& (8191 : Int32))).toInt64)), .second, .val (.long (((pz &&& (8191 : Int32)) - (4096 : Int32)).toInt64)), .second, .val (.double (FP.l2d (((px &&& (8191 : Int32)) - (4096 : Int32)).toInt64))), .second, .val (.double (FP.l2d (((1 : Int32) + (py &&& (8191 : Int32))).toInt64))), .second, .val (.double (FP.ddiv (FP.l2d (((pz &&& (8191 : Int32)) - (4096 : Int32)).toInt64)) (4616189618054758400 : UInt64))), .second, .val (.ref b1), .val (.ref b3), .unset] [(.long ((((pz &&& (8191 : Int32)) - (4096 : Int32)).toInt64) * (((1 : Int32) + (py &&& (8191 : Int32))).toInt64))), (.long ((4 : Int64) * (((px &&& (8191 : Int32)) - (4096 : Int32)).toInt64)))])) _
    refine XS.lcmp X4.here hx rfl (hb hby at_91) rfl ?_
    show Steps p.tables e below (T4.setTop (mkF m 92 #[.val (.int pt), .val (.int pr), .val (.int px), .val (.int py), .val (.int pz), .val (.long (((px &&& (8191 : Int32)) - (4096 : Int32)).toInt64)), .second, .val (.long (((1 : Int32) + (py &&& (8191 : Int32))).toInt64)), .second, .val (.long (((pz &&& (8191 : Int32)) - (4096 : Int32)).toInt64)), .second, .val (.double (FP.l2d (((px &&& (8191 : Int32)) - (4096 : Int32)).toInt64))), .second, .val (.double (FP.l2d (((1 : Int32) + (py &&& (8191 : Int32))).toInt64))), .second, .val (.double (FP.ddiv (FP.l2d (((pz &&& (8191 : Int32)) - (4096 : Int32)).toInt64)) (4616189618054758400 : UInt64))), .second, .val (.ref b1), .val (.ref b3), .unset] [(.int (lcmpW ((4 : Int64) * (((px &&& (8191 : Int32)) - (4096 : Int32)).toInt64)) ((((pz &&& (8191 : Int32)) - (4096 : Int32)).toInt64) * (((1 : Int32) + (py &&& (8191 : Int32))).toInt64))))])) _
    refine XS.ifNo X4.here hx rfl (hb hby at_92) rfl ((if0 _ _).trans (flt (hc92 : ¬ ((lcmpW ((4 : Int64) * (((px &&& (8191 : Int32)) - (4096 : Int32)).toInt64)) ((((pz &&& (8191 : Int32)) - (4096 : Int32)).toInt64) * (((1 : Int32) + (py &&& (8191 : Int32))).toInt64))) < (0 : Int32)))).1) ?_
    show Steps p.tables e below (T4.setTop (mkF m 95 #[.val (.int pt), .val (.int pr), .val (.int px), .val (.int py), .val (.int pz), .val (.long (((px &&& (8191 : Int32)) - (4096 : Int32)).toInt64)), .second, .val (.long (((1 : Int32) + (py &&& (8191 : Int32))).toInt64)), .second, .val (.long (((pz &&& (8191 : Int32)) - (4096 : Int32)).toInt64)), .second, .val (.double (FP.l2d (((px &&& (8191 : Int32)) - (4096 : Int32)).toInt64))), .second, .val (.double (FP.l2d (((1 : Int32) + (py &&& (8191 : Int32))).toInt64))), .second, .val (.double (FP.ddiv (FP.l2d (((pz &&& (8191 : Int32)) - (4096 : Int32)).toInt64)) (4616189618054758400 : UInt64))), .second, .val (.ref b1), .val (.ref b3), .unset] [])) _
    refine XS.iconst X4.here hx rfl (hb hby at_95) ?_
    show Steps p.tables e below (T4.setTop (mkF m 96 #[.val (.int pt), .val (.int pr), .val (.int px), .val (.int py), .val (.int pz), .val (.long (((px &&& (8191 : Int32)) - (4096 : Int32)).toInt64)), .second, .val (.long (((1 : Int32) + (py &&& (8191 : Int32))).toInt64)), .second, .val (.long (((pz &&& (8191 : Int32)) - (4096 : Int32)).toInt64)), .second, .val (.double (FP.l2d (((px &&& (8191 : Int32)) - (4096 : Int32)).toInt64))), .second, .val (.double (FP.l2d (((1 : Int32) + (py &&& (8191 : Int32))).toInt64))), .second, .val (.double (FP.ddiv (FP.l2d (((pz &&& (8191 : Int32)) - (4096 : Int32)).toInt64)) (4616189618054758400 : UInt64))), .second, .val (.ref b1), .val (.ref b3), .unset] [(.int (1 : Int32))])) _
    refine XS.goto X4.here hx rfl (pc0 := 96) (pc' := 100) rfl (hb hby at_96) (by decide) (by decide) ?_
    show Steps p.tables e below (T4.setTop (mkF m 100 #[.val (.int pt), .val (.int pr), .val (.int px), .val (.int py), .val (.int pz), .val (.long (((px &&& (8191 : Int32)) - (4096 : Int32)).toInt64)), .second, .val (.long (((1 : Int32) + (py &&& (8191 : Int32))).toInt64)), .second, .val (.long (((pz &&& (8191 : Int32)) - (4096 : Int32)).toInt64)), .second, .val (.double (FP.l2d (((px &&& (8191 : Int32)) - (4096 : Int32)).toInt64))), .second, .val (.double (FP.l2d (((1 : Int32) + (py &&& (8191 : Int32))).toInt64))), .second, .val (.double (FP.ddiv (FP.l2d (((pz &&& (8191 : Int32)) - (4096 : Int32)).toInt64)) (4616189618054758400 : UInt64))), .second, .val (.ref b1), .val (.ref b3), .unset] [(.int (1 : Int32))])) _
    refine XS.istore X4.here hx rfl (hb hby at_100) rfl (l' := #[.val (.int pt), .val (.int pr), .val (.int px), .val (.int py), .val (.int pz), .val (.long (((px &&& (8191 : Int32)) - (4096 : Int32)).toInt64)), .second, .val (.long (((1 : Int32) + (py &&& (8191 : Int32))).toInt64)), .second, .val (.long (((pz &&& (8191 : Int32)) - (4096 : Int32)).toInt64)), .second, .val (.double (FP.l2d (((px &&& (8191 : Int32)) - (4096 : Int32)).toInt64))), .second, .val (.double (FP.l2d (((1 : Int32) + (py &&& (8191 : Int32))).toInt64))), .second, .val (.double (FP.ddiv (FP.l2d (((pz &&& (8191 : Int32)) - (4096 : Int32)).toInt64)) (4616189618054758400 : UInt64))), .second, .val (.ref b1), .val (.ref b3), .val (.int (1 : Int32))]) rfl ?_
    show Steps p.tables e below (T4.setTop (mkF m 102 #[.val (.int pt), .val (.int pr), .val (.int px), .val (.int py), .val (.int pz), .val (.long (((px &&& (8191 : Int32)) - (4096 : Int32)).toInt64)), .second, .val (.long (((1 : Int32) + (py &&& (8191 : Int32))).toInt64)), .second, .val (.long (((pz &&& (8191 : Int32)) - (4096 : Int32)).toInt64)), .second, .val (.double (FP.l2d (((px &&& (8191 : Int32)) - (4096 : Int32)).toInt64))), .second, .val (.double (FP.l2d (((1 : Int32) + (py &&& (8191 : Int32))).toInt64))), .second, .val (.double (FP.ddiv (FP.l2d (((pz &&& (8191 : Int32)) - (4096 : Int32)).toInt64)) (4616189618054758400 : UInt64))), .second, .val (.ref b1), .val (.ref b3), .val (.int (1 : Int32))] [])) _
    refine XS.aload X4.here hx rfl (hb hby at_102) rfl rfl ?_
    show Steps p.tables e below (T4.setTop (mkF m 104 #[.val (.int pt), .val (.int pr), .val (.int px), .val (.int py), .val (.int pz), .val (.long (((px &&& (8191 : Int32)) - (4096 : Int32)).toInt64)), .second, .val (.long (((1 : Int32) + (py &&& (8191 : Int32))).toInt64)), .second, .val (.long (((pz &&& (8191 : Int32)) - (4096 : Int32)).toInt64)), .second, .val (.double (FP.l2d (((px &&& (8191 : Int32)) - (4096 : Int32)).toInt64))), .second, .val (.double (FP.l2d (((1 : Int32) + (py &&& (8191 : Int32))).toInt64))), .second, .val (.double (FP.ddiv (FP.l2d (((pz &&& (8191 : Int32)) - (4096 : Int32)).toInt64)) (4616189618054758400 : UInt64))), .second, .val (.ref b1), .val (.ref b3), .val (.int (1 : Int32))] [(.ref b1)])) _
    refine XS.aload X4.here hx rfl (hb hby at_104) rfl rfl ?_
    show Steps p.tables e below (T4.setTop (mkF m 106 #[.val (.int pt), .val (.int pr), .val (.int px), .val (.int py), .val (.int pz), .val (.long (((px &&& (8191 : Int32)) - (4096 : Int32)).toInt64)), .second, .val (.long (((1 : Int32) + (py &&& (8191 : Int32))).toInt64)), .second, .val (.long (((pz &&& (8191 : Int32)) - (4096 : Int32)).toInt64)), .second, .val (.double (FP.l2d (((px &&& (8191 : Int32)) - (4096 : Int32)).toInt64))), .second, .val (.double (FP.l2d (((1 : Int32) + (py &&& (8191 : Int32))).toInt64))), .second, .val (.double (FP.ddiv (FP.l2d (((pz &&& (8191 : Int32)) - (4096 : Int32)).toInt64)) (4616189618054758400 : UInt64))), .second, .val (.ref b1), .val (.ref b3), .val (.int (1 : Int32))] [(.ref b3), (.ref b1)])) _
    refine st5.trans ?_
    show Steps p.tables e below (T5.setTop (mkF m 109 #[.val (.int pt), .val (.int pr), .val (.int px), .val (.int py), .val (.int pz), .val (.long (((px &&& (8191 : Int32)) - (4096 : Int32)).toInt64)), .second, .val (.long (((1 : Int32) + (py &&& (8191 : Int32))).toInt64)), .second, .val (.long (((pz &&& (8191 : Int32)) - (4096 : Int32)).toInt64)), .second, .val (.double (FP.l2d (((px &&& (8191 : Int32)) - (4096 : Int32)).toInt64))), .second, .val (.double (FP.l2d (((1 : Int32) + (py &&& (8191 : Int32))).toInt64))), .second, .val (.double (FP.ddiv (FP.l2d (((pz &&& (8191 : Int32)) - (4096 : Int32)).toInt64)) (4616189618054758400 : UInt64))), .second, .val (.ref b1), .val (.ref b3), .val (.int (1 : Int32))] [(.int (1 : Int32))])) _
    refine XS.iload X5.here hx rfl (hb hby at_109) rfl ?_
    show Steps p.tables e below (T5.setTop (mkF m 111 #[.val (.int pt), .val (.int pr), .val (.int px), .val (.int py), .val (.int pz), .val (.long (((px &&& (8191 : Int32)) - (4096 : Int32)).toInt64)), .second, .val (.long (((1 : Int32) + (py &&& (8191 : Int32))).toInt64)), .second, .val (.long (((pz &&& (8191 : Int32)) - (4096 : Int32)).toInt64)), .second, .val (.double (FP.l2d (((px &&& (8191 : Int32)) - (4096 : Int32)).toInt64))), .second, .val (.double (FP.l2d (((1 : Int32) + (py &&& (8191 : Int32))).toInt64))), .second, .val (.double (FP.ddiv (FP.l2d (((pz &&& (8191 : Int32)) - (4096 : Int32)).toInt64)) (4616189618054758400 : UInt64))), .second, .val (.ref b1), .val (.ref b3), .val (.int (1 : Int32))] [(.int (1 : Int32)), (.int (1 : Int32))])) _
    refine XS.icmpNo X5.here hx rfl (hb hby at_111) rfl (teq (by decide : (1 : Int32) = (1 : Int32))).2 ?_
    show Steps p.tables e below (T5.setTop (mkF m 114 #[.val (.int pt), .val (.int pr), .val (.int px), .val (.int py), .val (.int pz), .val (.long (((px &&& (8191 : Int32)) - (4096 : Int32)).toInt64)), .second, .val (.long (((1 : Int32) + (py &&& (8191 : Int32))).toInt64)), .second, .val (.long (((pz &&& (8191 : Int32)) - (4096 : Int32)).toInt64)), .second, .val (.double (FP.l2d (((px &&& (8191 : Int32)) - (4096 : Int32)).toInt64))), .second, .val (.double (FP.l2d (((1 : Int32) + (py &&& (8191 : Int32))).toInt64))), .second, .val (.double (FP.ddiv (FP.l2d (((pz &&& (8191 : Int32)) - (4096 : Int32)).toInt64)) (4616189618054758400 : UInt64))), .second, .val (.ref b1), .val (.ref b3), .val (.int (1 : Int32))] [])) _
    refine XS.iconst X5.here hx rfl (hb hby at_114) ?_
    show Steps p.tables e below (T5.setTop (mkF m 115 #[.val (.int pt), .val (.int pr), .val (.int px), .val (.int py), .val (.int pz), .val (.long (((px &&& (8191 : Int32)) - (4096 : Int32)).toInt64)), .second, .val (.long (((1 : Int32) + (py &&& (8191 : Int32))).toInt64)), .second, .val (.long (((pz &&& (8191 : Int32)) - (4096 : Int32)).toInt64)), .second, .val (.double (FP.l2d (((px &&& (8191 : Int32)) - (4096 : Int32)).toInt64))), .second, .val (.double (FP.l2d (((1 : Int32) + (py &&& (8191 : Int32))).toInt64))), .second, .val (.double (FP.ddiv (FP.l2d (((pz &&& (8191 : Int32)) - (4096 : Int32)).toInt64)) (4616189618054758400 : UInt64))), .second, .val (.ref b1), .val (.ref b3), .val (.int (1 : Int32))] [(.int (1 : Int32))])) _
    refine XS.goto X5.here hx rfl (pc0 := 115) (pc' := 119) rfl (hb hby at_115) (by decide) (by decide) ?_
    show Steps p.tables e below (T5.setTop (mkF m 119 #[.val (.int pt), .val (.int pr), .val (.int px), .val (.int py), .val (.int pz), .val (.long (((px &&& (8191 : Int32)) - (4096 : Int32)).toInt64)), .second, .val (.long (((1 : Int32) + (py &&& (8191 : Int32))).toInt64)), .second, .val (.long (((pz &&& (8191 : Int32)) - (4096 : Int32)).toInt64)), .second, .val (.double (FP.l2d (((px &&& (8191 : Int32)) - (4096 : Int32)).toInt64))), .second, .val (.double (FP.l2d (((1 : Int32) + (py &&& (8191 : Int32))).toInt64))), .second, .val (.double (FP.ddiv (FP.l2d (((pz &&& (8191 : Int32)) - (4096 : Int32)).toInt64)) (4616189618054758400 : UInt64))), .second, .val (.ref b1), .val (.ref b3), .val (.int (1 : Int32))] [(.int (1 : Int32))])) _
    exact retN X5 hx (t := .boolean) Bd.returns (by simp) (hb hby at_119) hr
  · show QL n0 _ T5.heap _
    rw [eq5]
    exact ⟨rfl, N5⟩
set_option maxRecDepth 65536 in
set_option maxHeartbeats 40000000 in
theorem rm02 (l : Launch) (Z : State) (a0 : Array Value) (hw : ∀ d ∈ tables_1, d.before a0 Z = true) (ws : List Jvm.Cond) (pt pr px py pz : Int32) (h0 : Heap) (n0 : Nat) (Z0 : n0 ≤ h0.size) (vc : Int32) (hvc : cmpValue (FP.dcmp (FP.ddiv (FP.l2d (((px &&& (8191 : Int32)) - (4096 : Int32)).toInt64)) (FP.l2d (((1 : Int32) + (py &&& (8191 : Int32))).toInt64))) (FP.ddiv (FP.l2d (((pz &&& (8191 : Int32)) - (4096 : Int32)).toInt64)) (4616189618054758400 : UInt64))) .l = vc) (hc : vc < (0 : Int32)) (hc92 : (lcmpW ((4 : Int64) * (((px &&& (8191 : Int32)) - (4096 : Int32)).toInt64)) ((((pz &&& (8191 : Int32)) - (4096 : Int32)).toInt64) * (((1 : Int32) + (py &&& (8191 : Int32))).toInt64))) < (0 : Int32)) :
    MetFree l x (head1 (Jvm.Cond.code x code maxLocals ret :: ws) room_1) (fun a U => a = #[(.int pt), (.int pr), (.int px), (.int py), (.int pz)] ∧ Z.Warmed39 U.vm ∧ U.heap = h0) (fun _ _ _ _ _ => True) (fun _ U o U' => ∃ v L, o = .returned v ∧ QL n0 v U'.heap L ∧ FrameEnd U o U' L 2 5) := by
  refine MetFree.of_bodySF (plainFor_of_name pn_com_example_latchkey_latchkey_bench_TargetIsMetByPinLaw) hisR ?_
  intro p e s m args below meth c s₁ Bd hml0 hP hK
  obtain ⟨rfl, hZ, hh⟩ := hP
  have hx := Bd.exec
  have hby := Bd.bytes
  have hml : c.maxLocals = 20 := hml0
  have hown : s.vm.findClass "com/example/latchkey/latchkey/bench/TargetIsMetByPinLaw" = some m.cls := findClass_of_methodNamed Bd.named
  have hnm := (name_of_methodNamed Bd.named Bd.method).1
  have X0 : Stand p l e room_1 s m #[(.int pt), (.int pr), (.int px), (.int py), (.int pz)] below meth c s₁ [] 0 0 := Stand.of_body Bd
  have e0 : s₁.heap = h0 := by rw [← hh, Bd.state]; rfl
  have N0 := Fr.nil n0
  have pre0 : ∀ t, Steps p.tables e below (s₁.setTop (mkF m 0 #[.val (.int pt), .val (.int pr), .val (.int px), .val (.int py), .val (.int pz), .unset, .unset, .unset, .unset, .unset, .unset, .unset, .unset, .unset, .unset, .unset, .unset, .unset, .unset, .unset] [])) t → Steps p.tables e below (s₁.setTop (entryFrame m #[(.int pt), (.int pr), (.int px), (.int py), (.int pz)] maxLocals)) t := fun t k => castTop (ef_code m pt pr px py pz) k
  obtain ⟨T1, h1, X1, e1, E1, A1, D1, -, st1⟩ := newO X0 hx hZ hown (hw _ (List.mem_of_getElem? (i := 1) rfl)) (hw _ (List.mem_of_getElem? (i := 2) rfl)) (hw _ (List.mem_of_getElem? (i := 3) rfl)) e0 (g := (mkF m 54 #[.val (.int pt), .val (.int pr), .val (.int px), .val (.int py), .val (.int pz), .val (.long (((px &&& (8191 : Int32)) - (4096 : Int32)).toInt64)), .second, .val (.long (((1 : Int32) + (py &&& (8191 : Int32))).toInt64)), .second, .val (.long (((pz &&& (8191 : Int32)) - (4096 : Int32)).toInt64)), .second, .val (.double (FP.l2d (((px &&& (8191 : Int32)) - (4096 : Int32)).toInt64))), .second, .val (.double (FP.l2d (((1 : Int32) + (py &&& (8191 : Int32))).toInt64))), .second, .val (.double (FP.ddiv (FP.l2d (((pz &&& (8191 : Int32)) - (4096 : Int32)).toInt64)) (4616189618054758400 : UInt64))), .second, .unset, .unset, .unset] [])) rfl (hb hby at_54) (by decide) (by decide)
  obtain ⟨b1, g1⟩ : ∃ z, z = h0.size := ⟨_, rfl⟩
  rw [← g1] at A1 D1 st1
  have g_b1 : n0 ≤ b1 := Nat.le_trans Z0 (Nat.le_of_eq g1.symm)
  have SZ1 := Nat.le_trans Z0 E1.1
  have F1_threads : Fld Z h1 b1 "com/example/latchkey/latchkey/bench/RmiComparison$Target" "threads" "I" (.int (0 : Int32)) := D1 (Or.inr (hw _ (List.mem_of_getElem? (i := 16) rfl))) (ty := .int) (by decide)
  have F1_ratio : Fld Z h1 b1 "com/example/latchkey/latchkey/bench/RmiComparison$Target" "ratio" "D" (.double (0 : UInt64)) := D1 (Or.inr (hw _ (List.mem_of_getElem? (i := 18) rfl))) (ty := .double) (by decide)
  obtain ⟨_, _, ⟨T2, L2, k2, n2⟩, -, X2, ⟨Lc2, hQ2, l2, y2, z2⟩, st2⟩ := X1.specialBack hx (y := (⟨"com/example/latchkey/latchkey/bench/RmiComparison$Target", "<init>", "(ID)V"⟩ : MethodName)) rfl hown (mvT hZ (hw _ (List.mem_of_getElem? (i := 4) rfl))) (mvT hZ (hw _ (List.mem_of_getElem? (i := 5) rfl))) (mvT hZ (hw _ (List.mem_of_getElem? (i := 6) rfl))) (by decide) (backOf (W := 1) (rmT l Z a0 hw [] b1 pt (FP.ddiv (FP.l2d (((pz &&& (8191 : Int32)) - (4096 : Int32)).toInt64)) (4616189618054758400 : UInt64)) h1 n0 SZ1 A1 F1_threads F1_ratio g_b1) hZ (hw _ (List.mem_of_getElem? (i := 6) rfl)) (hw _ (List.mem_of_getElem? (i := 3) rfl)) (by decide) (by decide)) (g := (mkF m 61 #[.val (.int pt), .val (.int pr), .val (.int px), .val (.int py), .val (.int pz), .val (.long (((px &&& (8191 : Int32)) - (4096 : Int32)).toInt64)), .second, .val (.long (((1 : Int32) + (py &&& (8191 : Int32))).toInt64)), .second, .val (.long (((pz &&& (8191 : Int32)) - (4096 : Int32)).toInt64)), .second, .val (.double (FP.l2d (((px &&& (8191 : Int32)) - (4096 : Int32)).toInt64))), .second, .val (.double (FP.l2d (((1 : Int32) + (py &&& (8191 : Int32))).toInt64))), .second, .val (.double (FP.ddiv (FP.l2d (((pz &&& (8191 : Int32)) - (4096 : Int32)).toInt64)) (4616189618054758400 : UInt64))), .second, .unset, .unset, .unset] [(.double (FP.ddiv (FP.l2d (((pz &&& (8191 : Int32)) - (4096 : Int32)).toInt64)) (4616189618054758400 : UInt64))), (.int pt), (.ref b1), (.ref b1)])) rfl (by rw [hml]; rfl) (Steps.refl _) (a := b1) (argsL := [(.int pt), (.double (FP.ddiv (FP.l2d (((pz &&& (8191 : Int32)) - (4096 : Int32)).toInt64)) (4616189618054758400 : UInt64)))]) (rest := [(.ref b1)]) (lenOf pd__ID_V rfl) rfl (by show 2 * 0 + _ ≤ _; exact Nat.le_of_eq rfl) (hb hby at_61) (fun _ _ => ⟨rfl, e1, (by decide : 1 + 0 ≤ _), (by decide : 2 + 0 ≤ _)⟩)
  dsimp only [Pt.U, Pt.locs, Pt.cells, Pt.slots] at X2 l2 y2 z2 st2 hQ2
  subst l2 y2 z2
  obtain ⟨rfl, N2q, K2q, E2q, F2q0, F2q1⟩ := hQ2
  have c2_0 := A1.keep K2q
  have SZ2 := Nat.le_trans SZ1 K2q.1
  have N2 := Fr.app N0 N2q
  obtain ⟨T3, h3, X3, e3, E3, A3, D3, -, st3⟩ := newO X2 hx hZ hown (hw _ (List.mem_of_getElem? (i := 19) rfl)) (hw _ (List.mem_of_getElem? (i := 20) rfl)) (hw _ (List.mem_of_getElem? (i := 21) rfl)) rfl (g := (mkF m 66 #[.val (.int pt), .val (.int pr), .val (.int px), .val (.int py), .val (.int pz), .val (.long (((px &&& (8191 : Int32)) - (4096 : Int32)).toInt64)), .second, .val (.long (((1 : Int32) + (py &&& (8191 : Int32))).toInt64)), .second, .val (.long (((pz &&& (8191 : Int32)) - (4096 : Int32)).toInt64)), .second, .val (.double (FP.l2d (((px &&& (8191 : Int32)) - (4096 : Int32)).toInt64))), .second, .val (.double (FP.l2d (((1 : Int32) + (py &&& (8191 : Int32))).toInt64))), .second, .val (.double (FP.ddiv (FP.l2d (((pz &&& (8191 : Int32)) - (4096 : Int32)).toInt64)) (4616189618054758400 : UInt64))), .second, .val (.ref b1), .unset, .unset] [])) rfl (hb hby at_66) (by decide) (by decide)
  obtain ⟨b3, g3⟩ : ∃ z, z = T2.heap.size := ⟨_, rfl⟩
  rw [← g3] at A3 D3 st3
  have g_b3 : n0 ≤ b3 := Nat.le_trans SZ2 (Nat.le_of_eq g3.symm)
  have ne_b1_b3 : b1 ≠ b3 := Nat.ne_of_lt (Nat.lt_of_lt_of_le E2q.lt (Nat.le_of_eq g3.symm))
  have c3_0 := E2q.ext E3
  have c3_1 := F2q0.ext E3
  have c3_2 := F2q1.ext E3
  have SZ3 := Nat.le_trans SZ2 E3.1
  have F3_threads : Fld Z h3 b3 "com/example/latchkey/latchkey/bench/RmiComparison$Result" "threads" "I" (.int (0 : Int32)) := D3 (Or.inr (hw _ (List.mem_of_getElem? (i := 27) rfl))) (ty := .int) (by decide)
  have F3_latchkey : Fld Z h3 b3 "com/example/latchkey/latchkey/bench/RmiComparison$Result" "latchkey" "D" (.double (0 : UInt64)) := D3 (Or.inr (hw _ (List.mem_of_getElem? (i := 29) rfl))) (ty := .double) (by decide)
  have F3_rmi : Fld Z h3 b3 "com/example/latchkey/latchkey/bench/RmiComparison$Result" "rmi" "D" (.double (0 : UInt64)) := D3 (Or.inr (hw _ (List.mem_of_getElem? (i := 31) rfl))) (ty := .double) (by decide)
  obtain ⟨_, _, ⟨T4, L4, k4, n4⟩, -, X4, ⟨Lc4, hQ4, l4, y4, z4⟩, st4⟩ := X3.specialBack hx (y := (⟨"com/example/latchkey/latchkey/bench/RmiComparison$Result", "<init>", "(IDD)V"⟩ : MethodName)) rfl hown (mvT hZ (hw _ (List.mem_of_getElem? (i := 22) rfl))) (mvT hZ (hw _ (List.mem_of_getElem? (i := 23) rfl))) (mvT hZ (hw _ (List.mem_of_getElem? (i := 24) rfl))) (by decide) (backOf (W := 1) (rmS l Z a0 hw [] b3 pr (FP.l2d (((px &&& (8191 : Int32)) - (4096 : Int32)).toInt64)) (FP.l2d (((1 : Int32) + (py &&& (8191 : Int32))).toInt64)) h3 n0 SZ3 A3 F3_threads F3_latchkey F3_rmi g_b3) hZ (hw _ (List.mem_of_getElem? (i := 24) rfl)) (hw _ (List.mem_of_getElem? (i := 21) rfl)) (by decide) (by decide)) (g := (mkF m 75 #[.val (.int pt), .val (.int pr), .val (.int px), .val (.int py), .val (.int pz), .val (.long (((px &&& (8191 : Int32)) - (4096 : Int32)).toInt64)), .second, .val (.long (((1 : Int32) + (py &&& (8191 : Int32))).toInt64)), .second, .val (.long (((pz &&& (8191 : Int32)) - (4096 : Int32)).toInt64)), .second, .val (.double (FP.l2d (((px &&& (8191 : Int32)) - (4096 : Int32)).toInt64))), .second, .val (.double (FP.l2d (((1 : Int32) + (py &&& (8191 : Int32))).toInt64))), .second, .val (.double (FP.ddiv (FP.l2d (((pz &&& (8191 : Int32)) - (4096 : Int32)).toInt64)) (4616189618054758400 : UInt64))), .second, .val (.ref b1), .unset, .unset] [(.double (FP.l2d (((1 : Int32) + (py &&& (8191 : Int32))).toInt64))), (.double (FP.l2d (((px &&& (8191 : Int32)) - (4096 : Int32)).toInt64))), (.int pr), (.ref b3), (.ref b3)])) rfl (by rw [hml]; rfl) (Steps.refl _) (a := b3) (argsL := [(.int pr), (.double (FP.l2d (((px &&& (8191 : Int32)) - (4096 : Int32)).toInt64))), (.double (FP.l2d (((1 : Int32) + (py &&& (8191 : Int32))).toInt64)))]) (rest := [(.ref b3)]) (lenOf pd__IDD_V rfl) rfl (by show 2 * 0 + _ ≤ _; exact Nat.le_of_eq rfl) (hb hby at_75) (fun _ _ => ⟨rfl, e3, (by decide : 2 + 0 ≤ _), (by decide : 5 + 0 ≤ _)⟩)
  dsimp only [Pt.U, Pt.locs, Pt.cells, Pt.slots] at X4 l4 y4 z4 st4 hQ4
  subst l4 y4 z4
  obtain ⟨rfl, N4q, K4q, E4q, F4q0, F4q1, F4q2⟩ := hQ4
  have c4_0 := c3_0.keep K4q
  have c4_1 := c3_1.keep K4q (by simp only [List.mem_cons, List.not_mem_nil, or_false, not_or]; exact ne_b1_b3)
  have c4_2 := c3_2.keep K4q (by simp only [List.mem_cons, List.not_mem_nil, or_false, not_or]; exact ne_b1_b3)
  have c4_3 := A3.keep K4q
  have SZ4 := Nat.le_trans SZ3 K4q.1
  have N4 := Fr.app N2 N4q
  obtain ⟨cq5, kq5, q5a, q5b, q5c⟩ := isOf hZ rfl c4_0
  obtain ⟨_, _, ⟨T5, L5, k5, n5⟩, -, X5, ⟨Lc5, hQ5, l5, y5, z5⟩, st5⟩ := X4.virtualBack hx (y := (⟨"com/example/latchkey/latchkey/bench/RmiComparison$Target", "isMetBy", "(Lcom/example/latchkey/latchkey/bench/RmiComparison$Result;)Z"⟩ : MethodName)) (z := (⟨"com/example/latchkey/latchkey/bench/RmiComparison$Target", "isMetBy", "(Lcom/example/latchkey/latchkey/bench/RmiComparison$Result;)Z"⟩ : MethodName)) hown (mvT hZ (hw _ (List.mem_of_getElem? (i := 33) rfl))) (mvT hZ (hw _ (List.mem_of_getElem? (i := 34) rfl))) (notFace_of_selects (args := #[]) (mvT hZ (hw _ (List.mem_of_getElem? (i := 36) rfl)))) (mvT hZ (hw _ (List.mem_of_getElem? (i := 36) rfl))) (mvT hZ (hw _ (List.mem_of_getElem? (i := 35) rfl))) (by decide) (backOf (W := 0) (rmMf l Z a0 hw [] b1 b3 (FP.l2d (((px &&& (8191 : Int32)) - (4096 : Int32)).toInt64)) (FP.l2d (((1 : Int32) + (py &&& (8191 : Int32))).toInt64)) (FP.ddiv (FP.l2d (((pz &&& (8191 : Int32)) - (4096 : Int32)).toInt64)) (4616189618054758400 : UInt64)) vc T4.heap n0 SZ4 E4q c4_2 F4q1 F4q2 (own_nn px py) hvc hc) hZ (hw _ (List.mem_of_getElem? (i := 37) rfl)) (hw _ (List.mem_of_getElem? (i := 3) rfl)) (by decide) (by decide)) q5a q5c (g := (mkF m 106 #[.val (.int pt), .val (.int pr), .val (.int px), .val (.int py), .val (.int pz), .val (.long (((px &&& (8191 : Int32)) - (4096 : Int32)).toInt64)), .second, .val (.long (((1 : Int32) + (py &&& (8191 : Int32))).toInt64)), .second, .val (.long (((pz &&& (8191 : Int32)) - (4096 : Int32)).toInt64)), .second, .val (.double (FP.l2d (((px &&& (8191 : Int32)) - (4096 : Int32)).toInt64))), .second, .val (.double (FP.l2d (((1 : Int32) + (py &&& (8191 : Int32))).toInt64))), .second, .val (.double (FP.ddiv (FP.l2d (((pz &&& (8191 : Int32)) - (4096 : Int32)).toInt64)) (4616189618054758400 : UInt64))), .second, .val (.ref b1), .val (.ref b3), .val (.int (0 : Int32))] [(.ref b3), (.ref b1)])) rfl (by rw [hml]; rfl) (Steps.refl _) (argsL := [(.ref b3)]) (rest := []) (lenOf pd__Lcom_example_latchkey_latchkey_bench_RmiComparison_Result__Z rfl) rfl (by show 2 * 0 + _ ≤ _; exact Nat.le_of_eq rfl) (hb hby at_106) (fun _ _ => ⟨rfl, rfl, (by decide : 2 + 0 ≤ _), (by decide : 5 + 0 ≤ _)⟩)
  dsimp only [Pt.U, Pt.locs, Pt.cells, Pt.slots] at X5 l5 y5 z5 st5 hQ5
  subst l5 y5 z5
  obtain ⟨rfl, N5q, eq5⟩ := hQ5
  have N5 := Fr.app N4 N5q
  obtain ⟨fs, hr, hrun, hended, hW, hsame⟩ := X5.leave (v := some (.int (1 : Int32))) (fun h => by rw [Bd.returns] at h; cases h)
  refine ⟨_, _, pre0 _ ?_, hrun, hended, _, _, rfl, ?_, ⟨_, rfl⟩, hW, hsame.mono (by decide) (by decide)⟩
  · show Steps p.tables e below (s₁.setTop (mkF m 0 #[.val (.int pt), .val (.int pr), .val (.int px), .val (.int py), .val (.int pz), .unset, .unset, .unset, .unset, .unset, .unset, .unset, .unset, .unset, .unset, .unset, .unset, .unset, .unset, .unset] [])) _
    refine XS.iloadN X0.here hx rfl (hb hby at_0) rfl ?_
    show Steps p.tables e below (s₁.setTop (mkF m 1 #[.val (.int pt), .val (.int pr), .val (.int px), .val (.int py), .val (.int pz), .unset, .unset, .unset, .unset, .unset, .unset, .unset, .unset, .unset, .unset, .unset, .unset, .unset, .unset, .unset] [(.int px)])) _
    refine XS.sipush X0.here hx rfl (hb hby at_1) ?_
    show Steps p.tables e below (s₁.setTop (mkF m 4 #[.val (.int pt), .val (.int pr), .val (.int px), .val (.int py), .val (.int pz), .unset, .unset, .unset, .unset, .unset, .unset, .unset, .unset, .unset, .unset, .unset, .unset, .unset, .unset, .unset] [(.int (8191 : Int32)), (.int px)])) _
    refine XS.iand X0.here hx rfl (hb hby at_4) rfl ?_
    show Steps p.tables e below (s₁.setTop (mkF m 5 #[.val (.int pt), .val (.int pr), .val (.int px), .val (.int py), .val (.int pz), .unset, .unset, .unset, .unset, .unset, .unset, .unset, .unset, .unset, .unset, .unset, .unset, .unset, .unset, .unset] [(.int (px &&& (8191 : Int32)))])) _
    refine XS.sipush X0.here hx rfl (hb hby at_5) ?_
    show Steps p.tables e below (s₁.setTop (mkF m 8 #[.val (.int pt), .val (.int pr), .val (.int px), .val (.int py), .val (.int pz), .unset, .unset, .unset, .unset, .unset, .unset, .unset, .unset, .unset, .unset, .unset, .unset, .unset, .unset, .unset] [(.int (4096 : Int32)), (.int (px &&& (8191 : Int32)))])) _
    refine XS.isub X0.here hx rfl (hb hby at_8) rfl ?_
    show Steps p.tables e below (s₁.setTop (mkF m 9 #[.val (.int pt), .val (.int pr), .val (.int px), .val (.int py), .val (.int pz), .unset, .unset, .unset, .unset, .unset, .unset, .unset, .unset, .unset, .unset, .unset, .unset, .unset, .unset, .unset] [(.int ((px &&& (8191 : Int32)) - (4096 : Int32)))])) _
    refine XS.i2l X0.here hx rfl (hb hby at_9) rfl ?_
    show Steps p.tables e below (s₁.setTop (mkF m 10 #[.val (.int pt), .val (.int pr), .val (.int px), .val (.int py), .val (.int pz), .unset, .unset, .unset, .unset, .unset, .unset, .unset, .unset, .unset, .unset, .unset, .unset, .unset, .unset, .unset] [(.long (((px &&& (8191 : Int32)) - (4096 : Int32)).toInt64))])) _
    refine XS.lstore X0.here hx rfl (hb hby at_10) rfl (l' := #[.val (.int pt), .val (.int pr), .val (.int px), .val (.int py), .val (.int pz), .val (.long (((px &&& (8191 : Int32)) - (4096 : Int32)).toInt64)), .second, .unset, .unset, .unset, .unset, .unset, .unset, .unset, .unset, .unset, .unset, .unset, .unset, .unset]) rfl ?_
    show Steps p.tables e below (s₁.setTop (mkF m 12 #[.val (.int pt), .val (.int pr), .val (.int px), .val (.int py), .val (.int pz), .val (.long (((px &&& (8191 : Int32)) - (4096 : Int32)).toInt64)), .second, .unset, .unset, .unset, .unset, .unset, .unset, .unset, .unset, .unset, .unset, .unset, .unset, .unset] [])) _
    refine XS.iconst X0.here hx rfl (hb hby at_12) ?_
    show Steps p.tables e below (s₁.setTop (mkF m 13 #[.val (.int pt), .val (.int pr), .val (.int px), .val (.int py), .val (.int pz), .val (.long (((px &&& (8191 : Int32)) - (4096 : Int32)).toInt64)), .second, .unset, .unset, .unset, .unset, .unset, .unset, .unset, .unset, .unset, .unset, .unset, .unset, .unset] [(.int (1 : Int32))])) _
    refine XS.iloadN X0.here hx rfl (hb hby at_13) rfl ?_
    show Steps p.tables e below (s₁.setTop (mkF m 14 #[.val (.int pt), .val (.int pr), .val (.int px), .val (.int py), .val (.int pz), .val (.long (((px &&& (8191 : Int32)) - (4096 : Int32)).toInt64)), .second, .unset, .unset, .unset, .unset, .unset, .unset, .unset, .unset, .unset, .unset, .unset, .unset, .unset] [(.int py), (.int (1 : Int32))])) _
    refine XS.sipush X0.here hx rfl (hb hby at_14) ?_
    show Steps p.tables e below (s₁.setTop (mkF m 17 #[.val (.int pt), .val (.int pr), .val (.int px), .val (.int py), .val (.int pz), .val (.long (((px &&& (8191 : Int32)) - (4096 : Int32)).toInt64)), .second, .unset, .unset, .unset, .unset, .unset, .unset, .unset, .unset, .unset, .unset, .unset, .unset, .unset] [(.int (8191 : Int32)), (.int py), (.int (1 : Int32))])) _
    refine XS.iand X0.here hx rfl (hb hby at_17) rfl ?_
    show Steps p.tables e below (s₁.setTop (mkF m 18 #[.val (.int pt), .val (.int pr), .val (.int px), .val (.int py), .val (.int pz), .val (.long (((px &&& (8191 : Int32)) - (4096 : Int32)).toInt64)), .second, .unset, .unset, .unset, .unset, .unset, .unset, .unset, .unset, .unset, .unset, .unset, .unset, .unset] [(.int (py &&& (8191 : Int32))), (.int (1 : Int32))])) _
    refine XS.iadd X0.here hx rfl (hb hby at_18) rfl ?_
    show Steps p.tables e below (s₁.setTop (mkF m 19 #[.val (.int pt), .val (.int pr), .val (.int px), .val (.int py), .val (.int pz), .val (.long (((px &&& (8191 : Int32)) - (4096 : Int32)).toInt64)), .second, .unset, .unset, .unset, .unset, .unset, .unset, .unset, .unset, .unset, .unset, .unset, .unset, .unset] [(.int ((1 : Int32) + (py &&& (8191 : Int32))))])) _
    refine XS.i2l X0.here hx rfl (hb hby at_19) rfl ?_
    show Steps p.tables e below (s₁.setTop (mkF m 20 #[.val (.int pt), .val (.int pr), .val (.int px), .val (.int py), .val (.int pz), .val (.long (((px &&& (8191 : Int32)) - (4096 : Int32)).toInt64)), .second, .unset, .unset, .unset, .unset, .unset, .unset, .unset, .unset, .unset, .unset, .unset, .unset, .unset] [(.long (((1 : Int32) + (py &&& (8191 : Int32))).toInt64))])) _
    refine XS.lstore X0.here hx rfl (hb hby at_20) rfl (l' := #[.val (.int pt), .val (.int pr), .val (.int px), .val (.int py), .val (.int pz), .val (.long (((px &&& (8191 : Int32)) - (4096 : Int32)).toInt64)), .second, .val (.long (((1 : Int32) + (py &&& (8191 : Int32))).toInt64)), .second, .unset, .unset, .unset, .unset, .unset, .unset, .unset, .unset, .unset, .unset, .unset]) rfl ?_
    show Steps p.tables e below (s₁.setTop (mkF m 22 #[.val (.int pt), .val (.int pr), .val (.int px), .val (.int py), .val (.int pz), .val (.long (((px &&& (8191 : Int32)) - (4096 : Int32)).toInt64)), .second, .val (.long (((1 : Int32) + (py &&& (8191 : Int32))).toInt64)), .second, .unset, .unset, .unset, .unset, .unset, .unset, .unset, .unset, .unset, .unset, .unset] [])) _
    refine XS.iload X0.here hx rfl (hb hby at_22) rfl ?_
    show Steps p.tables e below (s₁.setTop (mkF m 24 #[.val (.int pt), .val (.int pr), .val (.int px), .val (.int py), .val (.int pz), .val (.long (((px &&& (8191 : Int32)) - (4096 : Int32)).toInt64)), .second, .val (.long (((1 : Int32) + (py &&& (8191 : Int32))).toInt64)), .second, .unset, .unset, .unset, .unset, .unset, .unset, .unset, .unset, .unset, .unset, .unset] [(.int pz)])) _
    refine XS.sipush X0.here hx rfl (hb hby at_24) ?_
    show Steps p.tables e below (s₁.setTop (mkF m 27 #[.val (.int pt), .val (.int pr), .val (.int px), .val (.int py), .val (.int pz), .val (.long (((px &&& (8191 : Int32)) - (4096 : Int32)).toInt64)), .second, .val (.long (((1 : Int32) + (py &&& (8191 : Int32))).toInt64)), .second, .unset, .unset, .unset, .unset, .unset, .unset, .unset, .unset, .unset, .unset, .unset] [(.int (8191 : Int32)), (.int pz)])) _
    refine XS.iand X0.here hx rfl (hb hby at_27) rfl ?_
    show Steps p.tables e below (s₁.setTop (mkF m 28 #[.val (.int pt), .val (.int pr), .val (.int px), .val (.int py), .val (.int pz), .val (.long (((px &&& (8191 : Int32)) - (4096 : Int32)).toInt64)), .second, .val (.long (((1 : Int32) + (py &&& (8191 : Int32))).toInt64)), .second, .unset, .unset, .unset, .unset, .unset, .unset, .unset, .unset, .unset, .unset, .unset] [(.int (pz &&& (8191 : Int32)))])) _
    refine XS.sipush X0.here hx rfl (hb hby at_28) ?_
    show Steps p.tables e below (s₁.setTop (mkF m 31 #[.val (.int pt), .val (.int pr), .val (.int px), .val (.int py), .val (.int pz), .val (.long (((px &&& (8191 : Int32)) - (4096 : Int32)).toInt64)), .second, .val (.long (((1 : Int32) + (py &&& (8191 : Int32))).toInt64)), .second, .unset, .unset, .unset, .unset, .unset, .unset, .unset, .unset, .unset, .unset, .unset] [(.int (4096 : Int32)), (.int (pz &&& (8191 : Int32)))])) _
    refine XS.isub X0.here hx rfl (hb hby at_31) rfl ?_
    show Steps p.tables e below (s₁.setTop (mkF m 32 #[.val (.int pt), .val (.int pr), .val (.int px), .val (.int py), .val (.int pz), .val (.long (((px &&& (8191 : Int32)) - (4096 : Int32)).toInt64)), .second, .val (.long (((1 : Int32) + (py &&& (8191 : Int32))).toInt64)), .second, .unset, .unset, .unset, .unset, .unset, .unset, .unset, .unset, .unset, .unset, .unset] [(.int ((pz &&& (8191 : Int32)) - (4096 : Int32)))])) _
    refine XS.i2l X0.here hx rfl (hb hby at_32) rfl ?_
    show Steps p.tables e below (s₁.setTop (mkF m 33 #[.val (.int pt), .val (.int pr), .val (.int px), .val (.int py), .val (.int pz), .val (.long (((px &&& (8191 : Int32)) - (4096 : Int32)).toInt64)), .second, .val (.long (((1 : Int32) + (py &&& (8191 : Int32))).toInt64)), .second, .unset, .unset, .unset, .unset, .unset, .unset, .unset, .unset, .unset, .unset, .unset] [(.long (((pz &&& (8191 : Int32)) - (4096 : Int32)).toInt64))])) _
    refine XS.lstore X0.here hx rfl (hb hby at_33) rfl (l' := #[.val (.int pt), .val (.int pr), .val (.int px), .val (.int py), .val (.int pz), .val (.long (((px &&& (8191 : Int32)) - (4096 : Int32)).toInt64)), .second, .val (.long (((1 : Int32) + (py &&& (8191 : Int32))).toInt64)), .second, .val (.long (((pz &&& (8191 : Int32)) - (4096 : Int32)).toInt64)), .second, .unset, .unset, .unset, .unset, .unset, .unset, .unset, .unset, .unset]) rfl ?_
    show Steps p.tables e below (s₁.setTop (mkF m 35 #[.val (.int pt), .val (.int pr), .val (.int px), .val (.int py), .val (.int pz), .val (.long (((px &&& (8191 : Int32)) - (4096 : Int32)).toInt64)), .second, .val (.long (((1 : Int32) + (py &&& (8191 : Int32))).toInt64)), .second, .val (.long (((pz &&& (8191 : Int32)) - (4096 : Int32)).toInt64)), .second, .unset, .unset, .unset, .unset, .unset, .unset, .unset, .unset, .unset] [])) _
    refine XS.lload X0.here hx rfl (hb hby at_35) rfl ?_
    show Steps p.tables e below (s₁.setTop (mkF m 37 #[.val (.int pt), .val (.int pr), .val (.int px), .val (.int py), .val (.int pz), .val (.long (((px &&& (8191 : Int32)) - (4096 : Int32)).toInt64)), .second, .val (.long (((1 : Int32) + (py &&& (8191 : Int32))).toInt64)), .second, .val (.long (((pz &&& (8191 : Int32)) - (4096 : Int32)).toInt64)), .second, .unset, .unset, .unset, .unset, .unset, .unset, .unset, .unset, .unset] [(.long (((px &&& (8191 : Int32)) - (4096 : Int32)).toInt64))])) _
    refine XS.l2dS X0.here hx rfl (hb hby at_37) rfl (v := (FP.l2d (((px &&& (8191 : Int32)) - (4096 : Int32)).toInt64))) rfl ?_
    show Steps p.tables e below (s₁.setTop (mkF m 38 #[.val (.int pt), .val (.int pr), .val (.int px), .val (.int py), .val (.int pz), .val (.long (((px &&& (8191 : Int32)) - (4096 : Int32)).toInt64)), .second, .val (.long (((1 : Int32) + (py &&& (8191 : Int32))).toInt64)), .second, .val (.long (((pz &&& (8191 : Int32)) - (4096 : Int32)).toInt64)), .second, .unset, .unset, .unset, .unset, .unset, .unset, .unset, .unset, .unset] [(.double (FP.l2d (((px &&& (8191 : Int32)) - (4096 : Int32)).toInt64)))])) _
    refine XS.dstore X0.here hx rfl (hb hby at_38) rfl (l' := #[.val (.int pt), .val (.int pr), .val (.int px), .val (.int py), .val (.int pz), .val (.long (((px &&& (8191 : Int32)) - (4096 : Int32)).toInt64)), .second, .val (.long (((1 : Int32) + (py &&& (8191 : Int32))).toInt64)), .second, .val (.long (((pz &&& (8191 : Int32)) - (4096 : Int32)).toInt64)), .second, .val (.double (FP.l2d (((px &&& (8191 : Int32)) - (4096 : Int32)).toInt64))), .second, .unset, .unset, .unset, .unset, .unset, .unset, .unset]) rfl ?_
    show Steps p.tables e below (s₁.setTop (mkF m 40 #[.val (.int pt), .val (.int pr), .val (.int px), .val (.int py), .val (.int pz), .val (.long (((px &&& (8191 : Int32)) - (4096 : Int32)).toInt64)), .second, .val (.long (((1 : Int32) + (py &&& (8191 : Int32))).toInt64)), .second, .val (.long (((pz &&& (8191 : Int32)) - (4096 : Int32)).toInt64)), .second, .val (.double (FP.l2d (((px &&& (8191 : Int32)) - (4096 : Int32)).toInt64))), .second, .unset, .unset, .unset, .unset, .unset, .unset, .unset] [])) _
    refine XS.lload X0.here hx rfl (hb hby at_40) rfl ?_
    show Steps p.tables e below (s₁.setTop (mkF m 42 #[.val (.int pt), .val (.int pr), .val (.int px), .val (.int py), .val (.int pz), .val (.long (((px &&& (8191 : Int32)) - (4096 : Int32)).toInt64)), .second, .val (.long (((1 : Int32) + (py &&& (8191 : Int32))).toInt64)), .second, .val (.long (((pz &&& (8191 : Int32)) - (4096 : Int32)).toInt64)), .second, .val (.double (FP.l2d (((px &&& (8191 : Int32)) - (4096 : Int32)).toInt64))), .second, .unset, .unset, .unset, .unset, .unset, .unset, .unset] [(.long (((1 : Int32) + (py &&& (8191 : Int32))).toInt64))])) _
    refine XS.l2dS X0.here hx rfl (hb hby at_42) rfl (v := (FP.l2d (((1 : Int32) + (py &&& (8191 : Int32))).toInt64))) rfl ?_
    show Steps p.tables e below (s₁.setTop (mkF m 43 #[.val (.int pt), .val (.int pr), .val (.int px), .val (.int py), .val (.int pz), .val (.long (((px &&& (8191 : Int32)) - (4096 : Int32)).toInt64)), .second, .val (.long (((1 : Int32) + (py &&& (8191 : Int32))).toInt64)), .second, .val (.long (((pz &&& (8191 : Int32)) - (4096 : Int32)).toInt64)), .second, .val (.double (FP.l2d (((px &&& (8191 : Int32)) - (4096 : Int32)).toInt64))), .second, .unset, .unset, .unset, .unset, .unset, .unset, .unset] [(.double (FP.l2d (((1 : Int32) + (py &&& (8191 : Int32))).toInt64)))])) _
    refine XS.dstore X0.here hx rfl (hb hby at_43) rfl (l' := #[.val (.int pt), .val (.int pr), .val (.int px), .val (.int py), .val (.int pz), .val (.long (((px &&& (8191 : Int32)) - (4096 : Int32)).toInt64)), .second, .val (.long (((1 : Int32) + (py &&& (8191 : Int32))).toInt64)), .second, .val (.long (((pz &&& (8191 : Int32)) - (4096 : Int32)).toInt64)), .second, .val (.double (FP.l2d (((px &&& (8191 : Int32)) - (4096 : Int32)).toInt64))), .second, .val (.double (FP.l2d (((1 : Int32) + (py &&& (8191 : Int32))).toInt64))), .second, .unset, .unset, .unset, .unset, .unset]) rfl ?_
    show Steps p.tables e below (s₁.setTop (mkF m 45 #[.val (.int pt), .val (.int pr), .val (.int px), .val (.int py), .val (.int pz), .val (.long (((px &&& (8191 : Int32)) - (4096 : Int32)).toInt64)), .second, .val (.long (((1 : Int32) + (py &&& (8191 : Int32))).toInt64)), .second, .val (.long (((pz &&& (8191 : Int32)) - (4096 : Int32)).toInt64)), .second, .val (.double (FP.l2d (((px &&& (8191 : Int32)) - (4096 : Int32)).toInt64))), .second, .val (.double (FP.l2d (((1 : Int32) + (py &&& (8191 : Int32))).toInt64))), .second, .unset, .unset, .unset, .unset, .unset] [])) _
    refine XS.lload X0.here hx rfl (hb hby at_45) rfl ?_
    show Steps p.tables e below (s₁.setTop (mkF m 47 #[.val (.int pt), .val (.int pr), .val (.int px), .val (.int py), .val (.int pz), .val (.long (((px &&& (8191 : Int32)) - (4096 : Int32)).toInt64)), .second, .val (.long (((1 : Int32) + (py &&& (8191 : Int32))).toInt64)), .second, .val (.long (((pz &&& (8191 : Int32)) - (4096 : Int32)).toInt64)), .second, .val (.double (FP.l2d (((px &&& (8191 : Int32)) - (4096 : Int32)).toInt64))), .second, .val (.double (FP.l2d (((1 : Int32) + (py &&& (8191 : Int32))).toInt64))), .second, .unset, .unset, .unset, .unset, .unset] [(.long (((pz &&& (8191 : Int32)) - (4096 : Int32)).toInt64))])) _
    refine XS.l2dS X0.here hx rfl (hb hby at_47) rfl (v := (FP.l2d (((pz &&& (8191 : Int32)) - (4096 : Int32)).toInt64))) rfl ?_
    show Steps p.tables e below (s₁.setTop (mkF m 48 #[.val (.int pt), .val (.int pr), .val (.int px), .val (.int py), .val (.int pz), .val (.long (((px &&& (8191 : Int32)) - (4096 : Int32)).toInt64)), .second, .val (.long (((1 : Int32) + (py &&& (8191 : Int32))).toInt64)), .second, .val (.long (((pz &&& (8191 : Int32)) - (4096 : Int32)).toInt64)), .second, .val (.double (FP.l2d (((px &&& (8191 : Int32)) - (4096 : Int32)).toInt64))), .second, .val (.double (FP.l2d (((1 : Int32) + (py &&& (8191 : Int32))).toInt64))), .second, .unset, .unset, .unset, .unset, .unset] [(.double (FP.l2d (((pz &&& (8191 : Int32)) - (4096 : Int32)).toInt64)))])) _
    refine X0.ldc2DoubleC hx hown (mvT hZ (hw _ (List.mem_of_getElem? (i := 0) rfl))) (g := (mkF m 48 #[.val (.int pt), .val (.int pr), .val (.int px), .val (.int py), .val (.int pz), .val (.long (((px &&& (8191 : Int32)) - (4096 : Int32)).toInt64)), .second, .val (.long (((1 : Int32) + (py &&& (8191 : Int32))).toInt64)), .second, .val (.long (((pz &&& (8191 : Int32)) - (4096 : Int32)).toInt64)), .second, .val (.double (FP.l2d (((px &&& (8191 : Int32)) - (4096 : Int32)).toInt64))), .second, .val (.double (FP.l2d (((1 : Int32) + (py &&& (8191 : Int32))).toInt64))), .second, .unset, .unset, .unset, .unset, .unset] [(.double (FP.l2d (((pz &&& (8191 : Int32)) - (4096 : Int32)).toInt64)))])) rfl (hb hby at_48) _ ?_
    show Steps p.tables e below (s₁.setTop (mkF m 51 #[.val (.int pt), .val (.int pr), .val (.int px), .val (.int py), .val (.int pz), .val (.long (((px &&& (8191 : Int32)) - (4096 : Int32)).toInt64)), .second, .val (.long (((1 : Int32) + (py &&& (8191 : Int32))).toInt64)), .second, .val (.long (((pz &&& (8191 : Int32)) - (4096 : Int32)).toInt64)), .second, .val (.double (FP.l2d (((px &&& (8191 : Int32)) - (4096 : Int32)).toInt64))), .second, .val (.double (FP.l2d (((1 : Int32) + (py &&& (8191 : Int32))).toInt64))), .second, .unset, .unset, .unset, .unset, .unset] [(.double (4616189618054758400 : UInt64)), (.double (FP.l2d (((pz &&& (8191 : Int32)) - (4096 : Int32)).toInt64)))])) _
    refine XS.ddivS X0.here hx rfl (hb hby at_51) rfl (own_nz pz) (v := (FP.ddiv (FP.l2d (((pz &&& (8191 : Int32)) - (4096 : Int32)).toInt64)) (4616189618054758400 : UInt64))) rfl ?_
    show Steps p.tables e below (s₁.setTop (mkF m 52 #[.val (.int pt), .val (.int pr), .val (.int px), .val (.int py), .val (.int pz), .val (.long (((px &&& (8191 : Int32)) - (4096 : Int32)).toInt64)), .second, .val (.long (((1 : Int32) + (py &&& (8191 : Int32))).toInt64)), .second, .val (.long (((pz &&& (8191 : Int32)) - (4096 : Int32)).toInt64)), .second, .val (.double (FP.l2d (((px &&& (8191 : Int32)) - (4096 : Int32)).toInt64))), .second, .val (.double (FP.l2d (((1 : Int32) + (py &&& (8191 : Int32))).toInt64))), .second, .unset, .unset, .unset, .unset, .unset] [(.double (FP.ddiv (FP.l2d (((pz &&& (8191 : Int32)) - (4096 : Int32)).toInt64)) (4616189618054758400 : UInt64)))])) _
    refine XS.dstore X0.here hx rfl (hb hby at_52) rfl (l' := #[.val (.int pt), .val (.int pr), .val (.int px), .val (.int py), .val (.int pz), .val (.long (((px &&& (8191 : Int32)) - (4096 : Int32)).toInt64)), .second, .val (.long (((1 : Int32) + (py &&& (8191 : Int32))).toInt64)), .second, .val (.long (((pz &&& (8191 : Int32)) - (4096 : Int32)).toInt64)), .second, .val (.double (FP.l2d (((px &&& (8191 : Int32)) - (4096 : Int32)).toInt64))), .second, .val (.double (FP.l2d (((1 : Int32) + (py &&& (8191 : Int32))).toInt64))), .second, .val (.double (FP.ddiv (FP.l2d (((pz &&& (8191 : Int32)) - (4096 : Int32)).toInt64)) (4616189618054758400 : UInt64))), .second, .unset, .unset, .unset]) rfl ?_
    show Steps p.tables e below (s₁.setTop (mkF m 54 #[.val (.int pt), .val (.int pr), .val (.int px), .val (.int py), .val (.int pz), .val (.long (((px &&& (8191 : Int32)) - (4096 : Int32)).toInt64)), .second, .val (.long (((1 : Int32) + (py &&& (8191 : Int32))).toInt64)), .second, .val (.long (((pz &&& (8191 : Int32)) - (4096 : Int32)).toInt64)), .second, .val (.double (FP.l2d (((px &&& (8191 : Int32)) - (4096 : Int32)).toInt64))), .second, .val (.double (FP.l2d (((1 : Int32) + (py &&& (8191 : Int32))).toInt64))), .second, .val (.double (FP.ddiv (FP.l2d (((pz &&& (8191 : Int32)) - (4096 : Int32)).toInt64)) (4616189618054758400 : UInt64))), .second, .unset, .unset, .unset] [])) _
    refine st1 _ ?_
    show Steps p.tables e below (T1.setTop (mkF m 57 #[.val (.int pt), .val (.int pr), .val (.int px), .val (.int py), .val (.int pz), .val (.long (((px &&& (8191 : Int32)) - (4096 : Int32)).toInt64)), .second, .val (.long (((1 : Int32) + (py &&& (8191 : Int32))).toInt64)), .second, .val (.long (((pz &&& (8191 : Int32)) - (4096 : Int32)).toInt64)), .second, .val (.double (FP.l2d (((px &&& (8191 : Int32)) - (4096 : Int32)).toInt64))), .second, .val (.double (FP.l2d (((1 : Int32) + (py &&& (8191 : Int32))).toInt64))), .second, .val (.double (FP.ddiv (FP.l2d (((pz &&& (8191 : Int32)) - (4096 : Int32)).toInt64)) (4616189618054758400 : UInt64))), .second, .unset, .unset, .unset] [(.ref b1)])) _
    refine XS.dup X1.here hx rfl (hb hby at_57) rfl rfl ?_
    show Steps p.tables e below (T1.setTop (mkF m 58 #[.val (.int pt), .val (.int pr), .val (.int px), .val (.int py), .val (.int pz), .val (.long (((px &&& (8191 : Int32)) - (4096 : Int32)).toInt64)), .second, .val (.long (((1 : Int32) + (py &&& (8191 : Int32))).toInt64)), .second, .val (.long (((pz &&& (8191 : Int32)) - (4096 : Int32)).toInt64)), .second, .val (.double (FP.l2d (((px &&& (8191 : Int32)) - (4096 : Int32)).toInt64))), .second, .val (.double (FP.l2d (((1 : Int32) + (py &&& (8191 : Int32))).toInt64))), .second, .val (.double (FP.ddiv (FP.l2d (((pz &&& (8191 : Int32)) - (4096 : Int32)).toInt64)) (4616189618054758400 : UInt64))), .second, .unset, .unset, .unset] [(.ref b1), (.ref b1)])) _
    refine XS.iloadN X1.here hx rfl (hb hby at_58) rfl ?_
    show Steps p.tables e below (T1.setTop (mkF m 59 #[.val (.int pt), .val (.int pr), .val (.int px), .val (.int py), .val (.int pz), .val (.long (((px &&& (8191 : Int32)) - (4096 : Int32)).toInt64)), .second, .val (.long (((1 : Int32) + (py &&& (8191 : Int32))).toInt64)), .second, .val (.long (((pz &&& (8191 : Int32)) - (4096 : Int32)).toInt64)), .second, .val (.double (FP.l2d (((px &&& (8191 : Int32)) - (4096 : Int32)).toInt64))), .second, .val (.double (FP.l2d (((1 : Int32) + (py &&& (8191 : Int32))).toInt64))), .second, .val (.double (FP.ddiv (FP.l2d (((pz &&& (8191 : Int32)) - (4096 : Int32)).toInt64)) (4616189618054758400 : UInt64))), .second, .unset, .unset, .unset] [(.int pt), (.ref b1), (.ref b1)])) _
    refine XS.dload X1.here hx rfl (hb hby at_59) rfl ?_
    show Steps p.tables e below (T1.setTop (mkF m 61 #[.val (.int pt), .val (.int pr), .val (.int px), .val (.int py), .val (.int pz), .val (.long (((px &&& (8191 : Int32)) - (4096 : Int32)).toInt64)), .second, .val (.long (((1 : Int32) + (py &&& (8191 : Int32))).toInt64)), .second, .val (.long (((pz &&& (8191 : Int32)) - (4096 : Int32)).toInt64)), .second, .val (.double (FP.l2d (((px &&& (8191 : Int32)) - (4096 : Int32)).toInt64))), .second, .val (.double (FP.l2d (((1 : Int32) + (py &&& (8191 : Int32))).toInt64))), .second, .val (.double (FP.ddiv (FP.l2d (((pz &&& (8191 : Int32)) - (4096 : Int32)).toInt64)) (4616189618054758400 : UInt64))), .second, .unset, .unset, .unset] [(.double (FP.ddiv (FP.l2d (((pz &&& (8191 : Int32)) - (4096 : Int32)).toInt64)) (4616189618054758400 : UInt64))), (.int pt), (.ref b1), (.ref b1)])) _
    refine st2.trans ?_
    show Steps p.tables e below (T2.setTop (mkF m 64 #[.val (.int pt), .val (.int pr), .val (.int px), .val (.int py), .val (.int pz), .val (.long (((px &&& (8191 : Int32)) - (4096 : Int32)).toInt64)), .second, .val (.long (((1 : Int32) + (py &&& (8191 : Int32))).toInt64)), .second, .val (.long (((pz &&& (8191 : Int32)) - (4096 : Int32)).toInt64)), .second, .val (.double (FP.l2d (((px &&& (8191 : Int32)) - (4096 : Int32)).toInt64))), .second, .val (.double (FP.l2d (((1 : Int32) + (py &&& (8191 : Int32))).toInt64))), .second, .val (.double (FP.ddiv (FP.l2d (((pz &&& (8191 : Int32)) - (4096 : Int32)).toInt64)) (4616189618054758400 : UInt64))), .second, .unset, .unset, .unset] [(.ref b1)])) _
    refine XS.astore X2.here hx rfl (hb hby at_64) rfl rfl (l' := #[.val (.int pt), .val (.int pr), .val (.int px), .val (.int py), .val (.int pz), .val (.long (((px &&& (8191 : Int32)) - (4096 : Int32)).toInt64)), .second, .val (.long (((1 : Int32) + (py &&& (8191 : Int32))).toInt64)), .second, .val (.long (((pz &&& (8191 : Int32)) - (4096 : Int32)).toInt64)), .second, .val (.double (FP.l2d (((px &&& (8191 : Int32)) - (4096 : Int32)).toInt64))), .second, .val (.double (FP.l2d (((1 : Int32) + (py &&& (8191 : Int32))).toInt64))), .second, .val (.double (FP.ddiv (FP.l2d (((pz &&& (8191 : Int32)) - (4096 : Int32)).toInt64)) (4616189618054758400 : UInt64))), .second, .val (.ref b1), .unset, .unset]) rfl ?_
    show Steps p.tables e below (T2.setTop (mkF m 66 #[.val (.int pt), .val (.int pr), .val (.int px), .val (.int py), .val (.int pz), .val (.long (((px &&& (8191 : Int32)) - (4096 : Int32)).toInt64)), .second, .val (.long (((1 : Int32) + (py &&& (8191 : Int32))).toInt64)), .second, .val (.long (((pz &&& (8191 : Int32)) - (4096 : Int32)).toInt64)), .second, .val (.double (FP.l2d (((px &&& (8191 : Int32)) - (4096 : Int32)).toInt64))), .second, .val (.double (FP.l2d (((1 : Int32) + (py &&& (8191 : Int32))).toInt64))), .second, .val (.double (FP.ddiv (FP.l2d (((pz &&& (8191 : Int32)) - (4096 : Int32)).toInt64)) (4616189618054758400 : UInt64))), .second, .val (.ref b1), .unset, .unset] [])) _
    refine st3 _ ?_
    show Steps p.tables e below (T3.setTop (mkF m 69 #[.val (.int pt), .val (.int pr), .val (.int px), .val (.int py), .val (.int pz), .val (.long (((px &&& (8191 : Int32)) - (4096 : Int32)).toInt64)), .second, .val (.long (((1 : Int32) + (py &&& (8191 : Int32))).toInt64)), .second, .val (.long (((pz &&& (8191 : Int32)) - (4096 : Int32)).toInt64)), .second, .val (.double (FP.l2d (((px &&& (8191 : Int32)) - (4096 : Int32)).toInt64))), .second, .val (.double (FP.l2d (((1 : Int32) + (py &&& (8191 : Int32))).toInt64))), .second, .val (.double (FP.ddiv (FP.l2d (((pz &&& (8191 : Int32)) - (4096 : Int32)).toInt64)) (4616189618054758400 : UInt64))), .second, .val (.ref b1), .unset, .unset] [(.ref b3)])) _
    refine XS.dup X3.here hx rfl (hb hby at_69) rfl rfl ?_
    show Steps p.tables e below (T3.setTop (mkF m 70 #[.val (.int pt), .val (.int pr), .val (.int px), .val (.int py), .val (.int pz), .val (.long (((px &&& (8191 : Int32)) - (4096 : Int32)).toInt64)), .second, .val (.long (((1 : Int32) + (py &&& (8191 : Int32))).toInt64)), .second, .val (.long (((pz &&& (8191 : Int32)) - (4096 : Int32)).toInt64)), .second, .val (.double (FP.l2d (((px &&& (8191 : Int32)) - (4096 : Int32)).toInt64))), .second, .val (.double (FP.l2d (((1 : Int32) + (py &&& (8191 : Int32))).toInt64))), .second, .val (.double (FP.ddiv (FP.l2d (((pz &&& (8191 : Int32)) - (4096 : Int32)).toInt64)) (4616189618054758400 : UInt64))), .second, .val (.ref b1), .unset, .unset] [(.ref b3), (.ref b3)])) _
    refine XS.iloadN X3.here hx rfl (hb hby at_70) rfl ?_
    show Steps p.tables e below (T3.setTop (mkF m 71 #[.val (.int pt), .val (.int pr), .val (.int px), .val (.int py), .val (.int pz), .val (.long (((px &&& (8191 : Int32)) - (4096 : Int32)).toInt64)), .second, .val (.long (((1 : Int32) + (py &&& (8191 : Int32))).toInt64)), .second, .val (.long (((pz &&& (8191 : Int32)) - (4096 : Int32)).toInt64)), .second, .val (.double (FP.l2d (((px &&& (8191 : Int32)) - (4096 : Int32)).toInt64))), .second, .val (.double (FP.l2d (((1 : Int32) + (py &&& (8191 : Int32))).toInt64))), .second, .val (.double (FP.ddiv (FP.l2d (((pz &&& (8191 : Int32)) - (4096 : Int32)).toInt64)) (4616189618054758400 : UInt64))), .second, .val (.ref b1), .unset, .unset] [(.int pr), (.ref b3), (.ref b3)])) _
    refine XS.dload X3.here hx rfl (hb hby at_71) rfl ?_
    show Steps p.tables e below (T3.setTop (mkF m 73 #[.val (.int pt), .val (.int pr), .val (.int px), .val (.int py), .val (.int pz), .val (.long (((px &&& (8191 : Int32)) - (4096 : Int32)).toInt64)), .second, .val (.long (((1 : Int32) + (py &&& (8191 : Int32))).toInt64)), .second, .val (.long (((pz &&& (8191 : Int32)) - (4096 : Int32)).toInt64)), .second, .val (.double (FP.l2d (((px &&& (8191 : Int32)) - (4096 : Int32)).toInt64))), .second, .val (.double (FP.l2d (((1 : Int32) + (py &&& (8191 : Int32))).toInt64))), .second, .val (.double (FP.ddiv (FP.l2d (((pz &&& (8191 : Int32)) - (4096 : Int32)).toInt64)) (4616189618054758400 : UInt64))), .second, .val (.ref b1), .unset, .unset] [(.double (FP.l2d (((px &&& (8191 : Int32)) - (4096 : Int32)).toInt64))), (.int pr), (.ref b3), (.ref b3)])) _
    refine XS.dload X3.here hx rfl (hb hby at_73) rfl ?_
    show Steps p.tables e below (T3.setTop (mkF m 75 #[.val (.int pt), .val (.int pr), .val (.int px), .val (.int py), .val (.int pz), .val (.long (((px &&& (8191 : Int32)) - (4096 : Int32)).toInt64)), .second, .val (.long (((1 : Int32) + (py &&& (8191 : Int32))).toInt64)), .second, .val (.long (((pz &&& (8191 : Int32)) - (4096 : Int32)).toInt64)), .second, .val (.double (FP.l2d (((px &&& (8191 : Int32)) - (4096 : Int32)).toInt64))), .second, .val (.double (FP.l2d (((1 : Int32) + (py &&& (8191 : Int32))).toInt64))), .second, .val (.double (FP.ddiv (FP.l2d (((pz &&& (8191 : Int32)) - (4096 : Int32)).toInt64)) (4616189618054758400 : UInt64))), .second, .val (.ref b1), .unset, .unset] [(.double (FP.l2d (((1 : Int32) + (py &&& (8191 : Int32))).toInt64))), (.double (FP.l2d (((px &&& (8191 : Int32)) - (4096 : Int32)).toInt64))), (.int pr), (.ref b3), (.ref b3)])) _
    refine st4.trans ?_
    show Steps p.tables e below (T4.setTop (mkF m 78 #[.val (.int pt), .val (.int pr), .val (.int px), .val (.int py), .val (.int pz), .val (.long (((px &&& (8191 : Int32)) - (4096 : Int32)).toInt64)), .second, .val (.long (((1 : Int32) + (py &&& (8191 : Int32))).toInt64)), .second, .val (.long (((pz &&& (8191 : Int32)) - (4096 : Int32)).toInt64)), .second, .val (.double (FP.l2d (((px &&& (8191 : Int32)) - (4096 : Int32)).toInt64))), .second, .val (.double (FP.l2d (((1 : Int32) + (py &&& (8191 : Int32))).toInt64))), .second, .val (.double (FP.ddiv (FP.l2d (((pz &&& (8191 : Int32)) - (4096 : Int32)).toInt64)) (4616189618054758400 : UInt64))), .second, .val (.ref b1), .unset, .unset] [(.ref b3)])) _
    refine XS.astore X4.here hx rfl (hb hby at_78) rfl rfl (l' := #[.val (.int pt), .val (.int pr), .val (.int px), .val (.int py), .val (.int pz), .val (.long (((px &&& (8191 : Int32)) - (4096 : Int32)).toInt64)), .second, .val (.long (((1 : Int32) + (py &&& (8191 : Int32))).toInt64)), .second, .val (.long (((pz &&& (8191 : Int32)) - (4096 : Int32)).toInt64)), .second, .val (.double (FP.l2d (((px &&& (8191 : Int32)) - (4096 : Int32)).toInt64))), .second, .val (.double (FP.l2d (((1 : Int32) + (py &&& (8191 : Int32))).toInt64))), .second, .val (.double (FP.ddiv (FP.l2d (((pz &&& (8191 : Int32)) - (4096 : Int32)).toInt64)) (4616189618054758400 : UInt64))), .second, .val (.ref b1), .val (.ref b3), .unset]) rfl ?_
    show Steps p.tables e below (T4.setTop (mkF m 80 #[.val (.int pt), .val (.int pr), .val (.int px), .val (.int py), .val (.int pz), .val (.long (((px &&& (8191 : Int32)) - (4096 : Int32)).toInt64)), .second, .val (.long (((1 : Int32) + (py &&& (8191 : Int32))).toInt64)), .second, .val (.long (((pz &&& (8191 : Int32)) - (4096 : Int32)).toInt64)), .second, .val (.double (FP.l2d (((px &&& (8191 : Int32)) - (4096 : Int32)).toInt64))), .second, .val (.double (FP.l2d (((1 : Int32) + (py &&& (8191 : Int32))).toInt64))), .second, .val (.double (FP.ddiv (FP.l2d (((pz &&& (8191 : Int32)) - (4096 : Int32)).toInt64)) (4616189618054758400 : UInt64))), .second, .val (.ref b1), .val (.ref b3), .unset] [])) _
    refine X4.ldc2Long hx hown (mvT hZ (hw _ (List.mem_of_getElem? (i := 32) rfl))) (g := (mkF m 80 #[.val (.int pt), .val (.int pr), .val (.int px), .val (.int py), .val (.int pz), .val (.long (((px &&& (8191 : Int32)) - (4096 : Int32)).toInt64)), .second, .val (.long (((1 : Int32) + (py &&& (8191 : Int32))).toInt64)), .second, .val (.long (((pz &&& (8191 : Int32)) - (4096 : Int32)).toInt64)), .second, .val (.double (FP.l2d (((px &&& (8191 : Int32)) - (4096 : Int32)).toInt64))), .second, .val (.double (FP.l2d (((1 : Int32) + (py &&& (8191 : Int32))).toInt64))), .second, .val (.double (FP.ddiv (FP.l2d (((pz &&& (8191 : Int32)) - (4096 : Int32)).toInt64)) (4616189618054758400 : UInt64))), .second, .val (.ref b1), .val (.ref b3), .unset] [])) rfl (hb hby at_80) _ ?_
    show Steps p.tables e below (T4.setTop (mkF m 83 #[.val (.int pt), .val (.int pr), .val (.int px), .val (.int py), .val (.int pz), .val (.long (((px &&& (8191 : Int32)) - (4096 : Int32)).toInt64)), .second, .val (.long (((1 : Int32) + (py &&& (8191 : Int32))).toInt64)), .second, .val (.long (((pz &&& (8191 : Int32)) - (4096 : Int32)).toInt64)), .second, .val (.double (FP.l2d (((px &&& (8191 : Int32)) - (4096 : Int32)).toInt64))), .second, .val (.double (FP.l2d (((1 : Int32) + (py &&& (8191 : Int32))).toInt64))), .second, .val (.double (FP.ddiv (FP.l2d (((pz &&& (8191 : Int32)) - (4096 : Int32)).toInt64)) (4616189618054758400 : UInt64))), .second, .val (.ref b1), .val (.ref b3), .unset] [(.long (4 : Int64))])) _
    refine XS.lload X4.here hx rfl (hb hby at_83) rfl ?_
    show Steps p.tables e below (T4.setTop (mkF m 85 #[.val (.int pt), .val (.int pr), .val (.int px), .val (.int py), .val (.int pz), .val (.long (((px &&& (8191 : Int32)) - (4096 : Int32)).toInt64)), .second, .val (.long (((1 : Int32) + (py &&& (8191 : Int32))).toInt64)), .second, .val (.long (((pz &&& (8191 : Int32)) - (4096 : Int32)).toInt64)), .second, .val (.double (FP.l2d (((px &&& (8191 : Int32)) - (4096 : Int32)).toInt64))), .second, .val (.double (FP.l2d (((1 : Int32) + (py &&& (8191 : Int32))).toInt64))), .second, .val (.double (FP.ddiv (FP.l2d (((pz &&& (8191 : Int32)) - (4096 : Int32)).toInt64)) (4616189618054758400 : UInt64))), .second, .val (.ref b1), .val (.ref b3), .unset] [(.long (((px &&& (8191 : Int32)) - (4096 : Int32)).toInt64)), (.long (4 : Int64))])) _
    refine XS.lmul X4.here hx rfl (hb hby at_85) rfl ?_
    show Steps p.tables e below (T4.setTop (mkF m 86 #[.val (.int pt), .val (.int pr), .val (.int px), .val (.int py), .val (.int pz), .val (.long (((px &&& (8191 : Int32)) - (4096 : Int32)).toInt64)), .second, .val (.long (((1 : Int32) + (py &&& (8191 : Int32))).toInt64)), .second, .val (.long (((pz &&& (8191 : Int32)) - (4096 : Int32)).toInt64)), .second, .val (.double (FP.l2d (((px &&& (8191 : Int32)) - (4096 : Int32)).toInt64))), .second, .val (.double (FP.l2d (((1 : Int32) + (py &&& (8191 : Int32))).toInt64))), .second, .val (.double (FP.ddiv (FP.l2d (((pz &&& (8191 : Int32)) - (4096 : Int32)).toInt64)) (4616189618054758400 : UInt64))), .second, .val (.ref b1), .val (.ref b3), .unset] [(.long ((4 : Int64) * (((px &&& (8191 : Int32)) - (4096 : Int32)).toInt64)))])) _
    refine XS.lload X4.here hx rfl (hb hby at_86) rfl ?_
    show Steps p.tables e below (T4.setTop (mkF m 88 #[.val (.int pt), .val (.int pr), .val (.int px), .val (.int py), .val (.int pz), .val (.long (((px &&& (8191 : Int32)) - (4096 : Int32)).toInt64)), .second, .val (.long (((1 : Int32) + (py &&& (8191 : Int32))).toInt64)), .second, .val (.long (((pz &&& (8191 : Int32)) - (4096 : Int32)).toInt64)), .second, .val (.double (FP.l2d (((px &&& (8191 : Int32)) - (4096 : Int32)).toInt64))), .second, .val (.double (FP.l2d (((1 : Int32) + (py &&& (8191 : Int32))).toInt64))), .second, .val (.double (FP.ddiv (FP.l2d (((pz &&& (8191 : Int32)) - (4096 : Int32)).toInt64)) (4616189618054758400 : UInt64))), .second, .val (.ref b1), .val (.ref b3), .unset] [(.long (((pz &&& (8191 : Int32)) - (4096 : Int32)).toInt64)), (.long ((4 : Int64) * (((px &&& (8191 : Int32)) - (4096 : Int32)).toInt64)))])) _
    refine XS.lload X4.here hx rfl (hb hby at_88) rfl ?_
    show Steps p.tables e below (T4.setTop (mkF m 90 #[.val (.int pt), .val (.int pr), .val (.int px), .val (.int py), .val (.int pz), .val (.long (((px &&& (8191 : Int32)) - (4096 : Int32)).toInt64)), .second, .val (.long (((1 : Int32) + (py &&& (8191 : Int32))).toInt64)), .second, .val (.long (((pz &&& (8191 : Int32)) - (4096 : Int32)).toInt64)), .second, .val (.double (FP.l2d (((px &&& (8191 : Int32)) - (4096 : Int32)).toInt64))), .second, .val (.double (FP.l2d (((1 : Int32) + (py &&& (8191 : Int32))).toInt64))), .second, .val (.double (FP.ddiv (FP.l2d (((pz &&& (8191 : Int32)) - (4096 : Int32)).toInt64)) (4616189618054758400 : UInt64))), .second, .val (.ref b1), .val (.ref b3), .unset] [(.long (((1 : Int32) + (py &&& (8191 : Int32))).toInt64)), (.long (((pz &&& (8191 : Int32)) - (4096 : Int32)).toInt64)), (.long ((4 : Int64) * (((px &&& (8191 : Int32)) - (4096 : Int32)).toInt64)))])) _
    refine XS.lmul X4.here hx rfl (hb hby at_90) rfl ?_
    show Steps p.tables e below (T4.setTop (mkF m 91 #[.val (.int pt), .val (.int pr), .val (.int px), .val (.int py), .val (.int pz), .val (.long (((px &&& (8191 : Int32)) - (4096 : Int32)).toInt64)), .second, .val (.long (((1 : Int32) + (py &&& (8191 : Int32))).toInt64)), .second, .val (.long (((pz &&& (8191 : Int32)) - (4096 : Int32)).toInt64)), .second, .val (.double (FP.l2d (((px &&& (8191 : Int32)) - (4096 : Int32)).toInt64))), .second, .val (.double (FP.l2d (((1 : Int32) + (py &&& (8191 : Int32))).toInt64))), .second, .val (.double (FP.ddiv (FP.l2d (((pz &&& (8191 : Int32)) - (4096 : Int32)).toInt64)) (4616189618054758400 : UInt64))), .second, .val (.ref b1), .val (.ref b3), .unset] [(.long ((((pz &&& (8191 : Int32)) - (4096 : Int32)).toInt64) * (((1 : Int32) + (py &&& (8191 : Int32))).toInt64))), (.long ((4 : Int64) * (((px &&& (8191 : Int32)) - (4096 : Int32)).toInt64)))])) _
    refine XS.lcmp X4.here hx rfl (hb hby at_91) rfl ?_
    show Steps p.tables e below (T4.setTop (mkF m 92 #[.val (.int pt), .val (.int pr), .val (.int px), .val (.int py), .val (.int pz), .val (.long (((px &&& (8191 : Int32)) - (4096 : Int32)).toInt64)), .second, .val (.long (((1 : Int32) + (py &&& (8191 : Int32))).toInt64)), .second, .val (.long (((pz &&& (8191 : Int32)) - (4096 : Int32)).toInt64)), .second, .val (.double (FP.l2d (((px &&& (8191 : Int32)) - (4096 : Int32)).toInt64))), .second, .val (.double (FP.l2d (((1 : Int32) + (py &&& (8191 : Int32))).toInt64))), .second, .val (.double (FP.ddiv (FP.l2d (((pz &&& (8191 : Int32)) - (4096 : Int32)).toInt64)) (4616189618054758400 : UInt64))), .second, .val (.ref b1), .val (.ref b3), .unset] [(.int (lcmpW ((4 : Int64) * (((px &&& (8191 : Int32)) - (4096 : Int32)).toInt64)) ((((pz &&& (8191 : Int32)) - (4096 : Int32)).toInt64) * (((1 : Int32) + (py &&& (8191 : Int32))).toInt64))))])) _
    refine XS.ifYes X4.here hx rfl (pc0 := 92) (pc' := 99) rfl (hb hby at_92) rfl ((if0 _ _).trans (tlt (hc92 : (lcmpW ((4 : Int64) * (((px &&& (8191 : Int32)) - (4096 : Int32)).toInt64)) ((((pz &&& (8191 : Int32)) - (4096 : Int32)).toInt64) * (((1 : Int32) + (py &&& (8191 : Int32))).toInt64))) < (0 : Int32))).1) (by decide) (by decide) ?_
    show Steps p.tables e below (T4.setTop (mkF m 99 #[.val (.int pt), .val (.int pr), .val (.int px), .val (.int py), .val (.int pz), .val (.long (((px &&& (8191 : Int32)) - (4096 : Int32)).toInt64)), .second, .val (.long (((1 : Int32) + (py &&& (8191 : Int32))).toInt64)), .second, .val (.long (((pz &&& (8191 : Int32)) - (4096 : Int32)).toInt64)), .second, .val (.double (FP.l2d (((px &&& (8191 : Int32)) - (4096 : Int32)).toInt64))), .second, .val (.double (FP.l2d (((1 : Int32) + (py &&& (8191 : Int32))).toInt64))), .second, .val (.double (FP.ddiv (FP.l2d (((pz &&& (8191 : Int32)) - (4096 : Int32)).toInt64)) (4616189618054758400 : UInt64))), .second, .val (.ref b1), .val (.ref b3), .unset] [])) _
    refine XS.iconst X4.here hx rfl (hb hby at_99) ?_
    show Steps p.tables e below (T4.setTop (mkF m 100 #[.val (.int pt), .val (.int pr), .val (.int px), .val (.int py), .val (.int pz), .val (.long (((px &&& (8191 : Int32)) - (4096 : Int32)).toInt64)), .second, .val (.long (((1 : Int32) + (py &&& (8191 : Int32))).toInt64)), .second, .val (.long (((pz &&& (8191 : Int32)) - (4096 : Int32)).toInt64)), .second, .val (.double (FP.l2d (((px &&& (8191 : Int32)) - (4096 : Int32)).toInt64))), .second, .val (.double (FP.l2d (((1 : Int32) + (py &&& (8191 : Int32))).toInt64))), .second, .val (.double (FP.ddiv (FP.l2d (((pz &&& (8191 : Int32)) - (4096 : Int32)).toInt64)) (4616189618054758400 : UInt64))), .second, .val (.ref b1), .val (.ref b3), .unset] [(.int (0 : Int32))])) _
    refine XS.istore X4.here hx rfl (hb hby at_100) rfl (l' := #[.val (.int pt), .val (.int pr), .val (.int px), .val (.int py), .val (.int pz), .val (.long (((px &&& (8191 : Int32)) - (4096 : Int32)).toInt64)), .second, .val (.long (((1 : Int32) + (py &&& (8191 : Int32))).toInt64)), .second, .val (.long (((pz &&& (8191 : Int32)) - (4096 : Int32)).toInt64)), .second, .val (.double (FP.l2d (((px &&& (8191 : Int32)) - (4096 : Int32)).toInt64))), .second, .val (.double (FP.l2d (((1 : Int32) + (py &&& (8191 : Int32))).toInt64))), .second, .val (.double (FP.ddiv (FP.l2d (((pz &&& (8191 : Int32)) - (4096 : Int32)).toInt64)) (4616189618054758400 : UInt64))), .second, .val (.ref b1), .val (.ref b3), .val (.int (0 : Int32))]) rfl ?_
    show Steps p.tables e below (T4.setTop (mkF m 102 #[.val (.int pt), .val (.int pr), .val (.int px), .val (.int py), .val (.int pz), .val (.long (((px &&& (8191 : Int32)) - (4096 : Int32)).toInt64)), .second, .val (.long (((1 : Int32) + (py &&& (8191 : Int32))).toInt64)), .second, .val (.long (((pz &&& (8191 : Int32)) - (4096 : Int32)).toInt64)), .second, .val (.double (FP.l2d (((px &&& (8191 : Int32)) - (4096 : Int32)).toInt64))), .second, .val (.double (FP.l2d (((1 : Int32) + (py &&& (8191 : Int32))).toInt64))), .second, .val (.double (FP.ddiv (FP.l2d (((pz &&& (8191 : Int32)) - (4096 : Int32)).toInt64)) (4616189618054758400 : UInt64))), .second, .val (.ref b1), .val (.ref b3), .val (.int (0 : Int32))] [])) _
    refine XS.aload X4.here hx rfl (hb hby at_102) rfl rfl ?_
    show Steps p.tables e below (T4.setTop (mkF m 104 #[.val (.int pt), .val (.int pr), .val (.int px), .val (.int py), .val (.int pz), .val (.long (((px &&& (8191 : Int32)) - (4096 : Int32)).toInt64)), .second, .val (.long (((1 : Int32) + (py &&& (8191 : Int32))).toInt64)), .second, .val (.long (((pz &&& (8191 : Int32)) - (4096 : Int32)).toInt64)), .second, .val (.double (FP.l2d (((px &&& (8191 : Int32)) - (4096 : Int32)).toInt64))), .second, .val (.double (FP.l2d (((1 : Int32) + (py &&& (8191 : Int32))).toInt64))), .second, .val (.double (FP.ddiv (FP.l2d (((pz &&& (8191 : Int32)) - (4096 : Int32)).toInt64)) (4616189618054758400 : UInt64))), .second, .val (.ref b1), .val (.ref b3), .val (.int (0 : Int32))] [(.ref b1)])) _
    refine XS.aload X4.here hx rfl (hb hby at_104) rfl rfl ?_
    show Steps p.tables e below (T4.setTop (mkF m 106 #[.val (.int pt), .val (.int pr), .val (.int px), .val (.int py), .val (.int pz), .val (.long (((px &&& (8191 : Int32)) - (4096 : Int32)).toInt64)), .second, .val (.long (((1 : Int32) + (py &&& (8191 : Int32))).toInt64)), .second, .val (.long (((pz &&& (8191 : Int32)) - (4096 : Int32)).toInt64)), .second, .val (.double (FP.l2d (((px &&& (8191 : Int32)) - (4096 : Int32)).toInt64))), .second, .val (.double (FP.l2d (((1 : Int32) + (py &&& (8191 : Int32))).toInt64))), .second, .val (.double (FP.ddiv (FP.l2d (((pz &&& (8191 : Int32)) - (4096 : Int32)).toInt64)) (4616189618054758400 : UInt64))), .second, .val (.ref b1), .val (.ref b3), .val (.int (0 : Int32))] [(.ref b3), (.ref b1)])) _
    refine st5.trans ?_
    show Steps p.tables e below (T5.setTop (mkF m 109 #[.val (.int pt), .val (.int pr), .val (.int px), .val (.int py), .val (.int pz), .val (.long (((px &&& (8191 : Int32)) - (4096 : Int32)).toInt64)), .second, .val (.long (((1 : Int32) + (py &&& (8191 : Int32))).toInt64)), .second, .val (.long (((pz &&& (8191 : Int32)) - (4096 : Int32)).toInt64)), .second, .val (.double (FP.l2d (((px &&& (8191 : Int32)) - (4096 : Int32)).toInt64))), .second, .val (.double (FP.l2d (((1 : Int32) + (py &&& (8191 : Int32))).toInt64))), .second, .val (.double (FP.ddiv (FP.l2d (((pz &&& (8191 : Int32)) - (4096 : Int32)).toInt64)) (4616189618054758400 : UInt64))), .second, .val (.ref b1), .val (.ref b3), .val (.int (0 : Int32))] [(.int (0 : Int32))])) _
    refine XS.iload X5.here hx rfl (hb hby at_109) rfl ?_
    show Steps p.tables e below (T5.setTop (mkF m 111 #[.val (.int pt), .val (.int pr), .val (.int px), .val (.int py), .val (.int pz), .val (.long (((px &&& (8191 : Int32)) - (4096 : Int32)).toInt64)), .second, .val (.long (((1 : Int32) + (py &&& (8191 : Int32))).toInt64)), .second, .val (.long (((pz &&& (8191 : Int32)) - (4096 : Int32)).toInt64)), .second, .val (.double (FP.l2d (((px &&& (8191 : Int32)) - (4096 : Int32)).toInt64))), .second, .val (.double (FP.l2d (((1 : Int32) + (py &&& (8191 : Int32))).toInt64))), .second, .val (.double (FP.ddiv (FP.l2d (((pz &&& (8191 : Int32)) - (4096 : Int32)).toInt64)) (4616189618054758400 : UInt64))), .second, .val (.ref b1), .val (.ref b3), .val (.int (0 : Int32))] [(.int (0 : Int32)), (.int (0 : Int32))])) _
    refine XS.icmpNo X5.here hx rfl (hb hby at_111) rfl (teq (by decide : (0 : Int32) = (0 : Int32))).2 ?_
    show Steps p.tables e below (T5.setTop (mkF m 114 #[.val (.int pt), .val (.int pr), .val (.int px), .val (.int py), .val (.int pz), .val (.long (((px &&& (8191 : Int32)) - (4096 : Int32)).toInt64)), .second, .val (.long (((1 : Int32) + (py &&& (8191 : Int32))).toInt64)), .second, .val (.long (((pz &&& (8191 : Int32)) - (4096 : Int32)).toInt64)), .second, .val (.double (FP.l2d (((px &&& (8191 : Int32)) - (4096 : Int32)).toInt64))), .second, .val (.double (FP.l2d (((1 : Int32) + (py &&& (8191 : Int32))).toInt64))), .second, .val (.double (FP.ddiv (FP.l2d (((pz &&& (8191 : Int32)) - (4096 : Int32)).toInt64)) (4616189618054758400 : UInt64))), .second, .val (.ref b1), .val (.ref b3), .val (.int (0 : Int32))] [])) _
    refine XS.iconst X5.here hx rfl (hb hby at_114) ?_
    show Steps p.tables e below (T5.setTop (mkF m 115 #[.val (.int pt), .val (.int pr), .val (.int px), .val (.int py), .val (.int pz), .val (.long (((px &&& (8191 : Int32)) - (4096 : Int32)).toInt64)), .second, .val (.long (((1 : Int32) + (py &&& (8191 : Int32))).toInt64)), .second, .val (.long (((pz &&& (8191 : Int32)) - (4096 : Int32)).toInt64)), .second, .val (.double (FP.l2d (((px &&& (8191 : Int32)) - (4096 : Int32)).toInt64))), .second, .val (.double (FP.l2d (((1 : Int32) + (py &&& (8191 : Int32))).toInt64))), .second, .val (.double (FP.ddiv (FP.l2d (((pz &&& (8191 : Int32)) - (4096 : Int32)).toInt64)) (4616189618054758400 : UInt64))), .second, .val (.ref b1), .val (.ref b3), .val (.int (0 : Int32))] [(.int (1 : Int32))])) _
    refine XS.goto X5.here hx rfl (pc0 := 115) (pc' := 119) rfl (hb hby at_115) (by decide) (by decide) ?_
    show Steps p.tables e below (T5.setTop (mkF m 119 #[.val (.int pt), .val (.int pr), .val (.int px), .val (.int py), .val (.int pz), .val (.long (((px &&& (8191 : Int32)) - (4096 : Int32)).toInt64)), .second, .val (.long (((1 : Int32) + (py &&& (8191 : Int32))).toInt64)), .second, .val (.long (((pz &&& (8191 : Int32)) - (4096 : Int32)).toInt64)), .second, .val (.double (FP.l2d (((px &&& (8191 : Int32)) - (4096 : Int32)).toInt64))), .second, .val (.double (FP.l2d (((1 : Int32) + (py &&& (8191 : Int32))).toInt64))), .second, .val (.double (FP.ddiv (FP.l2d (((pz &&& (8191 : Int32)) - (4096 : Int32)).toInt64)) (4616189618054758400 : UInt64))), .second, .val (.ref b1), .val (.ref b3), .val (.int (0 : Int32))] [(.int (1 : Int32))])) _
    exact retN X5 hx (t := .boolean) Bd.returns (by simp) (hb hby at_119) hr
  · show QL n0 _ T5.heap _
    rw [eq5]
    exact ⟨rfl, N5⟩
theorem rm0 (l : Launch) (Z : State) (a0 : Array Value) (hw : ∀ d ∈ tables_1, d.before a0 Z = true) (ws : List Jvm.Cond) (pt pr px py pz : Int32) (h0 : Heap) (n0 : Nat) (Z0 : n0 ≤ h0.size) :
    MetFree l x (head1 (Jvm.Cond.code x code maxLocals ret :: ws) room_1) (fun a U => a = #[(.int pt), (.int pr), (.int px), (.int py), (.int pz)] ∧ Z.Warmed39 U.vm ∧ U.heap = h0) (fun _ _ _ _ _ => True) (fun _ U o U' => ∃ v L, o = .returned v ∧ QL n0 v U'.heap L ∧ FrameEnd U o U' L 2 5) := by
  rcases own_law px py pz with ⟨h1, h2⟩ | ⟨h1, h2⟩
  · exact rm01 l Z a0 hw ws pt pr px py pz h0 n0 Z0 _ rfl h1 h2
  · exact rm02 l Z a0 hw ws pt pr px py pz h0 n0 Z0 _ rfl h1 h2
set_option maxRecDepth 65536 in
set_option maxHeartbeats 40000000 in
theorem comes_1 {Post : Tables → Env → Array Value → State → Outcome → State → Prop} (hpost : ∀ tb e args s v u, (limb_1_1.after args s (.returned v) u = true ∧ limb_1_2.after args s (.returned v) u = true ∧ True) → FrameEnd s (.returned v) u (Jvm.fieldLocs frame_1_writes args s ++ Jvm.arrayLocs frame_1_arrays args s ++ Jvm.staticLocs frame_1_statics s) 16 128 → Post tb e args s (.returned v) u) :
    ArmFor flags0 classFile x code maxLocals ret World_1 tables_1 room_1 Calls_1 rest_1 Pre_1 Post := by
  intro l hfl _ _ p e ha hc hk s m args below hf hA hF happ hP
  obtain ⟨hcalls, hrest, hpre⟩ := hP
  obtain ⟨-, -, -, hnamed, -, -, -, hat⟩ := (Spec.applies_iff hf).mp happ
  obtain ⟨hg, hn⟩ := and_e (Cond.before_iff.mp (show (Jvm.Cond.and given_1 narrow_1).before args s = true from hpre))
  obtain ⟨hcount, r0⟩ := and_e hg
  obtain ⟨hk0, r1⟩ := and_e r0
  obtain ⟨hk1, r2⟩ := and_e r1
  obtain ⟨hk2, r3⟩ := and_e r2
  obtain ⟨hk3, r4⟩ := and_e r3
  have hk4 := r4
  obtain ⟨w0, w1, w2, w3, w4, rfl⟩ : ∃ w0 w1 w2 w3 w4 : Value, args = #[w0, w1, w2, w3, w4] := by
    have hs : args.size = 5 := by simpa [Cond.value, given_1] using hcount
    obtain ⟨L⟩ := args
    match L, hs with
    | [w0, w1, w2, w3, w4], _ => exact ⟨w0, w1, w2, w3, w4, rfl⟩
  have hw := fun d (hd : d ∈ tables_1) => atoms_spec (ws := Jvm.Cond.code x code maxLocals ret :: tables_1) hat d (List.mem_cons_of_mem _ hd)
  have hfit : Fit s := fun {y c} hc i hi => by
    obtain ⟨ha, rfl⟩ := Array.getElem?_eq_some_iff.mp hc
    have q := List.all_eq_true.mp ((Array.all_eq_true_iff_forall_mem.mp hF) _ (Array.getElem_mem ha)) i (List.mem_range.mpr hi)
    simpa [Array.getElem?_eq_getElem hi] using q
  obtain ⟨i0, ei0⟩ := is_v hk0
  obtain rfl : w0 = (.int i0) := Option.some.inj ei0
  obtain ⟨i1, ei1⟩ := is_v hk1
  obtain rfl : w1 = (.int i1) := Option.some.inj ei1
  obtain ⟨i2, ei2⟩ := is_v hk2
  obtain rfl : w2 = (.int i2) := Option.some.inj ei2
  obtain ⟨i3, ei3⟩ := is_v hk3
  obtain rfl : w3 = (.int i3) := Option.some.inj ei3
  obtain ⟨i4, ei4⟩ := is_v hk4
  obtain rfl : w4 = (.int i4) := Option.some.inj ei4
  obtain ⟨n, o, h1, h2, h3, _, L, rfl, ⟨rfl, N⟩, hq⟩ := rm0 l s _ hw tables_1 i0 i1 i2 i3 i4 s.heap s.heap.size (Nat.le_refl _)  p e ha hc hk s m _ below hf ((Spec.applies_iff_loose hf).mp happ).1 ⟨rfl, State.Warmed39.refl s, rfl⟩ trivial
  refine ⟨n, _, h1, h2, h3, hpost _ _ _ _ _ _ ⟨Cond.after_iff.mpr rfl, Cond.after_iff.mpr (eq_i res_at (Term.int_eval (1)) rfl), trivial⟩ ⟨hq.1, hq.2.1, (hq.2.2.sift fun y hy => Or.inr (N y hy)).mono (by decide) (by decide)⟩⟩
theorem main_1_1 : Claimed_1_1 := comes_1 fun _ _ _ _ _ _ h hF => ⟨h.1, hF⟩
theorem main_1_2 : Claimed_1_2 := comes_1 fun _ _ _ _ _ _ h hF => ⟨h.2.1, hF⟩
end Jvm.Pilot.@@N@@
namespace Jvm.Pilot.@@N@@
open Jvm Jvm.ClassFile Sem Op Lib Jvm.Free Jvm.Stand Jvm.Pilot.@@N@@.Jvm.D
/-! MADE BY PROGRAM (witnessworld.py) out of the Statement's table words and the real class files: 11 classes; the members and pool entries that the words name. The judged class is class 1, her method 1. -/
namespace start1
open Jvm.ClassFile
def u (s : String) : CpInfo := .utf8 (stringToUtf16 s)
/-- a pool by its gaps: so many unusable entries, then the entry; so many at the end -/
def gap : Nat → List CpInfo → List CpInfo
  | 0, r => r
  | n + 1, r => .unusable :: gap n r
def poolList (es : List (Nat × CpInfo)) (last : Nat) : List CpInfo := es.foldr (fun e r => gap e.1 (e.2 :: r)) (gap last [])
def pool (es : List (Nat × CpInfo)) (last : Nat) : Array CpInfo := ⟨poolList es last⟩
def fileOf (pool : Array CpInfo) (this : Nat) (attrs : Array Attribute := #[]) (ms : Array MethodInfo := #[]) (fl : Nat := 33) (sup : Nat := 0) (ifs : Array Nat := #[]) (fds : Array FieldInfo := #[]) : ClassFile where
  minorVersion := 0
  majorVersion := 65
  constantPool := pool
  accessFlags := fl
  thisClass := this
  superClass := sup
  interfaces := ifs
  fields := fds
  methods := ms
  attributes := attrs
def plain (name : String) (sup : Option ClassId) : Class where
  name := name
  kind := .ordinary
  loader := none
  accessFlags := 33
  super := sup
  interfaces := #[]
  cf := none
  fields := #[]
  methods := #[]
  instanceTypes := #[]
  staticTypes := #[]
  resolved := #[]
  callSites := []
  init := .initialized
  statics := none
  mirror := none

def pool0 : Array CpInfo := pool [(5, u "<init>"), (0, u "()V"), (1, .class_ 10), (1, u "java/lang/Object")] 113

def k0c0 : Code := { maxStack := 0, maxLocals := 1, code := object_method_1_code, exceptionTable := #[], attributes := #[] }
def k0m0 : Method := { name := "<init>", desc := "()V", sig := { parameters := [], returnType := none }, accessFlags := 1, code := some k0c0 }
/-- java/lang/Object -/
def k0 : Class := { plain "java/lang/Object" none with
  accessFlags := 33
  interfaces := #[]
  cf := some (fileOf pool0 8 #[] #[{ accessFlags := 1, nameIndex := 5, descriptorIndex := 6, attributes := #[] }] 33 0 #[] #[])
  fields := #[]
  methods := #[k0m0]
  instanceTypes := #[]
  staticTypes := #[]
  resolved := Array.replicate 124 none
  statics := none }

def pool1 : Array CpInfo := pool [(2, .class_ 4), (1, u "java/lang/Object"), (0, u "<init>"), (0, u "()V"), (0, .double 4616189618054758400), (1, .class_ 10), (0, u "com/example/latchkey/latchkey/bench/RmiComparison$Target"), (0, .methodref 9 12), (0, .nameAndType 5 13), (0, u "(ID)V"), (0, .class_ 15), (0, u "com/example/latchkey/latchkey/bench/RmiComparison$Result"), (0, .methodref 14 17), (0, .nameAndType 5 18), (0, u "(IDD)V"), (0, .long 4), (1, .methodref 9 22), (0, .nameAndType 23 24), (0, u "isMetBy"), (0, u "(Lcom/example/latchkey/latchkey/bench/RmiComparison$Result;)Z"), (0, .class_ 26), (0, u "com/example/latchkey/latchkey/bench/TargetIsMetByPinLaw"), (2, u "law"), (0, u "(IIIII)Z")] 8

def k1m0 : Method := { name := "<init>", desc := "()V", sig := { parameters := [], returnType := none }, accessFlags := 2, code := none }
def k1c1 : Code := { maxStack := 7, maxLocals := 20, code := code, exceptionTable := #[], attributes := #[] }
def k1m1 : Method := { name := "law", desc := "(IIIII)Z", sig := { parameters := [.int, .int, .int, .int, .int], returnType := some .boolean }, accessFlags := 9, code := some k1c1 }
/-- com/example/latchkey/latchkey/bench/TargetIsMetByPinLaw -/
def k1 : Class := { plain "com/example/latchkey/latchkey/bench/TargetIsMetByPinLaw" (some 0) with
  accessFlags := 49
  interfaces := #[]
  cf := some (fileOf pool1 25 #[] #[{ accessFlags := 2, nameIndex := 5, descriptorIndex := 6, attributes := #[] }, { accessFlags := 9, nameIndex := 29, descriptorIndex := 30, attributes := #[] }] 49 2 #[] #[])
  fields := #[]
  methods := #[k1m0, k1m1]
  instanceTypes := #[]
  staticTypes := #[]
  resolved := Array.replicate 39 none
  statics := none }

def pool2 : Array CpInfo := pool [(1, .methodref 2 3), (0, .class_ 4), (0, .nameAndType 5 6), (0, u "java/lang/Object"), (0, u "<init>"), (0, u "()V"), (0, .class_ 8), (0, u "java/lang/Record")] 13

def k2c0 : Code := { maxStack := 1, maxLocals := 1, code := jdk_30_method_1_code, exceptionTable := #[], attributes := #[] }
def k2m0 : Method := { name := "<init>", desc := "()V", sig := { parameters := [], returnType := none }, accessFlags := 4, code := some k2c0 }
/-- java/lang/Record -/
def k2 : Class := { plain "java/lang/Record" (some 0) with
  accessFlags := 1057
  interfaces := #[]
  cf := some (fileOf pool2 7 #[] #[{ accessFlags := 4, nameIndex := 5, descriptorIndex := 6, attributes := #[] }] 1057 2 #[] #[])
  fields := #[]
  methods := #[k2m0]
  instanceTypes := #[]
  staticTypes := #[]
  resolved := Array.replicate 22 none
  statics := none }

def pool3 : Array CpInfo := pool [(1, .methodref 2 3), (0, .class_ 4), (0, .nameAndType 5 6), (0, u "java/lang/Record"), (0, u "<init>"), (0, u "()V"), (0, .fieldref 8 9), (0, .class_ 10), (0, .nameAndType 11 12), (0, u "com/example/latchkey/latchkey/bench/RmiComparison$Target"), (0, u "threads"), (0, u "I"), (0, .fieldref 8 14), (0, .nameAndType 15 16), (0, u "ratio"), (0, u "D"), (0, .methodref 18 19), (0, .class_ 20), (0, .nameAndType 15 21), (0, u "com/example/latchkey/latchkey/bench/RmiComparison$Result"), (0, u "()D"), (12, u "(ID)V"), (3, u "isMetBy"), (0, u "(Lcom/example/latchkey/latchkey/bench/RmiComparison$Result;)Z"), (7, .class_ 48), (0, u "com/example/latchkey/latchkey/bench/RmiComparison")] 21

def k3c0 : Code := { maxStack := 3, maxLocals := 4, code := prog_26_method_1_code, exceptionTable := #[], attributes := #[] }
def k3m0 : Method := { name := "<init>", desc := "(ID)V", sig := { parameters := [.int, .double], returnType := none }, accessFlags := 0, code := some k3c0 }
def k3c1 : Code := { maxStack := 4, maxLocals := 2, code := prog_26_method_2_code, exceptionTable := #[], attributes := #[] }
def k3m1 : Method := { name := "isMetBy", desc := "(Lcom/example/latchkey/latchkey/bench/RmiComparison$Result;)Z", sig := { parameters := [(.object "com/example/latchkey/latchkey/bench/RmiComparison$Result")], returnType := some .boolean }, accessFlags := 0, code := some k3c1 }
/-- com/example/latchkey/latchkey/bench/RmiComparison$Target -/
def k3 : Class := { plain "com/example/latchkey/latchkey/bench/RmiComparison$Target" (some 2) with
  accessFlags := 48
  interfaces := #[]
  cf := some (fileOf pool3 8 #[.nestHost 47] #[{ accessFlags := 0, nameIndex := 5, descriptorIndex := 34, attributes := #[] }, { accessFlags := 0, nameIndex := 38, descriptorIndex := 39, attributes := #[] }] 48 2 #[] #[{ accessFlags := 18, nameIndex := 11, descriptorIndex := 12, attributes := #[] }, { accessFlags := 18, nameIndex := 15, descriptorIndex := 16, attributes := #[] }])
  fields := #[{ name := "threads", type := .int, accessFlags := 18, slot := 0, constantValue := 0 }, { name := "ratio", type := .double, accessFlags := 18, slot := 1, constantValue := 0 }]
  methods := #[k3m0, k3m1]
  instanceTypes := #[.int, .double]
  staticTypes := #[]
  resolved := Array.replicate 70 none
  statics := none }

def pool4 : Array CpInfo := pool [(1, .methodref 2 3), (0, .class_ 4), (0, .nameAndType 5 6), (0, u "java/lang/Record"), (0, u "<init>"), (0, u "()V"), (0, .fieldref 8 9), (0, .class_ 10), (0, .nameAndType 11 12), (0, u "com/example/latchkey/latchkey/bench/RmiComparison$Result"), (0, u "threads"), (0, u "I"), (0, .fieldref 8 14), (0, .nameAndType 15 16), (0, u "latchkey"), (0, u "D"), (0, .fieldref 8 18), (0, .nameAndType 19 16), (0, u "rmi"), (2, u "ratio"), (0, u "()D"), (47, u "(IDD)V"), (10, .class_ 83), (0, u "com/example/latchkey/latchkey/bench/RmiComparison")] 21

def k4c0 : Code := { maxStack := 3, maxLocals := 6, code := prog_24_method_1_code, exceptionTable := #[], attributes := #[] }
def k4m0 : Method := { name := "<init>", desc := "(IDD)V", sig := { parameters := [.int, .double, .double], returnType := none }, accessFlags := 0, code := some k4c0 }
def k4c1 : Code := { maxStack := 4, maxLocals := 1, code := prog_24_method_2_code, exceptionTable := #[], attributes := #[] }
def k4m1 : Method := { name := "ratio", desc := "()D", sig := { parameters := [], returnType := some .double }, accessFlags := 0, code := some k4c1 }
/-- com/example/latchkey/latchkey/bench/RmiComparison$Result -/
def k4 : Class := { plain "com/example/latchkey/latchkey/bench/RmiComparison$Result" (some 2) with
  accessFlags := 48
  interfaces := #[]
  cf := some (fileOf pool4 8 #[.nestHost 82] #[{ accessFlags := 0, nameIndex := 5, descriptorIndex := 71, attributes := #[] }, { accessFlags := 0, nameIndex := 22, descriptorIndex := 23, attributes := #[] }] 48 2 #[] #[{ accessFlags := 18, nameIndex := 11, descriptorIndex := 12, attributes := #[] }, { accessFlags := 18, nameIndex := 15, descriptorIndex := 16, attributes := #[] }, { accessFlags := 18, nameIndex := 19, descriptorIndex := 16, attributes := #[] }])
  fields := #[{ name := "threads", type := .int, accessFlags := 18, slot := 0, constantValue := 0 }, { name := "latchkey", type := .double, accessFlags := 18, slot := 1, constantValue := 0 }, { name := "rmi", type := .double, accessFlags := 18, slot := 2, constantValue := 0 }]
  methods := #[k4m0, k4m1]
  instanceTypes := #[.int, .double, .double]
  staticTypes := #[]
  resolved := Array.replicate 105 none
  statics := none }

def pool5 : Array CpInfo := pool [(1, u "java/lang/Cloneable"), (0, .class_ 1), (0, u "java/lang/Object"), (0, .class_ 3)] 3

/-- java/lang/Cloneable -/
def k5 : Class := { plain "java/lang/Cloneable" (some 0) with
  accessFlags := 1537
  interfaces := #[]
  cf := some (fileOf pool5 2 #[] #[] 1537 4 #[] #[])
  fields := #[]
  methods := #[]
  instanceTypes := #[]
  staticTypes := #[]
  resolved := Array.replicate 8 none
  statics := none }

def pool6 : Array CpInfo := pool [(1, u "java/io/Serializable"), (0, .class_ 1), (0, u "java/lang/Object"), (0, .class_ 3)] 3

/-- java/io/Serializable -/
def k6 : Class := { plain "java/io/Serializable" (some 0) with
  accessFlags := 1537
  interfaces := #[]
  cf := some (fileOf pool6 2 #[] #[] 1537 4 #[] #[])
  fields := #[]
  methods := #[]
  instanceTypes := #[]
  staticTypes := #[]
  resolved := Array.replicate 8 none
  statics := none }

/-- the primitive byte -/
def k7 : Class := { plain "byte" none with kind := .primitive 'B', accessFlags := 0x411 }
/-- [B -/
def k8 : Class := { plain "[B" (some 0) with kind := .array 7 .byte, interfaces := #[5, 6], accessFlags := 1041 }

/-- the primitive int -/
def k9 : Class := { plain "int" none with kind := .primitive 'I', accessFlags := 0x411 }
/-- [I -/
def k10 : Class := { plain "[I" (some 0) with kind := .array 9 .int, interfaces := #[5, 6], accessFlags := 1041 }

def heap : Heap := #[]
def classes : Array Class := #[k0, k1, k2, k3, k4, k5, k6, k7, k8, k9, k10]
def interned : List (Array UInt16 × Addr) := []
def slotsUsed : Nat := 0
def theMethod : MethodId := ⟨1, 1⟩
def args0 : Array Value := #[.int 1, .int 2, .int 3, .int 4, .int 5]
def aboutOver (below : List Frame) : State where
  vm := { classes := classes, interned := interned.toArray }
  heap := heap
  slotsUsed := slotsUsed
  threads := #[{ frames := .invoking theMethod args0 :: below }]
def below0 : List Frame := [.native { method := ⟨0, 0⟩, args := #[] }]
def about1 : State := aboutOver below0
def p0 : Program := .bare "" "" ""
def e0 : Env := launch0.env 0 0 0
theorem w_frames : about1.frames = Frame.invoking theMethod args0 :: below0 := rfl
set_option maxRecDepth 65536 in
theorem w_args : argsFit about1.vm theMethod args0 = true := by decide +kernel
set_option maxRecDepth 65536 in
theorem w_heap : heapFits about1 = true := by decide +kernel
set_option maxRecDepth 65536 in
theorem w_runnable : about1.curStatus? = some .runnable := by decide +kernel
set_option maxRecDepth 65536 in
theorem w_alone : about1.alone = true := by decide +kernel
set_option maxRecDepth 65536 in
theorem w_named : about1.methodNamed? x = some theMethod := by decide +kernel
set_option maxRecDepth 65536 in
theorem w_hears : about1.hears theMethod below0 = true := by decide +kernel
set_option maxRecDepth 65536 in
theorem w_ripe : about1.ripe theMethod args0 below0 = true := by decide +kernel
theorem w_running : about1.status = .running := rfl
set_option maxRecDepth 65536 in
theorem w_room : about1.hasRoom e0.platform room_1 = true :=
  launch0.hasRoom_least _ room_1 (by decide +kernel) (by decide +kernel) (by decide +kernel) (by decide +kernel) (by decide +kernel) (by decide +kernel)
theorem allAtoms_all (ts : List Jvm.Cond) (a : Array Jvm.Value) (st : Jvm.State) : (allAtoms ts).before a st = ts.all (fun c => c.before a st) := by
  induction ts with
  | nil => rfl
  | cons c t ih =>
    show (Jvm.Cond.and c (allAtoms t)).before a st = _
    rw [Jvm.Cond.before_and, ih, List.all_cons]
def words1 : List Jvm.Cond := Jvm.Cond.code x code maxLocals ret :: tables_1
/-- a 'code' word, met by the world's own term for the bytes: nothing is compared byte by byte -/
theorem code_word {y : MethodName} {bytes : ByteArray} {mx : Nat} {rt : Option FieldType} {a : Array Value} {s : State} {m : MethodId} {meth : Method} {c : Code} (h1 : s.methodNamed? y = some m) (h2 : s.vm.method? m = some meth) (h3 : meth.code = some c) (h4 : c.code = bytes)
    (h5 : (c.maxLocals == mx && c.exceptionTable.isEmpty && decide (c.maxStack ≤ mostOperands) && decide (meth.sig.returnType = rt) && !meth.locks && decide (parseMethodDescriptor y.desc = some meth.sig)) = true) : (Jvm.Cond.code y bytes mx rt).before a s = true := by
  simp only [Bool.and_eq_true, beq_iff_eq, Bool.not_eq_true', decide_eq_true_eq] at h5
  obtain ⟨⟨⟨⟨⟨g1, g2⟩, g3⟩, g4⟩, g5⟩, g6⟩ := h5
  simp [Cond.before, Cond.holds, Cond.value, h1, h2, h3, h4, g1, g2, g3, g4, g5, g6]
def isCode : Jvm.Cond → Bool
  | .code _ _ _ _ => true
  | _ => false
theorem all_split {L : List Jvm.Cond} {P : Jvm.Cond → Bool} (h1 : L.all (fun c => isCode c || P c) = true) (h2 : ∀ c ∈ L.filter isCode, P c = true) : L.all P = true := by
  refine List.all_eq_true.mpr fun c hc => ?_
  have h := List.all_eq_true.mp h1 c hc
  rcases Bool.eq_false_or_eq_true (isCode c) with hi | hi
  · exact h2 c (List.mem_filter.mpr ⟨hc, hi⟩)
  · simpa [hi] using h
set_option maxRecDepth 65536 in
theorem w_c0 : (Jvm.Cond.code x code maxLocals ret).before args0 about1 = true := code_word (m := ⟨1, 1⟩) (meth := k1m1) (c := k1c1) (by decide +kernel) rfl rfl rfl (by decide +kernel)
set_option maxRecDepth 65536 in
theorem w_c1 : (Jvm.Cond.code ({ cls := "com/example/latchkey/latchkey/bench/RmiComparison$Target", name := "<init>", desc := "(ID)V" } : Jvm.MethodName) prog_26_method_1_code (4 : Nat) (Option.none : Option Jvm.ClassFile.FieldType)).before args0 about1 = true := code_word (m := ⟨3, 0⟩) (meth := k3m0) (c := k3c0) (by decide +kernel) rfl rfl rfl (by decide +kernel)
set_option maxRecDepth 65536 in
theorem w_c2 : (Jvm.Cond.code ({ cls := "java/lang/Record", name := "<init>", desc := "()V" } : Jvm.MethodName) jdk_30_method_1_code (1 : Nat) (Option.none : Option Jvm.ClassFile.FieldType)).before args0 about1 = true := code_word (m := ⟨2, 0⟩) (meth := k2m0) (c := k2c0) (by decide +kernel) rfl rfl rfl (by decide +kernel)
set_option maxRecDepth 65536 in
theorem w_c3 : (Jvm.Cond.code ({ cls := "java/lang/Object", name := "<init>", desc := "()V" } : Jvm.MethodName) object_method_1_code (1 : Nat) (Option.none : Option Jvm.ClassFile.FieldType)).before args0 about1 = true := code_word (m := ⟨0, 0⟩) (meth := k0m0) (c := k0c0) (by decide +kernel) rfl rfl rfl (by decide +kernel)
set_option maxRecDepth 65536 in
theorem w_c4 : (Jvm.Cond.code ({ cls := "com/example/latchkey/latchkey/bench/RmiComparison$Result", name := "<init>", desc := "(IDD)V" } : Jvm.MethodName) prog_24_method_1_code (6 : Nat) (Option.none : Option Jvm.ClassFile.FieldType)).before args0 about1 = true := code_word (m := ⟨4, 0⟩) (meth := k4m0) (c := k4c0) (by decide +kernel) rfl rfl rfl (by decide +kernel)
set_option maxRecDepth 65536 in
theorem w_c5 : (Jvm.Cond.code ({ cls := "com/example/latchkey/latchkey/bench/RmiComparison$Target", name := "isMetBy", desc := "(Lcom/example/latchkey/latchkey/bench/RmiComparison$Result;)Z" } : Jvm.MethodName) prog_26_method_2_code (2 : Nat) (Option.some Jvm.ClassFile.FieldType.boolean)).before args0 about1 = true := code_word (m := ⟨3, 1⟩) (meth := k3m1) (c := k3c1) (by decide +kernel) rfl rfl rfl (by decide +kernel)
set_option maxRecDepth 65536 in
theorem w_c6 : (Jvm.Cond.code ({ cls := "com/example/latchkey/latchkey/bench/RmiComparison$Result", name := "ratio", desc := "()D" } : Jvm.MethodName) prog_24_method_2_code (1 : Nat) (Option.some Jvm.ClassFile.FieldType.double)).before args0 about1 = true := code_word (m := ⟨4, 1⟩) (meth := k4m1) (c := k4c1) (by decide +kernel) rfl rfl rfl (by decide +kernel)
def codes1 : List Jvm.Cond := [Jvm.Cond.code x code maxLocals ret, Jvm.Cond.code ({ cls := "com/example/latchkey/latchkey/bench/RmiComparison$Target", name := "<init>", desc := "(ID)V" } : Jvm.MethodName) prog_26_method_1_code (4 : Nat) (Option.none : Option Jvm.ClassFile.FieldType), Jvm.Cond.code ({ cls := "java/lang/Record", name := "<init>", desc := "()V" } : Jvm.MethodName) jdk_30_method_1_code (1 : Nat) (Option.none : Option Jvm.ClassFile.FieldType), Jvm.Cond.code ({ cls := "java/lang/Object", name := "<init>", desc := "()V" } : Jvm.MethodName) object_method_1_code (1 : Nat) (Option.none : Option Jvm.ClassFile.FieldType), Jvm.Cond.code ({ cls := "com/example/latchkey/latchkey/bench/RmiComparison$Result", name := "<init>", desc := "(IDD)V" } : Jvm.MethodName) prog_24_method_1_code (6 : Nat) (Option.none : Option Jvm.ClassFile.FieldType), Jvm.Cond.code ({ cls := "com/example/latchkey/latchkey/bench/RmiComparison$Target", name := "isMetBy", desc := "(Lcom/example/latchkey/latchkey/bench/RmiComparison$Result;)Z" } : Jvm.MethodName) prog_26_method_2_code (2 : Nat) (Option.some Jvm.ClassFile.FieldType.boolean), Jvm.Cond.code ({ cls := "com/example/latchkey/latchkey/bench/RmiComparison$Result", name := "ratio", desc := "()D" } : Jvm.MethodName) prog_24_method_2_code (1 : Nat) (Option.some Jvm.ClassFile.FieldType.double)]
set_option maxRecDepth 65536 in
theorem codes_eq : words1.filter isCode = codes1 := rfl
theorem w_codes : ∀ c ∈ words1.filter isCode, c.before args0 about1 = true := by
  rw [codes_eq]
  intro c hc
  simp only [codes1, List.mem_cons, List.not_mem_nil, or_false] at hc
  rcases hc with rfl | rfl | rfl | rfl | rfl | rfl | rfl
  · exact w_c0
  · exact w_c1
  · exact w_c2
  · exact w_c3
  · exact w_c4
  · exact w_c5
  · exact w_c6
set_option maxRecDepth 65536 in
theorem w_t1 : (words1.take 24).all (fun c => isCode c || c.before args0 about1) = true := by decide +kernel
set_option maxRecDepth 65536 in
theorem w_t2 : (words1.drop 24).all (fun c => isCode c || c.before args0 about1) = true := by decide +kernel
theorem w_tables : (allAtoms (Jvm.Cond.code x code maxLocals ret :: tables_1)).before args0 about1 = true := by
  rw [allAtoms_all]
  show words1.all (fun c => c.before args0 about1) = true
  refine all_split ?_ w_codes
  rw [← List.take_append_drop 24 words1, List.all_append, w_t1, w_t2]
  rfl
set_option maxRecDepth 65536 in
theorem w_case : (Jvm.Cond.and given_1 narrow_1).before args0 about1 = true := by decide +kernel
theorem w_applies : (headSpec (Jvm.Cond.code x code maxLocals ret :: tables_1) room_1).applies x e0.platform about1 = true :=
  (Spec.applies_iff w_frames).mpr ⟨w_running, w_runnable, w_alone, w_named, w_hears, w_ripe, w_room, w_tables⟩
theorem atStart : AtStart classFile x code maxLocals ret World_1 tables_1 room_1 Calls_1 rest_1 Pre_1 launch0 p0 e0 about1 theMethod args0 below0 :=
  ⟨lists_1, trivial, launch0.admits_env _ _ _, launch0.least_env, fairChoices_fair.cas, fairChoices_fair.clock, w_frames, w_args, w_heap, w_applies, trivial, trivial, w_case⟩
end start1
theorem witness_1 : WitnessClaimed_1 := ⟨start1.p0, start1.e0, start1.about1, start1.theMethod, start1.args0, start1.below0, start1.atStart⟩
end Jvm.Pilot.@@N@@
