import JvmDerived
import JvmDerived.Pilot.@@N@@Statement
import JvmDerived.Pilot.@@N@@Code
set_option linter.unusedVariables false
set_option linter.unusedSimpArgs false
@@BLOCK:NumsL.lean.txt@@
namespace Jvm.Pilot.@@N@@
section OwnFP
open Jvm.FP Jvm.FP.Core
/-- a double as a whole number of units 2^-1074 -/
def oz (a : UInt64) : Int := zval b64 (val64 a)
theorem own_cmp {a b : UInt64} (ha : DFin a) (hb : DFin b) : FP.dcmp a b = some (compare (oz a) (oz b)) := dcmp_zval ha.ne_nan hb.ne_nan
theorem oz_neg (a : UInt64) : oz (Core.dneg a) = -oz a := by unfold oz; rw [Core.val64_dneg, zval_negate]
theorem fin_neg {a : UInt64} (h : DFin a) : DFin (Core.dneg a) := by
  obtain ⟨s, c, q, e⟩ := h; exact ⟨!s, c, q, by rw [Core.val64_dneg, e]; rfl⟩
theorem nn_neg {a : UInt64} (h : val64 a ≠ .nan) : val64 (Core.dneg a) ≠ .nan := by rw [Core.val64_dneg]; exact negate_ne_nan h
theorem own_qmin : b64.qmin = -1074 := by decide
theorem one_pos : (0 : Int) < (one64 : Int) := Int.natCast_pos.mpr one64_pos
theorem zval_nonneg_mag {d : Datum} (h : 0 ≤ zval b64 d) : zval b64 d = (zmag b64 d : Int) := by
  unfold zval signed at *
  split at h <;> simp_all <;> omega
theorem zval_neg_mag {d : Datum} (h : zval b64 d < 0) : zval b64 d = -(zmag b64 d : Int) := by
  unfold zval signed at *
  split at h <;> simp_all <;> omega
theorem own_div_le {a b V : UInt64} (ha : DFin a) (hb : DFin b) (hpos : 0 < oz b) (hV : val64 V ≠ .nan) (h : oz a * (one64 : Int) ≤ oz V * oz b) : oz (FP.ddiv a b) ≤ oz V := by
  have fa := val64_fits a
  have fb := val64_fits b
  have fV := val64_fits V
  obtain ⟨s, c, q, ea⟩ := ha
  obtain ⟨t, d, r, eb⟩ := hb
  unfold oz at *
  rw [ea] at fa h
  rw [eb] at fb h hpos
  have hq1 := fa.2.1
  have hr1 := fb.2.1
  rw [own_qmin] at hq1 hr1
  obtain ⟨hb1, hb2⟩ := signed_pos (show 0 < signed t (inUnits d r b64.qmin) from hpos)
  have ht : t = false := by
    cases t with
    | false => rfl
    | true => exfalso; unfold signed at hb1; simp at hb1; omega
  subst ht
  have hd : 0 < d := by
    rcases Nat.eq_zero_or_pos d with h0 | h0
    · subst h0; unfold inUnits at hb2; simp at hb2
    · exact h0
  have ev : val64 (FP.ddiv a b) = roundRatio b64 s c d (q - r) := by
    rw [show val64 (FP.ddiv a b) = _ from val64_ddiv a b, ea, eb]
    rw [show quotient b64 (.fin s c q) (.fin false d r) = (if d = 0 then (if c = 0 then .nan else .inf (s != false)) else roundRatio b64 (s != false) c d (q - r)) from rfl, if_neg (by omega)]
    cases s <;> rfl
  rw [ev]
  have eu : inUnits c (q - r) (2 * -1074 - r) = zmag b64 (.fin s c q) * one64 := by
    show c * 2 ^ _ = (c * 2 ^ _) * 2 ^ 1074
    rw [Nat.mul_assoc, ← Nat.pow_add, own_qmin]
    congr 2; omega
  have ed : (2 : Nat) ^ (b64.qmin - (2 * -1074 - r)).toNat * d = zmag b64 (.fin false d r) := by
    show _ = d * 2 ^ _
    rw [Nat.mul_comm, own_qmin]; congr 2; omega
  have hzb : zval b64 (.fin false d r) = (zmag b64 (.fin false d r) : Int) := rfl
  rw [hzb] at h
  cases s with
  | false =>
    have hza : zval b64 (.fin false c q) = (zmag b64 (.fin false c q) : Int) := rfl
    rw [hza] at h
    have hzbp : (0 : Int) < (zmag b64 (.fin false d r) : Int) := by rw [← hzb]; exact hpos
    have hVn : 0 ≤ zval b64 (val64 V) := by
      rcases Int.lt_or_le (zval b64 (val64 V)) 0 with hn | hn
      · exfalso
        have h1 : zval b64 (val64 V) * (zmag b64 (.fin false d r) : Int) < 0 := Int.mul_neg_of_neg_of_pos hn hzbp
        have h2 : (0 : Int) ≤ (zmag b64 (.fin false c q) : Int) * (one64 : Int) := Int.mul_nonneg (Int.natCast_nonneg _) (Int.natCast_nonneg _)
        omega
      · exact hn
    rw [zval_nonneg_mag hVn] at h ⊢
    have hle := zmag_roundRatio_le good_b64 (s := false) (A := c) (B := d) (e := q - r) (e0 := 2 * -1074 - r) (V := val64 V) hd fV hV (by rw [own_qmin]; omega) (by omega) (by
      rw [eu, Nat.mul_assoc, ed]; exact Int.ofNat_le.mp (by simpa using h))
    unfold zval
    rw [sgn_roundRatio]
    exact Int.ofNat_le.mpr hle
  | true =>
    have hza : zval b64 (.fin true c q) = -(zmag b64 (.fin true c q) : Int) := rfl
    rw [hza] at h
    have hsg : zval b64 (roundRatio b64 true c d (q - r)) = -(zmag b64 (roundRatio b64 true c d (q - r)) : Int) := by
      unfold zval; rw [sgn_roundRatio]; rfl
    rw [hsg]
    rcases Int.lt_or_le (zval b64 (val64 V)) 0 with hn | hn
    · rw [zval_neg_mag hn] at h ⊢
      have hge := zmag_roundRatio_ge good_b64 (s := true) (A := c) (B := d) (e := q - r) (e0 := 2 * -1074 - r) (V := val64 V) hd fV (by rw [own_qmin]; omega) (by omega) (by
        rw [eu, Nat.mul_assoc, ed]
        rw [Int.neg_mul, Int.neg_mul] at h
        exact Int.ofNat_le.mp (by simpa using Int.le_of_neg_le_neg h))
      omega
    · omega
theorem own_div_ge {a b V : UInt64} (ha : DFin a) (hb : DFin b) (hpos : 0 < oz b) (hV : val64 V ≠ .nan) (h : oz V * oz b ≤ oz a * (one64 : Int)) : oz V ≤ oz (FP.ddiv a b) := by
  have h1 := own_div_le (a := Core.dneg a) (b := b) (V := Core.dneg V) (fin_neg ha) hb hpos (nn_neg hV) (by rw [oz_neg, oz_neg, Int.neg_mul, Int.neg_mul]; omega)
  rw [show FP.ddiv (Core.dneg a) b = Core.dneg (FP.ddiv a b) from ddiv_dneg a b, oz_neg, oz_neg] at h1
  omega
theorem own_mul_z {a b : UInt64} (ha : DFin a) (hb : DFin b) : ∃ s c q, val64 (FP.dmul a b) = round b64 (.fin s c q) ∧ 2 * b64.qmin ≤ q ∧ signed s (inUnits c q (2 * b64.qmin)) = oz a * oz b := by
  have fa := val64_fits a
  have fb := val64_fits b
  obtain ⟨s, c, q, ea⟩ := ha
  obtain ⟨t, d, r, eb⟩ := hb
  rw [ea] at fa; rw [eb] at fb
  obtain ⟨h1, h2, h3⟩ := product_units fa fb
  refine ⟨s != t, c * d, q + r, ?_, h2, ?_⟩
  · rw [show val64 (FP.dmul a b) = _ from val64_dmul a b, ea, eb, h1]
  · rw [h3, signed_xor]; unfold oz; rw [ea, eb]; rfl
theorem own_pow : ((2 ^ (b64.qmin - 2 * b64.qmin).toNat : Nat) : Int) = (one64 : Int) := by rw [own_qmin]; rfl
theorem own_mul_le {a b V : UInt64} (ha : DFin a) (hb : DFin b) (hV : val64 V ≠ .nan) (h : oz a * oz b ≤ oz V * (one64 : Int)) : oz (FP.dmul a b) ≤ oz V := by
  obtain ⟨s, c, q, e, h2, h3⟩ := own_mul_z ha hb
  unfold oz; rw [e]
  exact zval_round_le good_b64 (val64_fits V) hV (e0 := 2 * b64.qmin) (by rw [own_qmin]; omega) h2 (by rw [h3, own_pow]; exact h)
theorem own_mul_ge {a b V : UInt64} (ha : DFin a) (hb : DFin b) (hV : val64 V ≠ .nan) (h : oz V * (one64 : Int) ≤ oz a * oz b) : oz V ≤ oz (FP.dmul a b) := by
  obtain ⟨s, c, q, e, h2, h3⟩ := own_mul_z ha hb
  unfold oz; rw [e]
  exact zval_round_ge good_b64 (val64_fits V) hV (e0 := 2 * b64.qmin) (by rw [own_qmin]; omega) h2 (by rw [h3, own_pow]; exact h)
theorem own_add_le {a b V : UInt64} (ha : DFin a) (hb : DFin b) (hV : val64 V ≠ .nan) (h : oz a + oz b ≤ oz V) : oz (FP.dadd a b) ≤ oz V := by
  unfold oz; rw [show val64 (FP.dadd a b) = _ from val64_dadd a b]
  exact sum_le good_b64 ha hb (val64_fits a) (val64_fits b) (val64_fits V) hV h
theorem own_add_ge {a b V : UInt64} (ha : DFin a) (hb : DFin b) (hV : val64 V ≠ .nan) (h : oz V ≤ oz a + oz b) : oz V ≤ oz (FP.dadd a b) := by
  unfold oz; rw [show val64 (FP.dadd a b) = _ from val64_dadd a b]
  exact sum_ge good_b64 ha hb (val64_fits a) (val64_fits b) (val64_fits V) hV h
theorem own_rep (m : Int) (j : Nat) (hm : m.natAbs < 2 ^ 53) (hj : j ≤ 2045) : ∃ V, DFin V ∧ oz V = m * ((2 ^ j : Nat) : Int) := by
  obtain ⟨c', q', e1, e2⟩ := round_exact good_b64 (decide (m < 0)) (c := m.natAbs) (q := (j : Int) - 1074) hm (by rw [own_qmin]; omega) (by show (j : Int) - 1074 ≤ b64.qmax; rw [show b64.qmax = 971 by decide]; omega)
  have hf := round_fits good_b64 (.fin (decide (m < 0)) m.natAbs ((j : Int) - 1074))
  refine ⟨of64 (round b64 (.fin (decide (m < 0)) m.natAbs ((j : Int) - 1074))), ⟨_, c', q', by rw [val64_of64 hf, e1]⟩, ?_⟩
  unfold oz
  rw [val64_of64 hf, e1]
  show signed (decide (m < 0)) (inUnits c' q' b64.qmin) = _
  rw [e2, own_qmin]
  unfold inUnits
  rw [signed_mul, show ((j : Int) - 1074 - -1074).toNat = j by omega]
  congr 1
  unfold signed
  by_cases h : m < 0 <;> simp [h] <;> omega
theorem own_fin {a V W : UInt64} (hn : val64 a ≠ .nan) (hV : DFin V) (hW : DFin W) (h1 : oz V ≤ oz a) (h2 : oz a ≤ oz W) : DFin a := by
  have v := hV.zval_lt
  have w := hW.zval_lt
  cases e : val64 a with
  | nan => exact absurd e hn
  | fin s c q => exact ⟨s, c, q, e⟩
  | inf s =>
    exfalso
    unfold oz at h1 h2
    rw [e] at h1 h2
    have v1 : -(zmag b64 (val64 V) : Int) ≤ zval b64 (val64 V) := by unfold zval signed; split <;> omega
    have w1 : zval b64 (val64 W) ≤ (zmag b64 (val64 W) : Int) := by unfold zval signed; split <;> omega
    cases s with
    | false => have : zval b64 (.inf false) = ((b64.tails * 2 ^ (b64.exps - 2) : Nat) : Int) := rfl
               rw [this] at h2; omega
    | true => have : zval b64 (.inf true) = -((b64.tails * 2 ^ (b64.exps - 2) : Nat) : Int) := rfl
              rw [this] at h1; omega
theorem oz_l2d {x : Int64} (h : x.toInt.natAbs ≤ 2 ^ 53) : oz (FP.l2d x) = x.toInt * (one64 : Int) := DInt_zval (l2d_int h)
theorem oz_i2d (x : Int32) : oz (FP.i2d x) = x.toInt * (one64 : Int) := DInt_zval (i2d_int x)
theorem nan_div {a b : UInt64} (ha : DFin a) (hb : DFin b) (hz : oz b ≠ 0) : val64 (FP.ddiv a b) ≠ .nan := by
  have := ddiv_out ha.notNaN hb (dnot_zero hb.ne_nan hz)
  exact (notNaN_iff _).mp this
theorem nan_mul {a b : UInt64} (ha : DFin a) (hb : DFin b) : val64 (FP.dmul a b) ≠ .nan := (notNaN_iff _).mp (dmul_out ha hb)
theorem nan_add {a b : UInt64} (ha : DFin a) (hb : DFin b) : val64 (FP.dadd a b) ≠ .nan := (notNaN_iff _).mp (dadd_out ha.notNaN hb)
theorem div_exact {a b V : UInt64} (ha : DFin a) (hb : DFin b) (hpos : 0 < oz b) (hV : DFin V) (h : oz V * oz b = oz a * (one64 : Int)) : DFin (FP.ddiv a b) ∧ oz (FP.ddiv a b) = oz V := by
  have h1 := own_div_le ha hb hpos hV.ne_nan (by omega)
  have h2 := own_div_ge ha hb hpos hV.ne_nan (by omega)
  exact ⟨own_fin (nan_div ha hb (by omega)) hV hV h2 h1, by omega⟩
theorem mul_exact {a b V : UInt64} (ha : DFin a) (hb : DFin b) (hV : DFin V) (h : oz V * (one64 : Int) = oz a * oz b) : DFin (FP.dmul a b) ∧ oz (FP.dmul a b) = oz V := by
  have h1 := own_mul_le ha hb hV.ne_nan (by omega)
  have h2 := own_mul_ge ha hb hV.ne_nan (by omega)
  exact ⟨own_fin (nan_mul ha hb) hV hV h2 h1, by omega⟩
theorem add_exact {a b V : UInt64} (ha : DFin a) (hb : DFin b) (hV : DFin V) (h : oz V = oz a + oz b) : DFin (FP.dadd a b) ∧ oz (FP.dadd a b) = oz V := by
  have h1 := own_add_le ha hb hV.ne_nan (by omega)
  have h2 := own_add_ge ha hb hV.ne_nan (by omega)
  exact ⟨own_fin (nan_add ha hb) hV hV h2 h1, by omega⟩
theorem cmp_lt {a b : UInt64} (ha : DFin a) (hb : DFin b) (h : oz a < oz b) (o : ClassFile.CmpOp) : Op.cmpValue (FP.dcmp a b) o = -1 := by
  rw [own_cmp ha hb, (compare_lt_iff _ _).mpr h]; rfl
theorem cmp_eq {a b : UInt64} (ha : DFin a) (hb : DFin b) (h : oz a = oz b) (o : ClassFile.CmpOp) : Op.cmpValue (FP.dcmp a b) o = 0 := by
  rw [own_cmp ha hb, (compare_eq_iff _ _).mpr h]; rfl
theorem cmp_gt {a b : UInt64} (ha : DFin a) (hb : DFin b) (h : oz b < oz a) (o : ClassFile.CmpOp) : Op.cmpValue (FP.dcmp a b) o = 1 := by
  rw [own_cmp ha hb, (compare_gt_iff _ _).mpr h]; rfl
theorem fin64 {a : UInt64} (h : DFin a) : Jvm.Free.Fl.Fin64 a := Jvm.Free.Fl.fin64_core.mpr h
theorem nonan {a : UInt64} (h : val64 a ≠ .nan) : Jvm.Free.Fl.NoNaN64 a := Jvm.Free.Fl.val64_no.mpr h
end OwnFP
end Jvm.Pilot.@@N@@
namespace Jvm.Pilot.@@N@@
open Jvm Jvm.ClassFile Sem Op Lib Jvm.Free Jvm.Stand Jvm.LawKit Jvm.RoadKit Bundle Jvm.Pilot.@@N@@.Jvm.D
section Own
open Jvm.FP Jvm.FP.Core
def own_nn (r : UInt64) : Bool := decide (r &&& 0x7fffffffffffffff ≤ 0x7ff0000000000000)
theorem own_nn_iff {r : UInt64} (h : own_nn r = true) : Jvm.Free.Fl.NoNaN64 r := of_decide_eq_true h
/-- k eighths, as a double -/
def own_eighth (k : Int32) : UInt64 := if k = 0 then 0 else if k = 1 then 4593671619917905920 else if k = 2 then 4598175219545276416 else if k = 3 then 4600427019358961664 else if k = 4 then 4602678819172646912 else if k = 5 then 4603804719079489536 else if k = 6 then 4604930618986332160 else 4606056518893174784
def own_m (q : Int32) : UInt64 := FP.dmul (4623226492472524800 : UInt64) (FP.i2d q)
def own_pct (n q : Int32) : UInt64 := FP.ddiv (own_m q) (FP.i2d (n + 1))
def own_pm (n q : Int32) : UInt64 := FP.dmul (FP.i2d (n + 1)) (own_pct n q)
def own_pos (n q : Int32) : UInt64 := FP.ddiv (own_pm n q) (4636737291354636288 : UInt64)
def own_cA (n q : Int32) : Int32 := cmpValue (FP.dcmp (own_pos n q) (4607182418800017408 : UInt64)) .g
def own_cB (n q : Int32) : Int32 := cmpValue (FP.dcmp (own_pos n q) (FP.i2d n)) .l
def own_chk (n q : Int32) : Bool :=
  own_nn (own_m q) && (own_nn (own_pct n q) && (own_nn (own_pm n q) && (own_nn (own_pos n q) &&
  (if q < 8 then decide (own_cA n q < 0) else decide (¬ own_cA n q < 0) &&
   (if q < 8 * n then decide (own_cB n q < 0) && (decide (FP.d2i (own_pos n q) = q / 8) && (own_nn (FP.dsub (own_pos n q) (FP.i2d (q / 8))) && (decide (FP.dsub (own_pos n q) (FP.i2d (q / 8)) = own_eighth (q % 8)) && decide (1 ≤ (q / 8).toInt ∧ (q / 8).toInt < n.toInt ∧ 0 ≤ (q % 8).toInt ∧ (q % 8).toInt < 8))))
    else decide (¬ own_cB n q < 0))))))
set_option maxRecDepth 1000000 in
theorem own_all1 : (List.range 41).all (fun m => own_chk 1 (Int32.ofNat m - 16)) = true := by decide +kernel
set_option maxRecDepth 1000000 in
theorem own_all3 : (List.range 57).all (fun m => own_chk 3 (Int32.ofNat m - 16)) = true := by decide +kernel
set_option maxRecDepth 1000000 in
theorem own_all4 : (List.range 65).all (fun m => own_chk 4 (Int32.ofNat m - 16)) = true := by decide +kernel
set_option maxRecDepth 1000000 in
theorem own_all7 : (List.range 89).all (fun m => own_chk 7 (Int32.ofNat m - 16)) = true := by decide +kernel
set_option maxRecDepth 1000000 in
theorem own_all9 : (List.range 105).all (fun m => own_chk 9 (Int32.ofNat m - 16)) = true := by decide +kernel
theorem own_q (n : Int32) (M : Nat) (w : Int32) (hw : w.toInt = (M : Int)) (hM : 0 < M) (hM2 : M < 1000) (hall : (List.range M).all (fun m => own_chk n (Int32.ofNat m - 16)) = true) (qr : Int32) : own_chk n ((qr &&& (2147483647 : Int32)) % w - (16 : Int32)) = true := by
  have h1 := Jvm.Kit.i32_mask qr 2147483647 (k := 31) (by decide) (by decide)
  have h2 : 0 ≤ qr.toInt % 2 ^ 31 := Int.emod_nonneg _ (by decide)
  have h3 := Jvm.Kit.i32_rem_nonneg (x := qr &&& 2147483647) (y := w) (by rw [h1]; exact h2)
  rw [hw] at h3
  have h4 : 0 ≤ (qr &&& 2147483647).toInt % (M : Int) := Int.emod_nonneg _ (by omega)
  have h5 : (qr &&& 2147483647).toInt % (M : Int) < (M : Int) := Int.emod_lt_of_pos _ (by omega)
  rw [← h3] at h4 h5
  generalize (qr &&& 2147483647) % w = y at *
  have hy : y = Int32.ofNat y.toInt.toNat := Int32.toInt_inj.mp (by rw [show (Int32.ofNat y.toInt.toNat).toInt = ((y.toInt.toNat : Nat) : Int) from Int32.toInt_ofNat_of_lt (by omega)]; omega)
  have := List.all_eq_true.mp hall y.toInt.toNat (List.mem_range.mpr (by omega))
  rw [hy]; exact this
theorem own_five (k : Int32) : (k &&& (2147483647 : Int32)) % (5 : Int32) = 0 ∨ (k &&& (2147483647 : Int32)) % (5 : Int32) = 1 ∨ (k &&& (2147483647 : Int32)) % (5 : Int32) = 2 ∨ (k &&& (2147483647 : Int32)) % (5 : Int32) = 3 ∨ (k &&& (2147483647 : Int32)) % (5 : Int32) = 4 := by
  have h1 := Jvm.Kit.i32_mask k 2147483647 (k := 31) (by decide) (by decide)
  have h2 : 0 ≤ k.toInt % 2 ^ 31 := Int.emod_nonneg _ (by decide)
  have h3 := Jvm.Kit.i32_rem_nonneg (x := k &&& 2147483647) (y := 5) (by rw [h1]; exact h2)
  have e5 : ((5 : Int32)).toInt = 5 := by decide
  rw [e5] at h3
  have h4 : 0 ≤ (k &&& 2147483647).toInt % 5 := Int.emod_nonneg _ (by decide)
  have h5 : (k &&& 2147483647).toInt % 5 < 5 := Int.emod_lt_of_pos _ (by decide)
  rw [← h3] at h4 h5
  generalize (k &&& 2147483647) % 5 = y at *
  have e0 : ((0 : Int32)).toInt = 0 := by decide
  have e1 : ((1 : Int32)).toInt = 1 := by decide
  have e2 : ((2 : Int32)).toInt = 2 := by decide
  have e3 : ((3 : Int32)).toInt = 3 := by decide
  have e4 : ((4 : Int32)).toInt = 4 := by decide
  simp only [← Int32.toInt_inj, e0, e1, e2, e3, e4]
  omega
theorem own_8d : DFin 4620693217682128896 ∧ oz 4620693217682128896 = 8 * (one64 : Int) := by
  refine ⟨⟨false, 2 ^ 52, -49, by decide +kernel⟩, ?_⟩
  unfold oz; decide +kernel
theorem own_e (k : Int32) (h1 : 0 ≤ k.toInt) (h2 : k.toInt < 8) : DFin (own_eighth k) ∧ oz (own_eighth k) = k.toInt * ((2 ^ 1071 : Nat) : Int) := by
  have hk : k = 0 ∨ k = 1 ∨ k = 2 ∨ k = 3 ∨ k = 4 ∨ k = 5 ∨ k = 6 ∨ k = 7 := by
    have e0 : ((0 : Int32)).toInt = 0 := by decide
    have e1 : ((1 : Int32)).toInt = 1 := by decide
    have e2 : ((2 : Int32)).toInt = 2 := by decide
    have e3 : ((3 : Int32)).toInt = 3 := by decide
    have e4 : ((4 : Int32)).toInt = 4 := by decide
    have e5 : ((5 : Int32)).toInt = 5 := by decide
    have e6 : ((6 : Int32)).toInt = 6 := by decide
    have e7 : ((7 : Int32)).toInt = 7 := by decide
    simp only [← Int32.toInt_inj, e0, e1, e2, e3, e4, e5, e6, e7]
    omega
  rcases hk with rfl | rfl | rfl | rfl | rfl | rfl | rfl | rfl <;> refine ⟨(fin_bits _).mpr (by decide +kernel), ?_⟩ <;> unfold oz <;> decide +kernel
theorem own_1071 : (one64 : Int) = 8 * ((2 ^ 1071 : Nat) : Int) := by
  unfold one64; rw [show (2 : Nat) ^ 1074 = 8 * 2 ^ 1071 by rw [show 1074 = 3 + 1071 by rfl, Nat.pow_add]]; push_cast; rfl
/-- times eight against the eightfold: a plain value -/
theorem own_flat {s : Int64} (h : s.toInt.natAbs ≤ 2 ^ 33) : Jvm.Free.Fl.NoNaN64 (FP.dmul (FP.l2d s) (4620693217682128896 : UInt64)) ∧ cmpValue (FP.dcmp (FP.dmul (FP.l2d s) (4620693217682128896 : UInt64)) (FP.l2d ((8 : Int64) * s))) .l = 0 := by
  have fs := l2d_fin s
  have e8 : ((8 : Int64)).toInt = 8 := by decide
  have m8 : ((8 : Int64) * s).toInt = 8 * s.toInt := by rw [Jvm.Kit.i64_mul (by rw [e8]; omega) (by rw [e8]; omega), e8]
  have zs := oz_l2d (x := s) (by omega)
  have z8 := oz_l2d (x := (8 : Int64) * s) (by rw [m8]; omega)
  obtain ⟨f, z⟩ := mul_exact fs own_8d.1 (l2d_fin ((8 : Int64) * s)) (by
    rw [z8, m8, zs, own_8d.2]; simp only [Int.mul_assoc, Int.mul_left_comm, Int.mul_comm])
  exact ⟨nonan f.ne_nan, cmp_eq f (l2d_fin _) z _⟩
theorem own_interp {lo hi : Int64} {k : Int32} (hl : lo.toInt.natAbs ≤ 2 ^ 33) (hg0 : lo.toInt ≤ hi.toInt) (hg1 : hi.toInt ≤ lo.toInt + 255) (hk0 : 0 ≤ k.toInt) (hk1 : k.toInt < 8) :
    Jvm.Free.Fl.NoNaN64 (FP.dsub (FP.l2d hi) (FP.l2d lo)) ∧ Jvm.Free.Fl.NoNaN64 (FP.dmul (own_eighth k) (FP.dsub (FP.l2d hi) (FP.l2d lo))) ∧ Jvm.Free.Fl.NoNaN64 (FP.dadd (FP.l2d lo) (FP.dmul (own_eighth k) (FP.dsub (FP.l2d hi) (FP.l2d lo)))) ∧
    Jvm.Free.Fl.NoNaN64 (FP.dmul (FP.dadd (FP.l2d lo) (FP.dmul (own_eighth k) (FP.dsub (FP.l2d hi) (FP.l2d lo)))) (4620693217682128896 : UInt64)) ∧
    cmpValue (FP.dcmp (FP.dmul (FP.dadd (FP.l2d lo) (FP.dmul (own_eighth k) (FP.dsub (FP.l2d hi) (FP.l2d lo)))) (4620693217682128896 : UInt64)) (FP.l2d (((((8 : Int32) - k).toInt64) * lo) + ((k.toInt64) * hi)))) .l = 0 := by
  have hone := one_pos
  have hBl : B53 lo := by unfold B53; omega
  have hBh : B53 hi := by unfold B53; omega
  have eg : FP.dsub (FP.l2d hi) (FP.l2d lo) = FP.l2d (hi - lo) := dsub_w hBh hBl
  have tg : (hi - lo).toInt = hi.toInt - lo.toInt := sub64 hBh hBl
  rw [eg]
  obtain ⟨fe, ze⟩ := own_e k hk0 hk1
  have zg := oz_l2d (x := hi - lo) (by rw [tg]; omega)
  have zl := oz_l2d (x := lo) (by omega)
  have hp0 : 0 ≤ k.toInt * (hi.toInt - lo.toInt) := Int.mul_nonneg hk0 (by omega)
  have hp1 : k.toInt * (hi.toInt - lo.toInt) ≤ 7 * 255 := by
    have a1 : k.toInt * (hi.toInt - lo.toInt) ≤ 7 * (hi.toInt - lo.toInt) := Int.mul_le_mul_of_nonneg_right (by omega) (by omega)
    omega
  obtain ⟨V, fV, zV⟩ := own_rep (k.toInt * (hi.toInt - lo.toInt)) 1071 (by omega) (by omega)
  obtain ⟨fm, zm⟩ := mul_exact fe (l2d_fin (hi - lo)) fV (by
    rw [zV, ze, zg, tg]; simp only [Int.mul_assoc, Int.mul_left_comm, Int.mul_comm])
  rw [zV] at zm
  obtain ⟨U, fU, zU⟩ := own_rep (8 * lo.toInt + k.toInt * (hi.toInt - lo.toInt)) 1071 (by omega) (by omega)
  obtain ⟨fa, za⟩ := add_exact (l2d_fin lo) fm fU (by
    rw [zU, zl, zm, Int.add_mul, own_1071]; congr 1; simp only [Int.mul_assoc, Int.mul_left_comm, Int.mul_comm])
  rw [zU] at za
  have e8 : ((8 : Int32)).toInt = 8 := by decide
  have t8 : ((8 : Int32) - k).toInt = 8 - k.toInt := by rw [Jvm.Kit.i32_sub (by rw [e8]; omega) (by rw [e8]; omega), e8]
  have b1 : ((8 - k.toInt) * lo.toInt).natAbs ≤ 2 ^ 36 := by
    rw [Int.natAbs_mul]
    calc (8 - k.toInt).natAbs * lo.toInt.natAbs ≤ 8 * 2 ^ 33 := Nat.mul_le_mul (by omega) hl
      _ = 2 ^ 36 := by decide
  have b2 : (k.toInt * hi.toInt).natAbs ≤ 2 ^ 37 := by
    rw [Int.natAbs_mul]
    calc k.toInt.natAbs * hi.toInt.natAbs ≤ 8 * 2 ^ 34 := Nat.mul_le_mul (by omega) (by omega)
      _ = 2 ^ 37 := by decide
  have m1 : ((((8 : Int32) - k).toInt64) * lo).toInt = (8 - k.toInt) * lo.toInt := by
    rw [Jvm.Kit.i64_mul (by rw [Jvm.Kit.i64_of_i32, t8]; omega) (by rw [Jvm.Kit.i64_of_i32, t8]; omega), Jvm.Kit.i64_of_i32, t8]
  have m2 : ((k.toInt64) * hi).toInt = k.toInt * hi.toInt := by
    rw [Jvm.Kit.i64_mul (by rw [Jvm.Kit.i64_of_i32]; omega) (by rw [Jvm.Kit.i64_of_i32]; omega), Jvm.Kit.i64_of_i32]
  have m3 : (((((8 : Int32) - k).toInt64) * lo) + ((k.toInt64) * hi)).toInt = 8 * lo.toInt + k.toInt * (hi.toInt - lo.toInt) := by
    rw [Jvm.Kit.i64_add (by rw [m1, m2]; omega) (by rw [m1, m2]; omega), m1, m2, Int.sub_mul, Int.mul_sub]; omega
  have zx := oz_l2d (x := ((((8 : Int32) - k).toInt64) * lo) + ((k.toInt64) * hi)) (by rw [m3]; omega)
  obtain ⟨f8, z8⟩ := mul_exact fa own_8d.1 (l2d_fin (((((8 : Int32) - k).toInt64) * lo) + ((k.toInt64) * hi))) (by
    rw [zx, m3, za, own_8d.2]
    conv => lhs; rw [Int.mul_assoc]; arg 2; arg 1; rw [own_1071]
    simp only [Int.mul_assoc, Int.mul_left_comm, Int.mul_comm])
  exact ⟨nonan (l2d_fin _).ne_nan, nonan fm.ne_nan, nonan fa.ne_nan, nonan f8.ne_nan, cmp_eq f8 (l2d_fin _) z8 _⟩
theorem own_gap (g : Int64) : 0 ≤ (g &&& (255 : Int64)).toInt ∧ (g &&& (255 : Int64)).toInt ≤ 255 := by
  have h1 := Jvm.Kit.i64_mask g 255 (k := 8) (by decide) (by decide)
  have h2 : 0 ≤ g.toInt % 2 ^ 8 := Int.emod_nonneg _ (by decide)
  have h3 : g.toInt % 2 ^ 8 < 2 ^ 8 := Int.emod_lt_of_pos _ (by decide)
  rw [h1]; omega
theorem own_next {s t g : Int64} (K : Int) (h : s.toInt.natAbs ≤ K) (hK : K < 2 ^ 40) (e : s + (g &&& (255 : Int64)) = t) : s.toInt ≤ t.toInt ∧ t.toInt ≤ s.toInt + 255 := by
  have hg := own_gap g
  subst e
  rw [Jvm.Kit.i64_add (by omega) (by omega)]; omega
theorem own_base (b : Int32) : (b.toInt64).toInt.natAbs ≤ 2147483648 := by
  rw [Jvm.Kit.i64_of_i32]; have h1 := Int32.toInt_lt b; have h2 := Int32.le_toInt b; omega
theorem own_get (f : Int64 → Value) (dv : Value) : ∀ (ss : List Int64) (i : Nat), i < ss.length → (ss.map f).getD i dv = f (ss.getD i 0)
  | [], i, h => absurd h (Nat.not_lt_zero _)
  | a :: t, 0, _ => rfl
  | a :: t, i + 1, h => by
    show (t.map f).getD i dv = f (t.getD i 0)
    exact own_get f dv t i (by simpa using h)
def Chain : List Int64 → Prop
  | a :: b :: t => (a.toInt ≤ b.toInt ∧ b.toInt ≤ a.toInt + 255) ∧ Chain (b :: t)
  | _ => True
theorem own_chain : ∀ (ss : List Int64) (i : Nat), Chain ss → i + 1 < ss.length → (ss.getD i 0).toInt ≤ (ss.getD (i + 1) 0).toInt ∧ (ss.getD (i + 1) 0).toInt ≤ (ss.getD i 0).toInt + 255
  | [], i, _, h => absurd h (Nat.not_lt_zero _)
  | [a], i, _, h => by simp at h
  | a :: b :: t, 0, hc, _ => hc.1
  | a :: b :: t, i + 1, hc, h => own_chain (b :: t) i hc.2 (by simpa using h)
theorem own_all_small {K : Nat} : ∀ (ss : List Int64) (i : Nat), (∀ x ∈ ss, x.toInt.natAbs ≤ K) → (ss.getD i 0).toInt.natAbs ≤ K
  | [], i, _ => by simp
  | a :: t, 0, h => h a (List.mem_cons_self ..)
  | a :: t, i + 1, h => own_all_small t i (fun x hx => h x (List.mem_cons_of_mem _ hx))
theorem own_idx {b : Int32} (h1 : 1 ≤ b.toInt) : (b - 1).toInt = b.toInt - 1 := by
  have e : ((1 : Int32)).toInt = 1 := by decide
  have h2 := Int32.toInt_lt b
  rw [Jvm.Kit.i32_sub (by rw [e]; omega) (by rw [e]; omega), e]
end Own

def QN (Z : State) (N : Int32) (vs : List Value) (h0 : Heap) (n0 : Nat) (v : Option Value) (h : Heap) (L : List Loc) : Prop := ∃ (b : Addr) (k : ClassId), v = some (.ref b) ∧ Fr n0 L ∧ n0 ≤ b ∧ h0.size ≤ b ∧ Keep h0 h [] ∧ Arv Z h b k .double N vs (.double (0 : UInt64))
theorem d_method_3_code_0 : decode method_3_code 0 = .ok (.iload_n 0, 1) := by decide +kernel
theorem d_method_3_code_1 : decode method_3_code 1 = .ok (.iconst 1, 1) := by decide +kernel
theorem d_method_3_code_2 : decode method_3_code 2 = .ok (.if_icmp .ne 14, 3) := by decide +kernel
theorem d_method_3_code_5 : decode method_3_code 5 = .ok (.iconst 1, 1) := by decide +kernel
theorem d_method_3_code_6 : decode method_3_code 6 = .ok (.newarray .double, 2) := by decide +kernel
theorem d_method_3_code_8 : decode method_3_code 8 = .ok (.dup, 1) := by decide +kernel
theorem d_method_3_code_9 : decode method_3_code 9 = .ok (.iconst 0, 1) := by decide +kernel
theorem d_method_3_code_10 : decode method_3_code 10 = .ok (.aload_n 1, 1) := by decide +kernel
theorem d_method_3_code_11 : decode method_3_code 11 = .ok (.iconst 0, 1) := by decide +kernel
theorem d_method_3_code_12 : decode method_3_code 12 = .ok (.laload, 1) := by decide +kernel
theorem d_method_3_code_13 : decode method_3_code 13 = .ok (.l2d, 1) := by decide +kernel
theorem d_method_3_code_14 : decode method_3_code 14 = .ok (.dastore, 1) := by decide +kernel
theorem d_method_3_code_15 : decode method_3_code 15 = .ok (.areturn, 1) := by decide +kernel
theorem pn_com_example_bytegauge_bytegauge_stats_JsonTablePercentilePinLaw : plainName "com/example/bytegauge/bytegauge/stats/JsonTablePercentilePinLaw" = true := by first | (simp [plainName, overriddenIn]; done) | decide +kernel
theorem ef_method_3_code (m : MethodId) (x0 : Int32) (x1 : Addr) : entryFrame m #[(.int x0), (.ref x1)] 2 = mkF m 0 #[.val (.int x0), .val (.ref x1)] [] := by first | (simp [entryFrame, mkF, argsToLocals, Value.category]; done) | rfl
set_option maxRecDepth 65536 in
set_option maxHeartbeats 40000000 in
theorem rmS1 (l : Launch) (Z : State) (a0 : Array Value) (hw : ∀ d ∈ tables_1, d.before a0 Z = true) (ws : List Jvm.Cond) (a1 : Addr) (kA : ClassId) (s0 s1 s2 s3 s4 s5 s6 s7 s8 : Int64) (h0 : Heap) (n0 : Nat) (Z0 : n0 ≤ h0.size) (V_a1 : Arv Z h0 a1 kA .long (9 : Int32) [(.long s0), (.long s1), (.long s2), (.long s3), (.long s4), (.long s5), (.long s6), (.long s7), (.long s8)] (.long (0 : Int64)))  :
    MetFree l (⟨"com/example/bytegauge/bytegauge/stats/JsonTablePercentilePinLaw", "sortedOf", "(I[J)[D"⟩ : MethodName) (head1 (Jvm.Cond.code (⟨"com/example/bytegauge/bytegauge/stats/JsonTablePercentilePinLaw", "sortedOf", "(I[J)[D"⟩ : MethodName) method_3_code 2 (some (.array .double)) :: ws) ({ frames := 0, cells := 1, slots := 1, locals := 0 } : Room)) (fun a U => a = #[(.int (1 : Int32)), (.ref a1)] ∧ Z.Warmed39 U.vm ∧ U.heap = h0) (fun _ _ _ _ _ => True) (fun _ U o U' => ∃ v L, o = .returned v ∧ QN Z (1 : Int32) [(.double (FP.l2d s0))] h0 n0 v U'.heap L ∧ FrameEnd U o U' L ({ frames := 0, cells := 1, slots := 1, locals := 0 } : Room).cells ({ frames := 0, cells := 1, slots := 1, locals := 0 } : Room).slots) := by
  refine MetFree.of_bodySF (plainFor_of_name pn_com_example_bytegauge_bytegauge_stats_JsonTablePercentilePinLaw) hisR ?_
  intro p e s m args below meth c s₁ Bd hml0 hP hK
  obtain ⟨rfl, hZ, hh⟩ := hP
  have hx := Bd.exec
  have hby := Bd.bytes
  have hml : c.maxLocals = 2 := hml0
  have hown : s.vm.findClass "com/example/bytegauge/bytegauge/stats/JsonTablePercentilePinLaw" = some m.cls := findClass_of_methodNamed Bd.named
  have hnm := (name_of_methodNamed Bd.named Bd.method).1
  have X0 : Stand p l e ({ frames := 0, cells := 1, slots := 1, locals := 0 } : Room) s m #[(.int (1 : Int32)), (.ref a1)] below meth c s₁ [] 0 0 := Stand.of_body Bd
  have e0 : s₁.heap = h0 := by rw [← hh, Bd.state]; rfl
  have N0 := Fr.nil n0
  have pre0 : ∀ t, Steps p.tables e below (s₁.setTop (mkF m 0 #[.val (.int (1 : Int32)), .val (.ref a1)] [])) t → Steps p.tables e below (s₁.setTop (entryFrame m #[(.int (1 : Int32)), (.ref a1)] 2)) t := fun t k => castTop (ef_method_3_code m (1 : Int32) a1) k
  have K0 := Keep.refl h0 []
  obtain ⟨T1, h1, k1, X1, e1, E1, A1, st1⟩ := newP X0 hx hZ (hw _ (List.mem_of_getElem? (i := 7) rfl)) e0 (g := (mkF m 6 #[.val (.int (1 : Int32)), .val (.ref a1)] [(.int (1 : Int32))])) rfl (hb hby d_method_3_code_6) rfl (by decide) (cap := 1) (by decide) (by decide) (by decide) (by decide)
  obtain ⟨b1, g1⟩ : ∃ z, z = h0.size := ⟨_, rfl⟩
  rw [← g1] at A1 st1
  have g_b1 : n0 ≤ b1 := Nat.le_trans Z0 (Nat.le_of_eq g1.symm)
  have sz_b1 : h0.size ≤ b1 := Nat.le_trans K0.1 (Nat.le_of_eq g1.symm)
  have ne_a1_b1 : a1 ≠ b1 := Nat.ne_of_lt (Nat.lt_of_lt_of_le V_a1.lt (Nat.le_of_eq g1.symm))
  have c1_0 := V_a1.ext E1
  have SZ1 := Nat.le_trans Z0 E1.1
  have K1 := K0.ext E1
  have V1 : Arv Z h1 b1 k1 .double (1 : Int32) [(.double (0 : UInt64))] (.double (0 : UInt64)) := (Arv.new A1 (by decide)).pad (pad_rep [] (.double (0 : UInt64)) 1)
  obtain ⟨cl2, Ar2, -, S2, Nn2, H2, -⟩ := id c1_0
  have hin2 : ¬ ((0 : Int32) < 0 ∨ cl2.slots.size ≤ ((0 : Int32)).toNatClampNeg) := inb_of S2 ⟨by decide, by decide⟩
  have hat2 : cl2.slots[((0 : Int32)).toNatClampNeg]? = some (.long s0) := H2.at hin2 rfl
  obtain ⟨cl3, Ar3, q3, S3, Nn3, H3, G3⟩ := id V1
  have hin3 : ¬ ((0 : Int32) < 0 ∨ cl3.slots.size ≤ ((0 : Int32)).toNatClampNeg) := inb_of S3 ⟨by decide, by decide⟩
  obtain ⟨T3, h3, X3, e3, W3, st3⟩ := stD X1 hx hZ e1 Ar3 (j := (0 : Int32)) hin3 (g := (mkF m 14 #[.val (.int (1 : Int32)), .val (.ref a1)] [(.double (FP.l2d s0)), (.int (0 : Int32)), (.ref b1), (.ref b1)])) rfl rfl (hb hby d_method_3_code_14)
  have V3 := Arv.set Ar3 q3 S3 Nn3 H3 G3 rfl W3 0 rfl (Nat.le_of_ble_eq_true rfl)
  replace V3 : Arv Z h3 b1 k1 .double (1 : Int32) [(.double (FP.l2d s0))] (.double (0 : UInt64)) := V3
  have c3_0 := c1_0.other W3 ne_a1_b1
  have SZ3 := Nat.le_trans SZ1 (Keep.of_wr W3).1
  have K3 := K1.wr W3 (Or.inr sz_b1)
  have N3 := Fr.snoc X3 N0 g_b1
  obtain ⟨fs, hr, hrun, hended, hW, hsame⟩ := X3.leave (v := some (.ref b1)) (fun h => by rw [Bd.returns] at h; cases h)
  refine ⟨_, _, pre0 _ ?_, hrun, hended, _, _, rfl, ?_, ⟨_, rfl⟩, hW, hsame.mono (by decide) (by decide)⟩
  · show Steps p.tables e below (s₁.setTop (mkF m 0 #[.val (.int (1 : Int32)), .val (.ref a1)] [])) _
    refine XS.iloadN X0.here hx rfl (hb hby d_method_3_code_0) rfl ?_
    refine XS.iconst X0.here hx rfl (hb hby d_method_3_code_1) ?_
    refine XS.icmpNo X0.here hx rfl (hb hby d_method_3_code_2) rfl (teq (by decide : (1 : Int32) = (1 : Int32))).2 ?_
    show Steps p.tables e below (s₁.setTop (mkF m 5 #[.val (.int (1 : Int32)), .val (.ref a1)] [])) _
    refine XS.iconst X0.here hx rfl (hb hby d_method_3_code_5) ?_
    show Steps p.tables e below (s₁.setTop (mkF m 6 #[.val (.int (1 : Int32)), .val (.ref a1)] [(.int (1 : Int32))])) _
    refine st1 _ ?_
    refine XS.dup X1.here hx rfl (hb hby d_method_3_code_8) rfl rfl ?_
    refine XS.iconst X1.here hx rfl (hb hby d_method_3_code_9) ?_
    show Steps p.tables e below (T1.setTop (mkF m 10 #[.val (.int (1 : Int32)), .val (.ref a1)] [(.int (0 : Int32)), (.ref b1), (.ref b1)])) _
    refine XS.aloadN X1.here hx rfl (hb hby d_method_3_code_10) rfl rfl ?_
    refine XS.iconst X1.here hx rfl (hb hby d_method_3_code_11) ?_
    show Steps p.tables e below (T1.setTop (mkF m 12 #[.val (.int (1 : Int32)), .val (.ref a1)] [(.int (0 : Int32)), (.ref a1), (.int (0 : Int32)), (.ref b1), (.ref b1)])) _
    refine X1.laload hx (j := (0 : Int32)) (v := (.long s0)) (by rw [e1]; exact Ar2.1) (State.isArrayOf_alike hZ.alike Ar2.2.1) Ar2.2.2 hin2 hat2 (g := (mkF m 12 #[.val (.int (1 : Int32)), .val (.ref a1)] [(.int (0 : Int32)), (.ref a1), (.int (0 : Int32)), (.ref b1), (.ref b1)])) rfl rfl (hb hby d_method_3_code_12) _ ?_
    refine XS.l2dS X1.here hx rfl (hb hby d_method_3_code_13) rfl (v := (FP.l2d s0)) (rfl) ?_
    show Steps p.tables e below (T1.setTop (mkF m 14 #[.val (.int (1 : Int32)), .val (.ref a1)] [(.double (FP.l2d s0)), (.int (0 : Int32)), (.ref b1), (.ref b1)])) _
    refine st3 _ ?_
    show Steps p.tables e below (T3.setTop (mkF m 15 #[.val (.int (1 : Int32)), .val (.ref a1)] [(.ref b1)])) _
    exact retOut X3 hx (t := (.array .double)) Bd.returns rfl (Or.inr (Or.inr (Or.inr (Or.inr ⟨rfl, rfl, rfl⟩)))) (hb hby d_method_3_code_15) hr
  · show QN Z (1 : Int32) [(.double (FP.l2d s0))] h0 n0 _ T3.heap _
    rw [e3]
    exact ⟨b1, _, rfl, N3, g_b1, sz_b1, K3, V3⟩
theorem d_method_3_code_16 : decode method_3_code 16 = .ok (.iload_n 0, 1) := by decide +kernel
theorem d_method_3_code_17 : decode method_3_code 17 = .ok (.iconst 3, 1) := by decide +kernel
theorem d_method_3_code_18 : decode method_3_code 18 = .ok (.if_icmp .ne 28, 3) := by decide +kernel
theorem d_method_3_code_21 : decode method_3_code 21 = .ok (.iconst 3, 1) := by decide +kernel
theorem d_method_3_code_22 : decode method_3_code 22 = .ok (.newarray .double, 2) := by decide +kernel
theorem d_method_3_code_24 : decode method_3_code 24 = .ok (.dup, 1) := by decide +kernel
theorem d_method_3_code_25 : decode method_3_code 25 = .ok (.iconst 0, 1) := by decide +kernel
theorem d_method_3_code_26 : decode method_3_code 26 = .ok (.aload_n 1, 1) := by decide +kernel
theorem d_method_3_code_27 : decode method_3_code 27 = .ok (.iconst 0, 1) := by decide +kernel
theorem d_method_3_code_28 : decode method_3_code 28 = .ok (.laload, 1) := by decide +kernel
theorem d_method_3_code_29 : decode method_3_code 29 = .ok (.l2d, 1) := by decide +kernel
theorem d_method_3_code_30 : decode method_3_code 30 = .ok (.dastore, 1) := by decide +kernel
theorem d_method_3_code_31 : decode method_3_code 31 = .ok (.dup, 1) := by decide +kernel
theorem d_method_3_code_32 : decode method_3_code 32 = .ok (.iconst 1, 1) := by decide +kernel
theorem d_method_3_code_33 : decode method_3_code 33 = .ok (.aload_n 1, 1) := by decide +kernel
theorem d_method_3_code_34 : decode method_3_code 34 = .ok (.iconst 1, 1) := by decide +kernel
theorem d_method_3_code_35 : decode method_3_code 35 = .ok (.laload, 1) := by decide +kernel
theorem d_method_3_code_36 : decode method_3_code 36 = .ok (.l2d, 1) := by decide +kernel
theorem d_method_3_code_37 : decode method_3_code 37 = .ok (.dastore, 1) := by decide +kernel
theorem d_method_3_code_38 : decode method_3_code 38 = .ok (.dup, 1) := by decide +kernel
theorem d_method_3_code_39 : decode method_3_code 39 = .ok (.iconst 2, 1) := by decide +kernel
theorem d_method_3_code_40 : decode method_3_code 40 = .ok (.aload_n 1, 1) := by decide +kernel
theorem d_method_3_code_41 : decode method_3_code 41 = .ok (.iconst 2, 1) := by decide +kernel
theorem d_method_3_code_42 : decode method_3_code 42 = .ok (.laload, 1) := by decide +kernel
theorem d_method_3_code_43 : decode method_3_code 43 = .ok (.l2d, 1) := by decide +kernel
theorem d_method_3_code_44 : decode method_3_code 44 = .ok (.dastore, 1) := by decide +kernel
theorem d_method_3_code_45 : decode method_3_code 45 = .ok (.areturn, 1) := by decide +kernel
set_option maxRecDepth 65536 in
set_option maxHeartbeats 40000000 in
theorem rmS3 (l : Launch) (Z : State) (a0 : Array Value) (hw : ∀ d ∈ tables_1, d.before a0 Z = true) (ws : List Jvm.Cond) (a1 : Addr) (kA : ClassId) (s0 s1 s2 s3 s4 s5 s6 s7 s8 : Int64) (h0 : Heap) (n0 : Nat) (Z0 : n0 ≤ h0.size) (V_a1 : Arv Z h0 a1 kA .long (9 : Int32) [(.long s0), (.long s1), (.long s2), (.long s3), (.long s4), (.long s5), (.long s6), (.long s7), (.long s8)] (.long (0 : Int64)))  :
    MetFree l (⟨"com/example/bytegauge/bytegauge/stats/JsonTablePercentilePinLaw", "sortedOf", "(I[J)[D"⟩ : MethodName) (head1 (Jvm.Cond.code (⟨"com/example/bytegauge/bytegauge/stats/JsonTablePercentilePinLaw", "sortedOf", "(I[J)[D"⟩ : MethodName) method_3_code 2 (some (.array .double)) :: ws) ({ frames := 0, cells := 1, slots := 3, locals := 0 } : Room)) (fun a U => a = #[(.int (3 : Int32)), (.ref a1)] ∧ Z.Warmed39 U.vm ∧ U.heap = h0) (fun _ _ _ _ _ => True) (fun _ U o U' => ∃ v L, o = .returned v ∧ QN Z (3 : Int32) [(.double (FP.l2d s0)), (.double (FP.l2d s1)), (.double (FP.l2d s2))] h0 n0 v U'.heap L ∧ FrameEnd U o U' L ({ frames := 0, cells := 1, slots := 3, locals := 0 } : Room).cells ({ frames := 0, cells := 1, slots := 3, locals := 0 } : Room).slots) := by
  refine MetFree.of_bodySF (plainFor_of_name pn_com_example_bytegauge_bytegauge_stats_JsonTablePercentilePinLaw) hisR ?_
  intro p e s m args below meth c s₁ Bd hml0 hP hK
  obtain ⟨rfl, hZ, hh⟩ := hP
  have hx := Bd.exec
  have hby := Bd.bytes
  have hml : c.maxLocals = 2 := hml0
  have hown : s.vm.findClass "com/example/bytegauge/bytegauge/stats/JsonTablePercentilePinLaw" = some m.cls := findClass_of_methodNamed Bd.named
  have hnm := (name_of_methodNamed Bd.named Bd.method).1
  have X0 : Stand p l e ({ frames := 0, cells := 1, slots := 3, locals := 0 } : Room) s m #[(.int (3 : Int32)), (.ref a1)] below meth c s₁ [] 0 0 := Stand.of_body Bd
  have e0 : s₁.heap = h0 := by rw [← hh, Bd.state]; rfl
  have N0 := Fr.nil n0
  have pre0 : ∀ t, Steps p.tables e below (s₁.setTop (mkF m 0 #[.val (.int (3 : Int32)), .val (.ref a1)] [])) t → Steps p.tables e below (s₁.setTop (entryFrame m #[(.int (3 : Int32)), (.ref a1)] 2)) t := fun t k => castTop (ef_method_3_code m (3 : Int32) a1) k
  have K0 := Keep.refl h0 []
  obtain ⟨T1, h1, k1, X1, e1, E1, A1, st1⟩ := newP X0 hx hZ (hw _ (List.mem_of_getElem? (i := 7) rfl)) e0 (g := (mkF m 22 #[.val (.int (3 : Int32)), .val (.ref a1)] [(.int (3 : Int32))])) rfl (hb hby d_method_3_code_22) rfl (by decide) (cap := 3) (by decide) (by decide) (by decide) (by decide)
  obtain ⟨b1, g1⟩ : ∃ z, z = h0.size := ⟨_, rfl⟩
  rw [← g1] at A1 st1
  have g_b1 : n0 ≤ b1 := Nat.le_trans Z0 (Nat.le_of_eq g1.symm)
  have sz_b1 : h0.size ≤ b1 := Nat.le_trans K0.1 (Nat.le_of_eq g1.symm)
  have ne_a1_b1 : a1 ≠ b1 := Nat.ne_of_lt (Nat.lt_of_lt_of_le V_a1.lt (Nat.le_of_eq g1.symm))
  have c1_0 := V_a1.ext E1
  have SZ1 := Nat.le_trans Z0 E1.1
  have K1 := K0.ext E1
  have V1 : Arv Z h1 b1 k1 .double (3 : Int32) [(.double (0 : UInt64)), (.double (0 : UInt64)), (.double (0 : UInt64))] (.double (0 : UInt64)) := (Arv.new A1 (by decide)).pad (pad_rep [] (.double (0 : UInt64)) 3)
  obtain ⟨cl2, Ar2, -, S2, Nn2, H2, -⟩ := id c1_0
  have hin2 : ¬ ((0 : Int32) < 0 ∨ cl2.slots.size ≤ ((0 : Int32)).toNatClampNeg) := inb_of S2 ⟨by decide, by decide⟩
  have hat2 : cl2.slots[((0 : Int32)).toNatClampNeg]? = some (.long s0) := H2.at hin2 rfl
  obtain ⟨cl3, Ar3, q3, S3, Nn3, H3, G3⟩ := id V1
  have hin3 : ¬ ((0 : Int32) < 0 ∨ cl3.slots.size ≤ ((0 : Int32)).toNatClampNeg) := inb_of S3 ⟨by decide, by decide⟩
  obtain ⟨T3, h3, X3, e3, W3, st3⟩ := stD X1 hx hZ e1 Ar3 (j := (0 : Int32)) hin3 (g := (mkF m 30 #[.val (.int (3 : Int32)), .val (.ref a1)] [(.double (FP.l2d s0)), (.int (0 : Int32)), (.ref b1), (.ref b1)])) rfl rfl (hb hby d_method_3_code_30)
  have V3 := Arv.set Ar3 q3 S3 Nn3 H3 G3 rfl W3 0 rfl (Nat.le_of_ble_eq_true rfl)
  replace V3 : Arv Z h3 b1 k1 .double (3 : Int32) [(.double (FP.l2d s0)), (.double (0 : UInt64)), (.double (0 : UInt64))] (.double (0 : UInt64)) := V3
  have c3_0 := c1_0.other W3 ne_a1_b1
  have SZ3 := Nat.le_trans SZ1 (Keep.of_wr W3).1
  have K3 := K1.wr W3 (Or.inr sz_b1)
  have N3 := Fr.snoc X3 N0 g_b1
  obtain ⟨cl4, Ar4, -, S4, Nn4, H4, -⟩ := id c3_0
  have hin4 : ¬ ((1 : Int32) < 0 ∨ cl4.slots.size ≤ ((1 : Int32)).toNatClampNeg) := inb_of S4 ⟨by decide, by decide⟩
  have hat4 : cl4.slots[((1 : Int32)).toNatClampNeg]? = some (.long s1) := H4.at hin4 rfl
  obtain ⟨cl5, Ar5, q5, S5, Nn5, H5, G5⟩ := id V3
  have hin5 : ¬ ((1 : Int32) < 0 ∨ cl5.slots.size ≤ ((1 : Int32)).toNatClampNeg) := inb_of S5 ⟨by decide, by decide⟩
  obtain ⟨T5, h5, X5, e5, W5, st5⟩ := stD X3 hx hZ e3 Ar5 (j := (1 : Int32)) hin5 (g := (mkF m 37 #[.val (.int (3 : Int32)), .val (.ref a1)] [(.double (FP.l2d s1)), (.int (1 : Int32)), (.ref b1), (.ref b1)])) rfl rfl (hb hby d_method_3_code_37)
  have V5 := Arv.set Ar5 q5 S5 Nn5 H5 G5 rfl W5 1 rfl (Nat.le_of_ble_eq_true rfl)
  replace V5 : Arv Z h5 b1 k1 .double (3 : Int32) [(.double (FP.l2d s0)), (.double (FP.l2d s1)), (.double (0 : UInt64))] (.double (0 : UInt64)) := V5
  have c5_0 := c3_0.other W5 ne_a1_b1
  have SZ5 := Nat.le_trans SZ3 (Keep.of_wr W5).1
  have K5 := K3.wr W5 (Or.inr sz_b1)
  have N5 := Fr.snoc X5 N3 g_b1
  obtain ⟨cl6, Ar6, -, S6, Nn6, H6, -⟩ := id c5_0
  have hin6 : ¬ ((2 : Int32) < 0 ∨ cl6.slots.size ≤ ((2 : Int32)).toNatClampNeg) := inb_of S6 ⟨by decide, by decide⟩
  have hat6 : cl6.slots[((2 : Int32)).toNatClampNeg]? = some (.long s2) := H6.at hin6 rfl
  obtain ⟨cl7, Ar7, q7, S7, Nn7, H7, G7⟩ := id V5
  have hin7 : ¬ ((2 : Int32) < 0 ∨ cl7.slots.size ≤ ((2 : Int32)).toNatClampNeg) := inb_of S7 ⟨by decide, by decide⟩
  obtain ⟨T7, h7, X7, e7, W7, st7⟩ := stD X5 hx hZ e5 Ar7 (j := (2 : Int32)) hin7 (g := (mkF m 44 #[.val (.int (3 : Int32)), .val (.ref a1)] [(.double (FP.l2d s2)), (.int (2 : Int32)), (.ref b1), (.ref b1)])) rfl rfl (hb hby d_method_3_code_44)
  have V7 := Arv.set Ar7 q7 S7 Nn7 H7 G7 rfl W7 2 rfl (Nat.le_of_ble_eq_true rfl)
  replace V7 : Arv Z h7 b1 k1 .double (3 : Int32) [(.double (FP.l2d s0)), (.double (FP.l2d s1)), (.double (FP.l2d s2))] (.double (0 : UInt64)) := V7
  have c7_0 := c5_0.other W7 ne_a1_b1
  have SZ7 := Nat.le_trans SZ5 (Keep.of_wr W7).1
  have K7 := K5.wr W7 (Or.inr sz_b1)
  have N7 := Fr.snoc X7 N5 g_b1
  obtain ⟨fs, hr, hrun, hended, hW, hsame⟩ := X7.leave (v := some (.ref b1)) (fun h => by rw [Bd.returns] at h; cases h)
  refine ⟨_, _, pre0 _ ?_, hrun, hended, _, _, rfl, ?_, ⟨_, rfl⟩, hW, hsame.mono (by decide) (by decide)⟩
  · show Steps p.tables e below (s₁.setTop (mkF m 0 #[.val (.int (3 : Int32)), .val (.ref a1)] [])) _
    refine XS.iloadN X0.here hx rfl (hb hby d_method_3_code_0) rfl ?_
    refine XS.iconst X0.here hx rfl (hb hby d_method_3_code_1) ?_
    refine XS.icmpYes X0.here hx rfl (pc0 := 2) (pc' := 16) rfl (hb hby d_method_3_code_2) rfl (feq (by decide : ¬ ((3 : Int32) = (1 : Int32)))).2 (by decide) (by decide) ?_
    show Steps p.tables e below (s₁.setTop (mkF m 16 #[.val (.int (3 : Int32)), .val (.ref a1)] [])) _
    refine XS.iloadN X0.here hx rfl (hb hby d_method_3_code_16) rfl ?_
    refine XS.iconst X0.here hx rfl (hb hby d_method_3_code_17) ?_
    refine XS.icmpNo X0.here hx rfl (hb hby d_method_3_code_18) rfl (teq (by decide : (3 : Int32) = (3 : Int32))).2 ?_
    show Steps p.tables e below (s₁.setTop (mkF m 21 #[.val (.int (3 : Int32)), .val (.ref a1)] [])) _
    refine XS.iconst X0.here hx rfl (hb hby d_method_3_code_21) ?_
    show Steps p.tables e below (s₁.setTop (mkF m 22 #[.val (.int (3 : Int32)), .val (.ref a1)] [(.int (3 : Int32))])) _
    refine st1 _ ?_
    refine XS.dup X1.here hx rfl (hb hby d_method_3_code_24) rfl rfl ?_
    refine XS.iconst X1.here hx rfl (hb hby d_method_3_code_25) ?_
    show Steps p.tables e below (T1.setTop (mkF m 26 #[.val (.int (3 : Int32)), .val (.ref a1)] [(.int (0 : Int32)), (.ref b1), (.ref b1)])) _
    refine XS.aloadN X1.here hx rfl (hb hby d_method_3_code_26) rfl rfl ?_
    refine XS.iconst X1.here hx rfl (hb hby d_method_3_code_27) ?_
    show Steps p.tables e below (T1.setTop (mkF m 28 #[.val (.int (3 : Int32)), .val (.ref a1)] [(.int (0 : Int32)), (.ref a1), (.int (0 : Int32)), (.ref b1), (.ref b1)])) _
    refine X1.laload hx (j := (0 : Int32)) (v := (.long s0)) (by rw [e1]; exact Ar2.1) (State.isArrayOf_alike hZ.alike Ar2.2.1) Ar2.2.2 hin2 hat2 (g := (mkF m 28 #[.val (.int (3 : Int32)), .val (.ref a1)] [(.int (0 : Int32)), (.ref a1), (.int (0 : Int32)), (.ref b1), (.ref b1)])) rfl rfl (hb hby d_method_3_code_28) _ ?_
    refine XS.l2dS X1.here hx rfl (hb hby d_method_3_code_29) rfl (v := (FP.l2d s0)) (rfl) ?_
    show Steps p.tables e below (T1.setTop (mkF m 30 #[.val (.int (3 : Int32)), .val (.ref a1)] [(.double (FP.l2d s0)), (.int (0 : Int32)), (.ref b1), (.ref b1)])) _
    refine st3 _ ?_
    refine XS.dup X3.here hx rfl (hb hby d_method_3_code_31) rfl rfl ?_
    refine XS.iconst X3.here hx rfl (hb hby d_method_3_code_32) ?_
    show Steps p.tables e below (T3.setTop (mkF m 33 #[.val (.int (3 : Int32)), .val (.ref a1)] [(.int (1 : Int32)), (.ref b1), (.ref b1)])) _
    refine XS.aloadN X3.here hx rfl (hb hby d_method_3_code_33) rfl rfl ?_
    refine XS.iconst X3.here hx rfl (hb hby d_method_3_code_34) ?_
    show Steps p.tables e below (T3.setTop (mkF m 35 #[.val (.int (3 : Int32)), .val (.ref a1)] [(.int (1 : Int32)), (.ref a1), (.int (1 : Int32)), (.ref b1), (.ref b1)])) _
    refine X3.laload hx (j := (1 : Int32)) (v := (.long s1)) (by rw [e3]; exact Ar4.1) (State.isArrayOf_alike hZ.alike Ar4.2.1) Ar4.2.2 hin4 hat4 (g := (mkF m 35 #[.val (.int (3 : Int32)), .val (.ref a1)] [(.int (1 : Int32)), (.ref a1), (.int (1 : Int32)), (.ref b1), (.ref b1)])) rfl rfl (hb hby d_method_3_code_35) _ ?_
    refine XS.l2dS X3.here hx rfl (hb hby d_method_3_code_36) rfl (v := (FP.l2d s1)) (rfl) ?_
    show Steps p.tables e below (T3.setTop (mkF m 37 #[.val (.int (3 : Int32)), .val (.ref a1)] [(.double (FP.l2d s1)), (.int (1 : Int32)), (.ref b1), (.ref b1)])) _
    refine st5 _ ?_
    refine XS.dup X5.here hx rfl (hb hby d_method_3_code_38) rfl rfl ?_
    refine XS.iconst X5.here hx rfl (hb hby d_method_3_code_39) ?_
    show Steps p.tables e below (T5.setTop (mkF m 40 #[.val (.int (3 : Int32)), .val (.ref a1)] [(.int (2 : Int32)), (.ref b1), (.ref b1)])) _
    refine XS.aloadN X5.here hx rfl (hb hby d_method_3_code_40) rfl rfl ?_
    refine XS.iconst X5.here hx rfl (hb hby d_method_3_code_41) ?_
    show Steps p.tables e below (T5.setTop (mkF m 42 #[.val (.int (3 : Int32)), .val (.ref a1)] [(.int (2 : Int32)), (.ref a1), (.int (2 : Int32)), (.ref b1), (.ref b1)])) _
    refine X5.laload hx (j := (2 : Int32)) (v := (.long s2)) (by rw [e5]; exact Ar6.1) (State.isArrayOf_alike hZ.alike Ar6.2.1) Ar6.2.2 hin6 hat6 (g := (mkF m 42 #[.val (.int (3 : Int32)), .val (.ref a1)] [(.int (2 : Int32)), (.ref a1), (.int (2 : Int32)), (.ref b1), (.ref b1)])) rfl rfl (hb hby d_method_3_code_42) _ ?_
    refine XS.l2dS X5.here hx rfl (hb hby d_method_3_code_43) rfl (v := (FP.l2d s2)) (rfl) ?_
    show Steps p.tables e below (T5.setTop (mkF m 44 #[.val (.int (3 : Int32)), .val (.ref a1)] [(.double (FP.l2d s2)), (.int (2 : Int32)), (.ref b1), (.ref b1)])) _
    refine st7 _ ?_
    show Steps p.tables e below (T7.setTop (mkF m 45 #[.val (.int (3 : Int32)), .val (.ref a1)] [(.ref b1)])) _
    exact retOut X7 hx (t := (.array .double)) Bd.returns rfl (Or.inr (Or.inr (Or.inr (Or.inr ⟨rfl, rfl, rfl⟩)))) (hb hby d_method_3_code_45) hr
  · show QN Z (3 : Int32) [(.double (FP.l2d s0)), (.double (FP.l2d s1)), (.double (FP.l2d s2))] h0 n0 _ T7.heap _
    rw [e7]
    exact ⟨b1, _, rfl, N7, g_b1, sz_b1, K7, V7⟩
theorem d_method_3_code_46 : decode method_3_code 46 = .ok (.iload_n 0, 1) := by decide +kernel
theorem d_method_3_code_47 : decode method_3_code 47 = .ok (.iconst 4, 1) := by decide +kernel
theorem d_method_3_code_48 : decode method_3_code 48 = .ok (.if_icmp .ne 35, 3) := by decide +kernel
theorem d_method_3_code_51 : decode method_3_code 51 = .ok (.iconst 4, 1) := by decide +kernel
theorem d_method_3_code_52 : decode method_3_code 52 = .ok (.newarray .double, 2) := by decide +kernel
theorem d_method_3_code_54 : decode method_3_code 54 = .ok (.dup, 1) := by decide +kernel
theorem d_method_3_code_55 : decode method_3_code 55 = .ok (.iconst 0, 1) := by decide +kernel
theorem d_method_3_code_56 : decode method_3_code 56 = .ok (.aload_n 1, 1) := by decide +kernel
theorem d_method_3_code_57 : decode method_3_code 57 = .ok (.iconst 0, 1) := by decide +kernel
theorem d_method_3_code_58 : decode method_3_code 58 = .ok (.laload, 1) := by decide +kernel
theorem d_method_3_code_59 : decode method_3_code 59 = .ok (.l2d, 1) := by decide +kernel
theorem d_method_3_code_60 : decode method_3_code 60 = .ok (.dastore, 1) := by decide +kernel
theorem d_method_3_code_61 : decode method_3_code 61 = .ok (.dup, 1) := by decide +kernel
theorem d_method_3_code_62 : decode method_3_code 62 = .ok (.iconst 1, 1) := by decide +kernel
theorem d_method_3_code_63 : decode method_3_code 63 = .ok (.aload_n 1, 1) := by decide +kernel
theorem d_method_3_code_64 : decode method_3_code 64 = .ok (.iconst 1, 1) := by decide +kernel
theorem d_method_3_code_65 : decode method_3_code 65 = .ok (.laload, 1) := by decide +kernel
theorem d_method_3_code_66 : decode method_3_code 66 = .ok (.l2d, 1) := by decide +kernel
theorem d_method_3_code_67 : decode method_3_code 67 = .ok (.dastore, 1) := by decide +kernel
theorem d_method_3_code_68 : decode method_3_code 68 = .ok (.dup, 1) := by decide +kernel
theorem d_method_3_code_69 : decode method_3_code 69 = .ok (.iconst 2, 1) := by decide +kernel
theorem d_method_3_code_70 : decode method_3_code 70 = .ok (.aload_n 1, 1) := by decide +kernel
theorem d_method_3_code_71 : decode method_3_code 71 = .ok (.iconst 2, 1) := by decide +kernel
theorem d_method_3_code_72 : decode method_3_code 72 = .ok (.laload, 1) := by decide +kernel
theorem d_method_3_code_73 : decode method_3_code 73 = .ok (.l2d, 1) := by decide +kernel
theorem d_method_3_code_74 : decode method_3_code 74 = .ok (.dastore, 1) := by decide +kernel
theorem d_method_3_code_75 : decode method_3_code 75 = .ok (.dup, 1) := by decide +kernel
theorem d_method_3_code_76 : decode method_3_code 76 = .ok (.iconst 3, 1) := by decide +kernel
theorem d_method_3_code_77 : decode method_3_code 77 = .ok (.aload_n 1, 1) := by decide +kernel
theorem d_method_3_code_78 : decode method_3_code 78 = .ok (.iconst 3, 1) := by decide +kernel
theorem d_method_3_code_79 : decode method_3_code 79 = .ok (.laload, 1) := by decide +kernel
theorem d_method_3_code_80 : decode method_3_code 80 = .ok (.l2d, 1) := by decide +kernel
theorem d_method_3_code_81 : decode method_3_code 81 = .ok (.dastore, 1) := by decide +kernel
theorem d_method_3_code_82 : decode method_3_code 82 = .ok (.areturn, 1) := by decide +kernel
set_option maxRecDepth 65536 in
set_option maxHeartbeats 40000000 in
theorem rmS4 (l : Launch) (Z : State) (a0 : Array Value) (hw : ∀ d ∈ tables_1, d.before a0 Z = true) (ws : List Jvm.Cond) (a1 : Addr) (kA : ClassId) (s0 s1 s2 s3 s4 s5 s6 s7 s8 : Int64) (h0 : Heap) (n0 : Nat) (Z0 : n0 ≤ h0.size) (V_a1 : Arv Z h0 a1 kA .long (9 : Int32) [(.long s0), (.long s1), (.long s2), (.long s3), (.long s4), (.long s5), (.long s6), (.long s7), (.long s8)] (.long (0 : Int64)))  :
    MetFree l (⟨"com/example/bytegauge/bytegauge/stats/JsonTablePercentilePinLaw", "sortedOf", "(I[J)[D"⟩ : MethodName) (head1 (Jvm.Cond.code (⟨"com/example/bytegauge/bytegauge/stats/JsonTablePercentilePinLaw", "sortedOf", "(I[J)[D"⟩ : MethodName) method_3_code 2 (some (.array .double)) :: ws) ({ frames := 0, cells := 1, slots := 4, locals := 0 } : Room)) (fun a U => a = #[(.int (4 : Int32)), (.ref a1)] ∧ Z.Warmed39 U.vm ∧ U.heap = h0) (fun _ _ _ _ _ => True) (fun _ U o U' => ∃ v L, o = .returned v ∧ QN Z (4 : Int32) [(.double (FP.l2d s0)), (.double (FP.l2d s1)), (.double (FP.l2d s2)), (.double (FP.l2d s3))] h0 n0 v U'.heap L ∧ FrameEnd U o U' L ({ frames := 0, cells := 1, slots := 4, locals := 0 } : Room).cells ({ frames := 0, cells := 1, slots := 4, locals := 0 } : Room).slots) := by
  refine MetFree.of_bodySF (plainFor_of_name pn_com_example_bytegauge_bytegauge_stats_JsonTablePercentilePinLaw) hisR ?_
  intro p e s m args below meth c s₁ Bd hml0 hP hK
  obtain ⟨rfl, hZ, hh⟩ := hP
  have hx := Bd.exec
  have hby := Bd.bytes
  have hml : c.maxLocals = 2 := hml0
  have hown : s.vm.findClass "com/example/bytegauge/bytegauge/stats/JsonTablePercentilePinLaw" = some m.cls := findClass_of_methodNamed Bd.named
  have hnm := (name_of_methodNamed Bd.named Bd.method).1
  have X0 : Stand p l e ({ frames := 0, cells := 1, slots := 4, locals := 0 } : Room) s m #[(.int (4 : Int32)), (.ref a1)] below meth c s₁ [] 0 0 := Stand.of_body Bd
  have e0 : s₁.heap = h0 := by rw [← hh, Bd.state]; rfl
  have N0 := Fr.nil n0
  have pre0 : ∀ t, Steps p.tables e below (s₁.setTop (mkF m 0 #[.val (.int (4 : Int32)), .val (.ref a1)] [])) t → Steps p.tables e below (s₁.setTop (entryFrame m #[(.int (4 : Int32)), (.ref a1)] 2)) t := fun t k => castTop (ef_method_3_code m (4 : Int32) a1) k
  have K0 := Keep.refl h0 []
  obtain ⟨T1, h1, k1, X1, e1, E1, A1, st1⟩ := newP X0 hx hZ (hw _ (List.mem_of_getElem? (i := 7) rfl)) e0 (g := (mkF m 52 #[.val (.int (4 : Int32)), .val (.ref a1)] [(.int (4 : Int32))])) rfl (hb hby d_method_3_code_52) rfl (by decide) (cap := 4) (by decide) (by decide) (by decide) (by decide)
  obtain ⟨b1, g1⟩ : ∃ z, z = h0.size := ⟨_, rfl⟩
  rw [← g1] at A1 st1
  have g_b1 : n0 ≤ b1 := Nat.le_trans Z0 (Nat.le_of_eq g1.symm)
  have sz_b1 : h0.size ≤ b1 := Nat.le_trans K0.1 (Nat.le_of_eq g1.symm)
  have ne_a1_b1 : a1 ≠ b1 := Nat.ne_of_lt (Nat.lt_of_lt_of_le V_a1.lt (Nat.le_of_eq g1.symm))
  have c1_0 := V_a1.ext E1
  have SZ1 := Nat.le_trans Z0 E1.1
  have K1 := K0.ext E1
  have V1 : Arv Z h1 b1 k1 .double (4 : Int32) [(.double (0 : UInt64)), (.double (0 : UInt64)), (.double (0 : UInt64)), (.double (0 : UInt64))] (.double (0 : UInt64)) := (Arv.new A1 (by decide)).pad (pad_rep [] (.double (0 : UInt64)) 4)
  obtain ⟨cl2, Ar2, -, S2, Nn2, H2, -⟩ := id c1_0
  have hin2 : ¬ ((0 : Int32) < 0 ∨ cl2.slots.size ≤ ((0 : Int32)).toNatClampNeg) := inb_of S2 ⟨by decide, by decide⟩
  have hat2 : cl2.slots[((0 : Int32)).toNatClampNeg]? = some (.long s0) := H2.at hin2 rfl
  obtain ⟨cl3, Ar3, q3, S3, Nn3, H3, G3⟩ := id V1
  have hin3 : ¬ ((0 : Int32) < 0 ∨ cl3.slots.size ≤ ((0 : Int32)).toNatClampNeg) := inb_of S3 ⟨by decide, by decide⟩
  obtain ⟨T3, h3, X3, e3, W3, st3⟩ := stD X1 hx hZ e1 Ar3 (j := (0 : Int32)) hin3 (g := (mkF m 60 #[.val (.int (4 : Int32)), .val (.ref a1)] [(.double (FP.l2d s0)), (.int (0 : Int32)), (.ref b1), (.ref b1)])) rfl rfl (hb hby d_method_3_code_60)
  have V3 := Arv.set Ar3 q3 S3 Nn3 H3 G3 rfl W3 0 rfl (Nat.le_of_ble_eq_true rfl)
  replace V3 : Arv Z h3 b1 k1 .double (4 : Int32) [(.double (FP.l2d s0)), (.double (0 : UInt64)), (.double (0 : UInt64)), (.double (0 : UInt64))] (.double (0 : UInt64)) := V3
  have c3_0 := c1_0.other W3 ne_a1_b1
  have SZ3 := Nat.le_trans SZ1 (Keep.of_wr W3).1
  have K3 := K1.wr W3 (Or.inr sz_b1)
  have N3 := Fr.snoc X3 N0 g_b1
  obtain ⟨cl4, Ar4, -, S4, Nn4, H4, -⟩ := id c3_0
  have hin4 : ¬ ((1 : Int32) < 0 ∨ cl4.slots.size ≤ ((1 : Int32)).toNatClampNeg) := inb_of S4 ⟨by decide, by decide⟩
  have hat4 : cl4.slots[((1 : Int32)).toNatClampNeg]? = some (.long s1) := H4.at hin4 rfl
  obtain ⟨cl5, Ar5, q5, S5, Nn5, H5, G5⟩ := id V3
  have hin5 : ¬ ((1 : Int32) < 0 ∨ cl5.slots.size ≤ ((1 : Int32)).toNatClampNeg) := inb_of S5 ⟨by decide, by decide⟩
  obtain ⟨T5, h5, X5, e5, W5, st5⟩ := stD X3 hx hZ e3 Ar5 (j := (1 : Int32)) hin5 (g := (mkF m 67 #[.val (.int (4 : Int32)), .val (.ref a1)] [(.double (FP.l2d s1)), (.int (1 : Int32)), (.ref b1), (.ref b1)])) rfl rfl (hb hby d_method_3_code_67)
  have V5 := Arv.set Ar5 q5 S5 Nn5 H5 G5 rfl W5 1 rfl (Nat.le_of_ble_eq_true rfl)
  replace V5 : Arv Z h5 b1 k1 .double (4 : Int32) [(.double (FP.l2d s0)), (.double (FP.l2d s1)), (.double (0 : UInt64)), (.double (0 : UInt64))] (.double (0 : UInt64)) := V5
  have c5_0 := c3_0.other W5 ne_a1_b1
  have SZ5 := Nat.le_trans SZ3 (Keep.of_wr W5).1
  have K5 := K3.wr W5 (Or.inr sz_b1)
  have N5 := Fr.snoc X5 N3 g_b1
  obtain ⟨cl6, Ar6, -, S6, Nn6, H6, -⟩ := id c5_0
  have hin6 : ¬ ((2 : Int32) < 0 ∨ cl6.slots.size ≤ ((2 : Int32)).toNatClampNeg) := inb_of S6 ⟨by decide, by decide⟩
  have hat6 : cl6.slots[((2 : Int32)).toNatClampNeg]? = some (.long s2) := H6.at hin6 rfl
  obtain ⟨cl7, Ar7, q7, S7, Nn7, H7, G7⟩ := id V5
  have hin7 : ¬ ((2 : Int32) < 0 ∨ cl7.slots.size ≤ ((2 : Int32)).toNatClampNeg) := inb_of S7 ⟨by decide, by decide⟩
  obtain ⟨T7, h7, X7, e7, W7, st7⟩ := stD X5 hx hZ e5 Ar7 (j := (2 : Int32)) hin7 (g := (mkF m 74 #[.val (.int (4 : Int32)), .val (.ref a1)] [(.double (FP.l2d s2)), (.int (2 : Int32)), (.ref b1), (.ref b1)])) rfl rfl (hb hby d_method_3_code_74)
  have V7 := Arv.set Ar7 q7 S7 Nn7 H7 G7 rfl W7 2 rfl (Nat.le_of_ble_eq_true rfl)
  replace V7 : Arv Z h7 b1 k1 .double (4 : Int32) [(.double (FP.l2d s0)), (.double (FP.l2d s1)), (.double (FP.l2d s2)), (.double (0 : UInt64))] (.double (0 : UInt64)) := V7
  have c7_0 := c5_0.other W7 ne_a1_b1
  have SZ7 := Nat.le_trans SZ5 (Keep.of_wr W7).1
  have K7 := K5.wr W7 (Or.inr sz_b1)
  have N7 := Fr.snoc X7 N5 g_b1
  obtain ⟨cl8, Ar8, -, S8, Nn8, H8, -⟩ := id c7_0
  have hin8 : ¬ ((3 : Int32) < 0 ∨ cl8.slots.size ≤ ((3 : Int32)).toNatClampNeg) := inb_of S8 ⟨by decide, by decide⟩
  have hat8 : cl8.slots[((3 : Int32)).toNatClampNeg]? = some (.long s3) := H8.at hin8 rfl
  obtain ⟨cl9, Ar9, q9, S9, Nn9, H9, G9⟩ := id V7
  have hin9 : ¬ ((3 : Int32) < 0 ∨ cl9.slots.size ≤ ((3 : Int32)).toNatClampNeg) := inb_of S9 ⟨by decide, by decide⟩
  obtain ⟨T9, h9, X9, e9, W9, st9⟩ := stD X7 hx hZ e7 Ar9 (j := (3 : Int32)) hin9 (g := (mkF m 81 #[.val (.int (4 : Int32)), .val (.ref a1)] [(.double (FP.l2d s3)), (.int (3 : Int32)), (.ref b1), (.ref b1)])) rfl rfl (hb hby d_method_3_code_81)
  have V9 := Arv.set Ar9 q9 S9 Nn9 H9 G9 rfl W9 3 rfl (Nat.le_of_ble_eq_true rfl)
  replace V9 : Arv Z h9 b1 k1 .double (4 : Int32) [(.double (FP.l2d s0)), (.double (FP.l2d s1)), (.double (FP.l2d s2)), (.double (FP.l2d s3))] (.double (0 : UInt64)) := V9
  have c9_0 := c7_0.other W9 ne_a1_b1
  have SZ9 := Nat.le_trans SZ7 (Keep.of_wr W9).1
  have K9 := K7.wr W9 (Or.inr sz_b1)
  have N9 := Fr.snoc X9 N7 g_b1
  obtain ⟨fs, hr, hrun, hended, hW, hsame⟩ := X9.leave (v := some (.ref b1)) (fun h => by rw [Bd.returns] at h; cases h)
  refine ⟨_, _, pre0 _ ?_, hrun, hended, _, _, rfl, ?_, ⟨_, rfl⟩, hW, hsame.mono (by decide) (by decide)⟩
  · show Steps p.tables e below (s₁.setTop (mkF m 0 #[.val (.int (4 : Int32)), .val (.ref a1)] [])) _
    refine XS.iloadN X0.here hx rfl (hb hby d_method_3_code_0) rfl ?_
    refine XS.iconst X0.here hx rfl (hb hby d_method_3_code_1) ?_
    refine XS.icmpYes X0.here hx rfl (pc0 := 2) (pc' := 16) rfl (hb hby d_method_3_code_2) rfl (feq (by decide : ¬ ((4 : Int32) = (1 : Int32)))).2 (by decide) (by decide) ?_
    show Steps p.tables e below (s₁.setTop (mkF m 16 #[.val (.int (4 : Int32)), .val (.ref a1)] [])) _
    refine XS.iloadN X0.here hx rfl (hb hby d_method_3_code_16) rfl ?_
    refine XS.iconst X0.here hx rfl (hb hby d_method_3_code_17) ?_
    refine XS.icmpYes X0.here hx rfl (pc0 := 18) (pc' := 46) rfl (hb hby d_method_3_code_18) rfl (feq (by decide : ¬ ((4 : Int32) = (3 : Int32)))).2 (by decide) (by decide) ?_
    show Steps p.tables e below (s₁.setTop (mkF m 46 #[.val (.int (4 : Int32)), .val (.ref a1)] [])) _
    refine XS.iloadN X0.here hx rfl (hb hby d_method_3_code_46) rfl ?_
    refine XS.iconst X0.here hx rfl (hb hby d_method_3_code_47) ?_
    refine XS.icmpNo X0.here hx rfl (hb hby d_method_3_code_48) rfl (teq (by decide : (4 : Int32) = (4 : Int32))).2 ?_
    show Steps p.tables e below (s₁.setTop (mkF m 51 #[.val (.int (4 : Int32)), .val (.ref a1)] [])) _
    refine XS.iconst X0.here hx rfl (hb hby d_method_3_code_51) ?_
    show Steps p.tables e below (s₁.setTop (mkF m 52 #[.val (.int (4 : Int32)), .val (.ref a1)] [(.int (4 : Int32))])) _
    refine st1 _ ?_
    refine XS.dup X1.here hx rfl (hb hby d_method_3_code_54) rfl rfl ?_
    refine XS.iconst X1.here hx rfl (hb hby d_method_3_code_55) ?_
    show Steps p.tables e below (T1.setTop (mkF m 56 #[.val (.int (4 : Int32)), .val (.ref a1)] [(.int (0 : Int32)), (.ref b1), (.ref b1)])) _
    refine XS.aloadN X1.here hx rfl (hb hby d_method_3_code_56) rfl rfl ?_
    refine XS.iconst X1.here hx rfl (hb hby d_method_3_code_57) ?_
    show Steps p.tables e below (T1.setTop (mkF m 58 #[.val (.int (4 : Int32)), .val (.ref a1)] [(.int (0 : Int32)), (.ref a1), (.int (0 : Int32)), (.ref b1), (.ref b1)])) _
    refine X1.laload hx (j := (0 : Int32)) (v := (.long s0)) (by rw [e1]; exact Ar2.1) (State.isArrayOf_alike hZ.alike Ar2.2.1) Ar2.2.2 hin2 hat2 (g := (mkF m 58 #[.val (.int (4 : Int32)), .val (.ref a1)] [(.int (0 : Int32)), (.ref a1), (.int (0 : Int32)), (.ref b1), (.ref b1)])) rfl rfl (hb hby d_method_3_code_58) _ ?_
    refine XS.l2dS X1.here hx rfl (hb hby d_method_3_code_59) rfl (v := (FP.l2d s0)) (rfl) ?_
    show Steps p.tables e below (T1.setTop (mkF m 60 #[.val (.int (4 : Int32)), .val (.ref a1)] [(.double (FP.l2d s0)), (.int (0 : Int32)), (.ref b1), (.ref b1)])) _
    refine st3 _ ?_
    refine XS.dup X3.here hx rfl (hb hby d_method_3_code_61) rfl rfl ?_
    refine XS.iconst X3.here hx rfl (hb hby d_method_3_code_62) ?_
    show Steps p.tables e below (T3.setTop (mkF m 63 #[.val (.int (4 : Int32)), .val (.ref a1)] [(.int (1 : Int32)), (.ref b1), (.ref b1)])) _
    refine XS.aloadN X3.here hx rfl (hb hby d_method_3_code_63) rfl rfl ?_
    refine XS.iconst X3.here hx rfl (hb hby d_method_3_code_64) ?_
    show Steps p.tables e below (T3.setTop (mkF m 65 #[.val (.int (4 : Int32)), .val (.ref a1)] [(.int (1 : Int32)), (.ref a1), (.int (1 : Int32)), (.ref b1), (.ref b1)])) _
    refine X3.laload hx (j := (1 : Int32)) (v := (.long s1)) (by rw [e3]; exact Ar4.1) (State.isArrayOf_alike hZ.alike Ar4.2.1) Ar4.2.2 hin4 hat4 (g := (mkF m 65 #[.val (.int (4 : Int32)), .val (.ref a1)] [(.int (1 : Int32)), (.ref a1), (.int (1 : Int32)), (.ref b1), (.ref b1)])) rfl rfl (hb hby d_method_3_code_65) _ ?_
    refine XS.l2dS X3.here hx rfl (hb hby d_method_3_code_66) rfl (v := (FP.l2d s1)) (rfl) ?_
    show Steps p.tables e below (T3.setTop (mkF m 67 #[.val (.int (4 : Int32)), .val (.ref a1)] [(.double (FP.l2d s1)), (.int (1 : Int32)), (.ref b1), (.ref b1)])) _
    refine st5 _ ?_
    refine XS.dup X5.here hx rfl (hb hby d_method_3_code_68) rfl rfl ?_
    refine XS.iconst X5.here hx rfl (hb hby d_method_3_code_69) ?_
    show Steps p.tables e below (T5.setTop (mkF m 70 #[.val (.int (4 : Int32)), .val (.ref a1)] [(.int (2 : Int32)), (.ref b1), (.ref b1)])) _
    refine XS.aloadN X5.here hx rfl (hb hby d_method_3_code_70) rfl rfl ?_
    refine XS.iconst X5.here hx rfl (hb hby d_method_3_code_71) ?_
    show Steps p.tables e below (T5.setTop (mkF m 72 #[.val (.int (4 : Int32)), .val (.ref a1)] [(.int (2 : Int32)), (.ref a1), (.int (2 : Int32)), (.ref b1), (.ref b1)])) _
    refine X5.laload hx (j := (2 : Int32)) (v := (.long s2)) (by rw [e5]; exact Ar6.1) (State.isArrayOf_alike hZ.alike Ar6.2.1) Ar6.2.2 hin6 hat6 (g := (mkF m 72 #[.val (.int (4 : Int32)), .val (.ref a1)] [(.int (2 : Int32)), (.ref a1), (.int (2 : Int32)), (.ref b1), (.ref b1)])) rfl rfl (hb hby d_method_3_code_72) _ ?_
    refine XS.l2dS X5.here hx rfl (hb hby d_method_3_code_73) rfl (v := (FP.l2d s2)) (rfl) ?_
    show Steps p.tables e below (T5.setTop (mkF m 74 #[.val (.int (4 : Int32)), .val (.ref a1)] [(.double (FP.l2d s2)), (.int (2 : Int32)), (.ref b1), (.ref b1)])) _
    refine st7 _ ?_
    refine XS.dup X7.here hx rfl (hb hby d_method_3_code_75) rfl rfl ?_
    refine XS.iconst X7.here hx rfl (hb hby d_method_3_code_76) ?_
    show Steps p.tables e below (T7.setTop (mkF m 77 #[.val (.int (4 : Int32)), .val (.ref a1)] [(.int (3 : Int32)), (.ref b1), (.ref b1)])) _
    refine XS.aloadN X7.here hx rfl (hb hby d_method_3_code_77) rfl rfl ?_
    refine XS.iconst X7.here hx rfl (hb hby d_method_3_code_78) ?_
    show Steps p.tables e below (T7.setTop (mkF m 79 #[.val (.int (4 : Int32)), .val (.ref a1)] [(.int (3 : Int32)), (.ref a1), (.int (3 : Int32)), (.ref b1), (.ref b1)])) _
    refine X7.laload hx (j := (3 : Int32)) (v := (.long s3)) (by rw [e7]; exact Ar8.1) (State.isArrayOf_alike hZ.alike Ar8.2.1) Ar8.2.2 hin8 hat8 (g := (mkF m 79 #[.val (.int (4 : Int32)), .val (.ref a1)] [(.int (3 : Int32)), (.ref a1), (.int (3 : Int32)), (.ref b1), (.ref b1)])) rfl rfl (hb hby d_method_3_code_79) _ ?_
    refine XS.l2dS X7.here hx rfl (hb hby d_method_3_code_80) rfl (v := (FP.l2d s3)) (rfl) ?_
    show Steps p.tables e below (T7.setTop (mkF m 81 #[.val (.int (4 : Int32)), .val (.ref a1)] [(.double (FP.l2d s3)), (.int (3 : Int32)), (.ref b1), (.ref b1)])) _
    refine st9 _ ?_
    show Steps p.tables e below (T9.setTop (mkF m 82 #[.val (.int (4 : Int32)), .val (.ref a1)] [(.ref b1)])) _
    exact retOut X9 hx (t := (.array .double)) Bd.returns rfl (Or.inr (Or.inr (Or.inr (Or.inr ⟨rfl, rfl, rfl⟩)))) (hb hby d_method_3_code_82) hr
  · show QN Z (4 : Int32) [(.double (FP.l2d s0)), (.double (FP.l2d s1)), (.double (FP.l2d s2)), (.double (FP.l2d s3))] h0 n0 _ T9.heap _
    rw [e9]
    exact ⟨b1, _, rfl, N9, g_b1, sz_b1, K9, V9⟩
theorem d_method_3_code_83 : decode method_3_code 83 = .ok (.iload_n 0, 1) := by decide +kernel
theorem d_method_3_code_84 : decode method_3_code 84 = .ok (.bipush 7, 2) := by decide +kernel
theorem d_method_3_code_86 : decode method_3_code 86 = .ok (.if_icmp .ne 59, 3) := by decide +kernel
theorem d_method_3_code_89 : decode method_3_code 89 = .ok (.bipush 7, 2) := by decide +kernel
theorem d_method_3_code_91 : decode method_3_code 91 = .ok (.newarray .double, 2) := by decide +kernel
theorem d_method_3_code_93 : decode method_3_code 93 = .ok (.dup, 1) := by decide +kernel
theorem d_method_3_code_94 : decode method_3_code 94 = .ok (.iconst 0, 1) := by decide +kernel
theorem d_method_3_code_95 : decode method_3_code 95 = .ok (.aload_n 1, 1) := by decide +kernel
theorem d_method_3_code_96 : decode method_3_code 96 = .ok (.iconst 0, 1) := by decide +kernel
theorem d_method_3_code_97 : decode method_3_code 97 = .ok (.laload, 1) := by decide +kernel
theorem d_method_3_code_98 : decode method_3_code 98 = .ok (.l2d, 1) := by decide +kernel
theorem d_method_3_code_99 : decode method_3_code 99 = .ok (.dastore, 1) := by decide +kernel
theorem d_method_3_code_100 : decode method_3_code 100 = .ok (.dup, 1) := by decide +kernel
theorem d_method_3_code_101 : decode method_3_code 101 = .ok (.iconst 1, 1) := by decide +kernel
theorem d_method_3_code_102 : decode method_3_code 102 = .ok (.aload_n 1, 1) := by decide +kernel
theorem d_method_3_code_103 : decode method_3_code 103 = .ok (.iconst 1, 1) := by decide +kernel
theorem d_method_3_code_104 : decode method_3_code 104 = .ok (.laload, 1) := by decide +kernel
theorem d_method_3_code_105 : decode method_3_code 105 = .ok (.l2d, 1) := by decide +kernel
theorem d_method_3_code_106 : decode method_3_code 106 = .ok (.dastore, 1) := by decide +kernel
theorem d_method_3_code_107 : decode method_3_code 107 = .ok (.dup, 1) := by decide +kernel
theorem d_method_3_code_108 : decode method_3_code 108 = .ok (.iconst 2, 1) := by decide +kernel
theorem d_method_3_code_109 : decode method_3_code 109 = .ok (.aload_n 1, 1) := by decide +kernel
theorem d_method_3_code_110 : decode method_3_code 110 = .ok (.iconst 2, 1) := by decide +kernel
theorem d_method_3_code_111 : decode method_3_code 111 = .ok (.laload, 1) := by decide +kernel
theorem d_method_3_code_112 : decode method_3_code 112 = .ok (.l2d, 1) := by decide +kernel
theorem d_method_3_code_113 : decode method_3_code 113 = .ok (.dastore, 1) := by decide +kernel
theorem d_method_3_code_114 : decode method_3_code 114 = .ok (.dup, 1) := by decide +kernel
theorem d_method_3_code_115 : decode method_3_code 115 = .ok (.iconst 3, 1) := by decide +kernel
theorem d_method_3_code_116 : decode method_3_code 116 = .ok (.aload_n 1, 1) := by decide +kernel
theorem d_method_3_code_117 : decode method_3_code 117 = .ok (.iconst 3, 1) := by decide +kernel
theorem d_method_3_code_118 : decode method_3_code 118 = .ok (.laload, 1) := by decide +kernel
theorem d_method_3_code_119 : decode method_3_code 119 = .ok (.l2d, 1) := by decide +kernel
theorem d_method_3_code_120 : decode method_3_code 120 = .ok (.dastore, 1) := by decide +kernel
theorem d_method_3_code_121 : decode method_3_code 121 = .ok (.dup, 1) := by decide +kernel
theorem d_method_3_code_122 : decode method_3_code 122 = .ok (.iconst 4, 1) := by decide +kernel
theorem d_method_3_code_123 : decode method_3_code 123 = .ok (.aload_n 1, 1) := by decide +kernel
theorem d_method_3_code_124 : decode method_3_code 124 = .ok (.iconst 4, 1) := by decide +kernel
theorem d_method_3_code_125 : decode method_3_code 125 = .ok (.laload, 1) := by decide +kernel
theorem d_method_3_code_126 : decode method_3_code 126 = .ok (.l2d, 1) := by decide +kernel
theorem d_method_3_code_127 : decode method_3_code 127 = .ok (.dastore, 1) := by decide +kernel
theorem d_method_3_code_128 : decode method_3_code 128 = .ok (.dup, 1) := by decide +kernel
theorem d_method_3_code_129 : decode method_3_code 129 = .ok (.iconst 5, 1) := by decide +kernel
theorem d_method_3_code_130 : decode method_3_code 130 = .ok (.aload_n 1, 1) := by decide +kernel
theorem d_method_3_code_131 : decode method_3_code 131 = .ok (.iconst 5, 1) := by decide +kernel
theorem d_method_3_code_132 : decode method_3_code 132 = .ok (.laload, 1) := by decide +kernel
theorem d_method_3_code_133 : decode method_3_code 133 = .ok (.l2d, 1) := by decide +kernel
theorem d_method_3_code_134 : decode method_3_code 134 = .ok (.dastore, 1) := by decide +kernel
theorem d_method_3_code_135 : decode method_3_code 135 = .ok (.dup, 1) := by decide +kernel
theorem d_method_3_code_136 : decode method_3_code 136 = .ok (.bipush 6, 2) := by decide +kernel
theorem d_method_3_code_138 : decode method_3_code 138 = .ok (.aload_n 1, 1) := by decide +kernel
theorem d_method_3_code_139 : decode method_3_code 139 = .ok (.bipush 6, 2) := by decide +kernel
theorem d_method_3_code_141 : decode method_3_code 141 = .ok (.laload, 1) := by decide +kernel
theorem d_method_3_code_142 : decode method_3_code 142 = .ok (.l2d, 1) := by decide +kernel
theorem d_method_3_code_143 : decode method_3_code 143 = .ok (.dastore, 1) := by decide +kernel
theorem d_method_3_code_144 : decode method_3_code 144 = .ok (.areturn, 1) := by decide +kernel
set_option maxRecDepth 65536 in
set_option maxHeartbeats 40000000 in
theorem rmS7 (l : Launch) (Z : State) (a0 : Array Value) (hw : ∀ d ∈ tables_1, d.before a0 Z = true) (ws : List Jvm.Cond) (a1 : Addr) (kA : ClassId) (s0 s1 s2 s3 s4 s5 s6 s7 s8 : Int64) (h0 : Heap) (n0 : Nat) (Z0 : n0 ≤ h0.size) (V_a1 : Arv Z h0 a1 kA .long (9 : Int32) [(.long s0), (.long s1), (.long s2), (.long s3), (.long s4), (.long s5), (.long s6), (.long s7), (.long s8)] (.long (0 : Int64)))  :
    MetFree l (⟨"com/example/bytegauge/bytegauge/stats/JsonTablePercentilePinLaw", "sortedOf", "(I[J)[D"⟩ : MethodName) (head1 (Jvm.Cond.code (⟨"com/example/bytegauge/bytegauge/stats/JsonTablePercentilePinLaw", "sortedOf", "(I[J)[D"⟩ : MethodName) method_3_code 2 (some (.array .double)) :: ws) ({ frames := 0, cells := 1, slots := 7, locals := 0 } : Room)) (fun a U => a = #[(.int (7 : Int32)), (.ref a1)] ∧ Z.Warmed39 U.vm ∧ U.heap = h0) (fun _ _ _ _ _ => True) (fun _ U o U' => ∃ v L, o = .returned v ∧ QN Z (7 : Int32) [(.double (FP.l2d s0)), (.double (FP.l2d s1)), (.double (FP.l2d s2)), (.double (FP.l2d s3)), (.double (FP.l2d s4)), (.double (FP.l2d s5)), (.double (FP.l2d s6))] h0 n0 v U'.heap L ∧ FrameEnd U o U' L ({ frames := 0, cells := 1, slots := 7, locals := 0 } : Room).cells ({ frames := 0, cells := 1, slots := 7, locals := 0 } : Room).slots) := by
  refine MetFree.of_bodySF (plainFor_of_name pn_com_example_bytegauge_bytegauge_stats_JsonTablePercentilePinLaw) hisR ?_
  intro p e s m args below meth c s₁ Bd hml0 hP hK
  obtain ⟨rfl, hZ, hh⟩ := hP
  have hx := Bd.exec
  have hby := Bd.bytes
  have hml : c.maxLocals = 2 := hml0
  have hown : s.vm.findClass "com/example/bytegauge/bytegauge/stats/JsonTablePercentilePinLaw" = some m.cls := findClass_of_methodNamed Bd.named
  have hnm := (name_of_methodNamed Bd.named Bd.method).1
  have X0 : Stand p l e ({ frames := 0, cells := 1, slots := 7, locals := 0 } : Room) s m #[(.int (7 : Int32)), (.ref a1)] below meth c s₁ [] 0 0 := Stand.of_body Bd
  have e0 : s₁.heap = h0 := by rw [← hh, Bd.state]; rfl
  have N0 := Fr.nil n0
  have pre0 : ∀ t, Steps p.tables e below (s₁.setTop (mkF m 0 #[.val (.int (7 : Int32)), .val (.ref a1)] [])) t → Steps p.tables e below (s₁.setTop (entryFrame m #[(.int (7 : Int32)), (.ref a1)] 2)) t := fun t k => castTop (ef_method_3_code m (7 : Int32) a1) k
  have K0 := Keep.refl h0 []
  obtain ⟨T1, h1, k1, X1, e1, E1, A1, st1⟩ := newP X0 hx hZ (hw _ (List.mem_of_getElem? (i := 7) rfl)) e0 (g := (mkF m 91 #[.val (.int (7 : Int32)), .val (.ref a1)] [(.int (7 : Int32))])) rfl (hb hby d_method_3_code_91) rfl (by decide) (cap := 7) (by decide) (by decide) (by decide) (by decide)
  obtain ⟨b1, g1⟩ : ∃ z, z = h0.size := ⟨_, rfl⟩
  rw [← g1] at A1 st1
  have g_b1 : n0 ≤ b1 := Nat.le_trans Z0 (Nat.le_of_eq g1.symm)
  have sz_b1 : h0.size ≤ b1 := Nat.le_trans K0.1 (Nat.le_of_eq g1.symm)
  have ne_a1_b1 : a1 ≠ b1 := Nat.ne_of_lt (Nat.lt_of_lt_of_le V_a1.lt (Nat.le_of_eq g1.symm))
  have c1_0 := V_a1.ext E1
  have SZ1 := Nat.le_trans Z0 E1.1
  have K1 := K0.ext E1
  have V1 : Arv Z h1 b1 k1 .double (7 : Int32) [(.double (0 : UInt64)), (.double (0 : UInt64)), (.double (0 : UInt64)), (.double (0 : UInt64)), (.double (0 : UInt64)), (.double (0 : UInt64)), (.double (0 : UInt64))] (.double (0 : UInt64)) := (Arv.new A1 (by decide)).pad (pad_rep [] (.double (0 : UInt64)) 7)
  obtain ⟨cl2, Ar2, -, S2, Nn2, H2, -⟩ := id c1_0
  have hin2 : ¬ ((0 : Int32) < 0 ∨ cl2.slots.size ≤ ((0 : Int32)).toNatClampNeg) := inb_of S2 ⟨by decide, by decide⟩
  have hat2 : cl2.slots[((0 : Int32)).toNatClampNeg]? = some (.long s0) := H2.at hin2 rfl
  obtain ⟨cl3, Ar3, q3, S3, Nn3, H3, G3⟩ := id V1
  have hin3 : ¬ ((0 : Int32) < 0 ∨ cl3.slots.size ≤ ((0 : Int32)).toNatClampNeg) := inb_of S3 ⟨by decide, by decide⟩
  obtain ⟨T3, h3, X3, e3, W3, st3⟩ := stD X1 hx hZ e1 Ar3 (j := (0 : Int32)) hin3 (g := (mkF m 99 #[.val (.int (7 : Int32)), .val (.ref a1)] [(.double (FP.l2d s0)), (.int (0 : Int32)), (.ref b1), (.ref b1)])) rfl rfl (hb hby d_method_3_code_99)
  have V3 := Arv.set Ar3 q3 S3 Nn3 H3 G3 rfl W3 0 rfl (Nat.le_of_ble_eq_true rfl)
  replace V3 : Arv Z h3 b1 k1 .double (7 : Int32) [(.double (FP.l2d s0)), (.double (0 : UInt64)), (.double (0 : UInt64)), (.double (0 : UInt64)), (.double (0 : UInt64)), (.double (0 : UInt64)), (.double (0 : UInt64))] (.double (0 : UInt64)) := V3
  have c3_0 := c1_0.other W3 ne_a1_b1
  have SZ3 := Nat.le_trans SZ1 (Keep.of_wr W3).1
  have K3 := K1.wr W3 (Or.inr sz_b1)
  have N3 := Fr.snoc X3 N0 g_b1
  obtain ⟨cl4, Ar4, -, S4, Nn4, H4, -⟩ := id c3_0
  have hin4 : ¬ ((1 : Int32) < 0 ∨ cl4.slots.size ≤ ((1 : Int32)).toNatClampNeg) := inb_of S4 ⟨by decide, by decide⟩
  have hat4 : cl4.slots[((1 : Int32)).toNatClampNeg]? = some (.long s1) := H4.at hin4 rfl
  obtain ⟨cl5, Ar5, q5, S5, Nn5, H5, G5⟩ := id V3
  have hin5 : ¬ ((1 : Int32) < 0 ∨ cl5.slots.size ≤ ((1 : Int32)).toNatClampNeg) := inb_of S5 ⟨by decide, by decide⟩
  obtain ⟨T5, h5, X5, e5, W5, st5⟩ := stD X3 hx hZ e3 Ar5 (j := (1 : Int32)) hin5 (g := (mkF m 106 #[.val (.int (7 : Int32)), .val (.ref a1)] [(.double (FP.l2d s1)), (.int (1 : Int32)), (.ref b1), (.ref b1)])) rfl rfl (hb hby d_method_3_code_106)
  have V5 := Arv.set Ar5 q5 S5 Nn5 H5 G5 rfl W5 1 rfl (Nat.le_of_ble_eq_true rfl)
  replace V5 : Arv Z h5 b1 k1 .double (7 : Int32) [(.double (FP.l2d s0)), (.double (FP.l2d s1)), (.double (0 : UInt64)), (.double (0 : UInt64)), (.double (0 : UInt64)), (.double (0 : UInt64)), (.double (0 : UInt64))] (.double (0 : UInt64)) := V5
  have c5_0 := c3_0.other W5 ne_a1_b1
  have SZ5 := Nat.le_trans SZ3 (Keep.of_wr W5).1
  have K5 := K3.wr W5 (Or.inr sz_b1)
  have N5 := Fr.snoc X5 N3 g_b1
  obtain ⟨cl6, Ar6, -, S6, Nn6, H6, -⟩ := id c5_0
  have hin6 : ¬ ((2 : Int32) < 0 ∨ cl6.slots.size ≤ ((2 : Int32)).toNatClampNeg) := inb_of S6 ⟨by decide, by decide⟩
  have hat6 : cl6.slots[((2 : Int32)).toNatClampNeg]? = some (.long s2) := H6.at hin6 rfl
  obtain ⟨cl7, Ar7, q7, S7, Nn7, H7, G7⟩ := id V5
  have hin7 : ¬ ((2 : Int32) < 0 ∨ cl7.slots.size ≤ ((2 : Int32)).toNatClampNeg) := inb_of S7 ⟨by decide, by decide⟩
  obtain ⟨T7, h7, X7, e7, W7, st7⟩ := stD X5 hx hZ e5 Ar7 (j := (2 : Int32)) hin7 (g := (mkF m 113 #[.val (.int (7 : Int32)), .val (.ref a1)] [(.double (FP.l2d s2)), (.int (2 : Int32)), (.ref b1), (.ref b1)])) rfl rfl (hb hby d_method_3_code_113)
  have V7 := Arv.set Ar7 q7 S7 Nn7 H7 G7 rfl W7 2 rfl (Nat.le_of_ble_eq_true rfl)
  replace V7 : Arv Z h7 b1 k1 .double (7 : Int32) [(.double (FP.l2d s0)), (.double (FP.l2d s1)), (.double (FP.l2d s2)), (.double (0 : UInt64)), (.double (0 : UInt64)), (.double (0 : UInt64)), (.double (0 : UInt64))] (.double (0 : UInt64)) := V7
  have c7_0 := c5_0.other W7 ne_a1_b1
  have SZ7 := Nat.le_trans SZ5 (Keep.of_wr W7).1
  have K7 := K5.wr W7 (Or.inr sz_b1)
  have N7 := Fr.snoc X7 N5 g_b1
  obtain ⟨cl8, Ar8, -, S8, Nn8, H8, -⟩ := id c7_0
  have hin8 : ¬ ((3 : Int32) < 0 ∨ cl8.slots.size ≤ ((3 : Int32)).toNatClampNeg) := inb_of S8 ⟨by decide, by decide⟩
  have hat8 : cl8.slots[((3 : Int32)).toNatClampNeg]? = some (.long s3) := H8.at hin8 rfl
  obtain ⟨cl9, Ar9, q9, S9, Nn9, H9, G9⟩ := id V7
  have hin9 : ¬ ((3 : Int32) < 0 ∨ cl9.slots.size ≤ ((3 : Int32)).toNatClampNeg) := inb_of S9 ⟨by decide, by decide⟩
  obtain ⟨T9, h9, X9, e9, W9, st9⟩ := stD X7 hx hZ e7 Ar9 (j := (3 : Int32)) hin9 (g := (mkF m 120 #[.val (.int (7 : Int32)), .val (.ref a1)] [(.double (FP.l2d s3)), (.int (3 : Int32)), (.ref b1), (.ref b1)])) rfl rfl (hb hby d_method_3_code_120)
  have V9 := Arv.set Ar9 q9 S9 Nn9 H9 G9 rfl W9 3 rfl (Nat.le_of_ble_eq_true rfl)
  replace V9 : Arv Z h9 b1 k1 .double (7 : Int32) [(.double (FP.l2d s0)), (.double (FP.l2d s1)), (.double (FP.l2d s2)), (.double (FP.l2d s3)), (.double (0 : UInt64)), (.double (0 : UInt64)), (.double (0 : UInt64))] (.double (0 : UInt64)) := V9
  have c9_0 := c7_0.other W9 ne_a1_b1
  have SZ9 := Nat.le_trans SZ7 (Keep.of_wr W9).1
  have K9 := K7.wr W9 (Or.inr sz_b1)
  have N9 := Fr.snoc X9 N7 g_b1
  obtain ⟨cl10, Ar10, -, S10, Nn10, H10, -⟩ := id c9_0
  have hin10 : ¬ ((4 : Int32) < 0 ∨ cl10.slots.size ≤ ((4 : Int32)).toNatClampNeg) := inb_of S10 ⟨by decide, by decide⟩
  have hat10 : cl10.slots[((4 : Int32)).toNatClampNeg]? = some (.long s4) := H10.at hin10 rfl
  obtain ⟨cl11, Ar11, q11, S11, Nn11, H11, G11⟩ := id V9
  have hin11 : ¬ ((4 : Int32) < 0 ∨ cl11.slots.size ≤ ((4 : Int32)).toNatClampNeg) := inb_of S11 ⟨by decide, by decide⟩
  obtain ⟨T11, h11, X11, e11, W11, st11⟩ := stD X9 hx hZ e9 Ar11 (j := (4 : Int32)) hin11 (g := (mkF m 127 #[.val (.int (7 : Int32)), .val (.ref a1)] [(.double (FP.l2d s4)), (.int (4 : Int32)), (.ref b1), (.ref b1)])) rfl rfl (hb hby d_method_3_code_127)
  have V11 := Arv.set Ar11 q11 S11 Nn11 H11 G11 rfl W11 4 rfl (Nat.le_of_ble_eq_true rfl)
  replace V11 : Arv Z h11 b1 k1 .double (7 : Int32) [(.double (FP.l2d s0)), (.double (FP.l2d s1)), (.double (FP.l2d s2)), (.double (FP.l2d s3)), (.double (FP.l2d s4)), (.double (0 : UInt64)), (.double (0 : UInt64))] (.double (0 : UInt64)) := V11
  have c11_0 := c9_0.other W11 ne_a1_b1
  have SZ11 := Nat.le_trans SZ9 (Keep.of_wr W11).1
  have K11 := K9.wr W11 (Or.inr sz_b1)
  have N11 := Fr.snoc X11 N9 g_b1
  obtain ⟨cl12, Ar12, -, S12, Nn12, H12, -⟩ := id c11_0
  have hin12 : ¬ ((5 : Int32) < 0 ∨ cl12.slots.size ≤ ((5 : Int32)).toNatClampNeg) := inb_of S12 ⟨by decide, by decide⟩
  have hat12 : cl12.slots[((5 : Int32)).toNatClampNeg]? = some (.long s5) := H12.at hin12 rfl
  obtain ⟨cl13, Ar13, q13, S13, Nn13, H13, G13⟩ := id V11
  have hin13 : ¬ ((5 : Int32) < 0 ∨ cl13.slots.size ≤ ((5 : Int32)).toNatClampNeg) := inb_of S13 ⟨by decide, by decide⟩
  obtain ⟨T13, h13, X13, e13, W13, st13⟩ := stD X11 hx hZ e11 Ar13 (j := (5 : Int32)) hin13 (g := (mkF m 134 #[.val (.int (7 : Int32)), .val (.ref a1)] [(.double (FP.l2d s5)), (.int (5 : Int32)), (.ref b1), (.ref b1)])) rfl rfl (hb hby d_method_3_code_134)
  have V13 := Arv.set Ar13 q13 S13 Nn13 H13 G13 rfl W13 5 rfl (Nat.le_of_ble_eq_true rfl)
  replace V13 : Arv Z h13 b1 k1 .double (7 : Int32) [(.double (FP.l2d s0)), (.double (FP.l2d s1)), (.double (FP.l2d s2)), (.double (FP.l2d s3)), (.double (FP.l2d s4)), (.double (FP.l2d s5)), (.double (0 : UInt64))] (.double (0 : UInt64)) := V13
  have c13_0 := c11_0.other W13 ne_a1_b1
  have SZ13 := Nat.le_trans SZ11 (Keep.of_wr W13).1
  have K13 := K11.wr W13 (Or.inr sz_b1)
  have N13 := Fr.snoc X13 N11 g_b1
  obtain ⟨cl14, Ar14, -, S14, Nn14, H14, -⟩ := id c13_0
  have hin14 : ¬ ((6 : Int32) < 0 ∨ cl14.slots.size ≤ ((6 : Int32)).toNatClampNeg) := inb_of S14 ⟨by decide, by decide⟩
  have hat14 : cl14.slots[((6 : Int32)).toNatClampNeg]? = some (.long s6) := H14.at hin14 rfl
  obtain ⟨cl15, Ar15, q15, S15, Nn15, H15, G15⟩ := id V13
  have hin15 : ¬ ((6 : Int32) < 0 ∨ cl15.slots.size ≤ ((6 : Int32)).toNatClampNeg) := inb_of S15 ⟨by decide, by decide⟩
  obtain ⟨T15, h15, X15, e15, W15, st15⟩ := stD X13 hx hZ e13 Ar15 (j := (6 : Int32)) hin15 (g := (mkF m 143 #[.val (.int (7 : Int32)), .val (.ref a1)] [(.double (FP.l2d s6)), (.int (6 : Int32)), (.ref b1), (.ref b1)])) rfl rfl (hb hby d_method_3_code_143)
  have V15 := Arv.set Ar15 q15 S15 Nn15 H15 G15 rfl W15 6 rfl (Nat.le_of_ble_eq_true rfl)
  replace V15 : Arv Z h15 b1 k1 .double (7 : Int32) [(.double (FP.l2d s0)), (.double (FP.l2d s1)), (.double (FP.l2d s2)), (.double (FP.l2d s3)), (.double (FP.l2d s4)), (.double (FP.l2d s5)), (.double (FP.l2d s6))] (.double (0 : UInt64)) := V15
  have c15_0 := c13_0.other W15 ne_a1_b1
  have SZ15 := Nat.le_trans SZ13 (Keep.of_wr W15).1
  have K15 := K13.wr W15 (Or.inr sz_b1)
  have N15 := Fr.snoc X15 N13 g_b1
  obtain ⟨fs, hr, hrun, hended, hW, hsame⟩ := X15.leave (v := some (.ref b1)) (fun h => by rw [Bd.returns] at h; cases h)
  refine ⟨_, _, pre0 _ ?_, hrun, hended, _, _, rfl, ?_, ⟨_, rfl⟩, hW, hsame.mono (by decide) (by decide)⟩
  · show Steps p.tables e below (s₁.setTop (mkF m 0 #[.val (.int (7 : Int32)), .val (.ref a1)] [])) _
    refine XS.iloadN X0.here hx rfl (hb hby d_method_3_code_0) rfl ?_
    refine XS.iconst X0.here hx rfl (hb hby d_method_3_code_1) ?_
    refine XS.icmpYes X0.here hx rfl (pc0 := 2) (pc' := 16) rfl (hb hby d_method_3_code_2) rfl (feq (by decide : ¬ ((7 : Int32) = (1 : Int32)))).2 (by decide) (by decide) ?_
    show Steps p.tables e below (s₁.setTop (mkF m 16 #[.val (.int (7 : Int32)), .val (.ref a1)] [])) _
    refine XS.iloadN X0.here hx rfl (hb hby d_method_3_code_16) rfl ?_
    refine XS.iconst X0.here hx rfl (hb hby d_method_3_code_17) ?_
    refine XS.icmpYes X0.here hx rfl (pc0 := 18) (pc' := 46) rfl (hb hby d_method_3_code_18) rfl (feq (by decide : ¬ ((7 : Int32) = (3 : Int32)))).2 (by decide) (by decide) ?_
    show Steps p.tables e below (s₁.setTop (mkF m 46 #[.val (.int (7 : Int32)), .val (.ref a1)] [])) _
    refine XS.iloadN X0.here hx rfl (hb hby d_method_3_code_46) rfl ?_
    refine XS.iconst X0.here hx rfl (hb hby d_method_3_code_47) ?_
    refine XS.icmpYes X0.here hx rfl (pc0 := 48) (pc' := 83) rfl (hb hby d_method_3_code_48) rfl (feq (by decide : ¬ ((7 : Int32) = (4 : Int32)))).2 (by decide) (by decide) ?_
    show Steps p.tables e below (s₁.setTop (mkF m 83 #[.val (.int (7 : Int32)), .val (.ref a1)] [])) _
    refine XS.iloadN X0.here hx rfl (hb hby d_method_3_code_83) rfl ?_
    refine XS.bipush X0.here hx rfl (hb hby d_method_3_code_84) ?_
    refine XS.icmpNo X0.here hx rfl (hb hby d_method_3_code_86) rfl (teq (by decide : (7 : Int32) = (7 : Int32))).2 ?_
    show Steps p.tables e below (s₁.setTop (mkF m 89 #[.val (.int (7 : Int32)), .val (.ref a1)] [])) _
    refine XS.bipush X0.here hx rfl (hb hby d_method_3_code_89) ?_
    show Steps p.tables e below (s₁.setTop (mkF m 91 #[.val (.int (7 : Int32)), .val (.ref a1)] [(.int (7 : Int32))])) _
    refine st1 _ ?_
    refine XS.dup X1.here hx rfl (hb hby d_method_3_code_93) rfl rfl ?_
    refine XS.iconst X1.here hx rfl (hb hby d_method_3_code_94) ?_
    show Steps p.tables e below (T1.setTop (mkF m 95 #[.val (.int (7 : Int32)), .val (.ref a1)] [(.int (0 : Int32)), (.ref b1), (.ref b1)])) _
    refine XS.aloadN X1.here hx rfl (hb hby d_method_3_code_95) rfl rfl ?_
    refine XS.iconst X1.here hx rfl (hb hby d_method_3_code_96) ?_
    show Steps p.tables e below (T1.setTop (mkF m 97 #[.val (.int (7 : Int32)), .val (.ref a1)] [(.int (0 : Int32)), (.ref a1), (.int (0 : Int32)), (.ref b1), (.ref b1)])) _
    refine X1.laload hx (j := (0 : Int32)) (v := (.long s0)) (by rw [e1]; exact Ar2.1) (State.isArrayOf_alike hZ.alike Ar2.2.1) Ar2.2.2 hin2 hat2 (g := (mkF m 97 #[.val (.int (7 : Int32)), .val (.ref a1)] [(.int (0 : Int32)), (.ref a1), (.int (0 : Int32)), (.ref b1), (.ref b1)])) rfl rfl (hb hby d_method_3_code_97) _ ?_
    refine XS.l2dS X1.here hx rfl (hb hby d_method_3_code_98) rfl (v := (FP.l2d s0)) (rfl) ?_
    show Steps p.tables e below (T1.setTop (mkF m 99 #[.val (.int (7 : Int32)), .val (.ref a1)] [(.double (FP.l2d s0)), (.int (0 : Int32)), (.ref b1), (.ref b1)])) _
    refine st3 _ ?_
    refine XS.dup X3.here hx rfl (hb hby d_method_3_code_100) rfl rfl ?_
    refine XS.iconst X3.here hx rfl (hb hby d_method_3_code_101) ?_
    show Steps p.tables e below (T3.setTop (mkF m 102 #[.val (.int (7 : Int32)), .val (.ref a1)] [(.int (1 : Int32)), (.ref b1), (.ref b1)])) _
    refine XS.aloadN X3.here hx rfl (hb hby d_method_3_code_102) rfl rfl ?_
    refine XS.iconst X3.here hx rfl (hb hby d_method_3_code_103) ?_
    show Steps p.tables e below (T3.setTop (mkF m 104 #[.val (.int (7 : Int32)), .val (.ref a1)] [(.int (1 : Int32)), (.ref a1), (.int (1 : Int32)), (.ref b1), (.ref b1)])) _
    refine X3.laload hx (j := (1 : Int32)) (v := (.long s1)) (by rw [e3]; exact Ar4.1) (State.isArrayOf_alike hZ.alike Ar4.2.1) Ar4.2.2 hin4 hat4 (g := (mkF m 104 #[.val (.int (7 : Int32)), .val (.ref a1)] [(.int (1 : Int32)), (.ref a1), (.int (1 : Int32)), (.ref b1), (.ref b1)])) rfl rfl (hb hby d_method_3_code_104) _ ?_
    refine XS.l2dS X3.here hx rfl (hb hby d_method_3_code_105) rfl (v := (FP.l2d s1)) (rfl) ?_
    show Steps p.tables e below (T3.setTop (mkF m 106 #[.val (.int (7 : Int32)), .val (.ref a1)] [(.double (FP.l2d s1)), (.int (1 : Int32)), (.ref b1), (.ref b1)])) _
    refine st5 _ ?_
    refine XS.dup X5.here hx rfl (hb hby d_method_3_code_107) rfl rfl ?_
    refine XS.iconst X5.here hx rfl (hb hby d_method_3_code_108) ?_
    show Steps p.tables e below (T5.setTop (mkF m 109 #[.val (.int (7 : Int32)), .val (.ref a1)] [(.int (2 : Int32)), (.ref b1), (.ref b1)])) _
    refine XS.aloadN X5.here hx rfl (hb hby d_method_3_code_109) rfl rfl ?_
    refine XS.iconst X5.here hx rfl (hb hby d_method_3_code_110) ?_
    show Steps p.tables e below (T5.setTop (mkF m 111 #[.val (.int (7 : Int32)), .val (.ref a1)] [(.int (2 : Int32)), (.ref a1), (.int (2 : Int32)), (.ref b1), (.ref b1)])) _
    refine X5.laload hx (j := (2 : Int32)) (v := (.long s2)) (by rw [e5]; exact Ar6.1) (State.isArrayOf_alike hZ.alike Ar6.2.1) Ar6.2.2 hin6 hat6 (g := (mkF m 111 #[.val (.int (7 : Int32)), .val (.ref a1)] [(.int (2 : Int32)), (.ref a1), (.int (2 : Int32)), (.ref b1), (.ref b1)])) rfl rfl (hb hby d_method_3_code_111) _ ?_
    refine XS.l2dS X5.here hx rfl (hb hby d_method_3_code_112) rfl (v := (FP.l2d s2)) (rfl) ?_
    show Steps p.tables e below (T5.setTop (mkF m 113 #[.val (.int (7 : Int32)), .val (.ref a1)] [(.double (FP.l2d s2)), (.int (2 : Int32)), (.ref b1), (.ref b1)])) _
    refine st7 _ ?_
    refine XS.dup X7.here hx rfl (hb hby d_method_3_code_114) rfl rfl ?_
    refine XS.iconst X7.here hx rfl (hb hby d_method_3_code_115) ?_
    show Steps p.tables e below (T7.setTop (mkF m 116 #[.val (.int (7 : Int32)), .val (.ref a1)] [(.int (3 : Int32)), (.ref b1), (.ref b1)])) _
    refine XS.aloadN X7.here hx rfl (hb hby d_method_3_code_116) rfl rfl ?_
    refine XS.iconst X7.here hx rfl (hb hby d_method_3_code_117) ?_
    show Steps p.tables e below (T7.setTop (mkF m 118 #[.val (.int (7 : Int32)), .val (.ref a1)] [(.int (3 : Int32)), (.ref a1), (.int (3 : Int32)), (.ref b1), (.ref b1)])) _
    refine X7.laload hx (j := (3 : Int32)) (v := (.long s3)) (by rw [e7]; exact Ar8.1) (State.isArrayOf_alike hZ.alike Ar8.2.1) Ar8.2.2 hin8 hat8 (g := (mkF m 118 #[.val (.int (7 : Int32)), .val (.ref a1)] [(.int (3 : Int32)), (.ref a1), (.int (3 : Int32)), (.ref b1), (.ref b1)])) rfl rfl (hb hby d_method_3_code_118) _ ?_
    refine XS.l2dS X7.here hx rfl (hb hby d_method_3_code_119) rfl (v := (FP.l2d s3)) (rfl) ?_
    show Steps p.tables e below (T7.setTop (mkF m 120 #[.val (.int (7 : Int32)), .val (.ref a1)] [(.double (FP.l2d s3)), (.int (3 : Int32)), (.ref b1), (.ref b1)])) _
    refine st9 _ ?_
    refine XS.dup X9.here hx rfl (hb hby d_method_3_code_121) rfl rfl ?_
    refine XS.iconst X9.here hx rfl (hb hby d_method_3_code_122) ?_
    show Steps p.tables e below (T9.setTop (mkF m 123 #[.val (.int (7 : Int32)), .val (.ref a1)] [(.int (4 : Int32)), (.ref b1), (.ref b1)])) _
    refine XS.aloadN X9.here hx rfl (hb hby d_method_3_code_123) rfl rfl ?_
    refine XS.iconst X9.here hx rfl (hb hby d_method_3_code_124) ?_
    show Steps p.tables e below (T9.setTop (mkF m 125 #[.val (.int (7 : Int32)), .val (.ref a1)] [(.int (4 : Int32)), (.ref a1), (.int (4 : Int32)), (.ref b1), (.ref b1)])) _
    refine X9.laload hx (j := (4 : Int32)) (v := (.long s4)) (by rw [e9]; exact Ar10.1) (State.isArrayOf_alike hZ.alike Ar10.2.1) Ar10.2.2 hin10 hat10 (g := (mkF m 125 #[.val (.int (7 : Int32)), .val (.ref a1)] [(.int (4 : Int32)), (.ref a1), (.int (4 : Int32)), (.ref b1), (.ref b1)])) rfl rfl (hb hby d_method_3_code_125) _ ?_
    refine XS.l2dS X9.here hx rfl (hb hby d_method_3_code_126) rfl (v := (FP.l2d s4)) (rfl) ?_
    show Steps p.tables e below (T9.setTop (mkF m 127 #[.val (.int (7 : Int32)), .val (.ref a1)] [(.double (FP.l2d s4)), (.int (4 : Int32)), (.ref b1), (.ref b1)])) _
    refine st11 _ ?_
    refine XS.dup X11.here hx rfl (hb hby d_method_3_code_128) rfl rfl ?_
    refine XS.iconst X11.here hx rfl (hb hby d_method_3_code_129) ?_
    show Steps p.tables e below (T11.setTop (mkF m 130 #[.val (.int (7 : Int32)), .val (.ref a1)] [(.int (5 : Int32)), (.ref b1), (.ref b1)])) _
    refine XS.aloadN X11.here hx rfl (hb hby d_method_3_code_130) rfl rfl ?_
    refine XS.iconst X11.here hx rfl (hb hby d_method_3_code_131) ?_
    show Steps p.tables e below (T11.setTop (mkF m 132 #[.val (.int (7 : Int32)), .val (.ref a1)] [(.int (5 : Int32)), (.ref a1), (.int (5 : Int32)), (.ref b1), (.ref b1)])) _
    refine X11.laload hx (j := (5 : Int32)) (v := (.long s5)) (by rw [e11]; exact Ar12.1) (State.isArrayOf_alike hZ.alike Ar12.2.1) Ar12.2.2 hin12 hat12 (g := (mkF m 132 #[.val (.int (7 : Int32)), .val (.ref a1)] [(.int (5 : Int32)), (.ref a1), (.int (5 : Int32)), (.ref b1), (.ref b1)])) rfl rfl (hb hby d_method_3_code_132) _ ?_
    refine XS.l2dS X11.here hx rfl (hb hby d_method_3_code_133) rfl (v := (FP.l2d s5)) (rfl) ?_
    show Steps p.tables e below (T11.setTop (mkF m 134 #[.val (.int (7 : Int32)), .val (.ref a1)] [(.double (FP.l2d s5)), (.int (5 : Int32)), (.ref b1), (.ref b1)])) _
    refine st13 _ ?_
    refine XS.dup X13.here hx rfl (hb hby d_method_3_code_135) rfl rfl ?_
    refine XS.bipush X13.here hx rfl (hb hby d_method_3_code_136) ?_
    show Steps p.tables e below (T13.setTop (mkF m 138 #[.val (.int (7 : Int32)), .val (.ref a1)] [(.int (6 : Int32)), (.ref b1), (.ref b1)])) _
    refine XS.aloadN X13.here hx rfl (hb hby d_method_3_code_138) rfl rfl ?_
    refine XS.bipush X13.here hx rfl (hb hby d_method_3_code_139) ?_
    show Steps p.tables e below (T13.setTop (mkF m 141 #[.val (.int (7 : Int32)), .val (.ref a1)] [(.int (6 : Int32)), (.ref a1), (.int (6 : Int32)), (.ref b1), (.ref b1)])) _
    refine X13.laload hx (j := (6 : Int32)) (v := (.long s6)) (by rw [e13]; exact Ar14.1) (State.isArrayOf_alike hZ.alike Ar14.2.1) Ar14.2.2 hin14 hat14 (g := (mkF m 141 #[.val (.int (7 : Int32)), .val (.ref a1)] [(.int (6 : Int32)), (.ref a1), (.int (6 : Int32)), (.ref b1), (.ref b1)])) rfl rfl (hb hby d_method_3_code_141) _ ?_
    refine XS.l2dS X13.here hx rfl (hb hby d_method_3_code_142) rfl (v := (FP.l2d s6)) (rfl) ?_
    show Steps p.tables e below (T13.setTop (mkF m 143 #[.val (.int (7 : Int32)), .val (.ref a1)] [(.double (FP.l2d s6)), (.int (6 : Int32)), (.ref b1), (.ref b1)])) _
    refine st15 _ ?_
    show Steps p.tables e below (T15.setTop (mkF m 144 #[.val (.int (7 : Int32)), .val (.ref a1)] [(.ref b1)])) _
    exact retOut X15 hx (t := (.array .double)) Bd.returns rfl (Or.inr (Or.inr (Or.inr (Or.inr ⟨rfl, rfl, rfl⟩)))) (hb hby d_method_3_code_144) hr
  · show QN Z (7 : Int32) [(.double (FP.l2d s0)), (.double (FP.l2d s1)), (.double (FP.l2d s2)), (.double (FP.l2d s3)), (.double (FP.l2d s4)), (.double (FP.l2d s5)), (.double (FP.l2d s6))] h0 n0 _ T15.heap _
    rw [e15]
    exact ⟨b1, _, rfl, N15, g_b1, sz_b1, K15, V15⟩
theorem d_method_3_code_145 : decode method_3_code 145 = .ok (.bipush 9, 2) := by decide +kernel
theorem d_method_3_code_147 : decode method_3_code 147 = .ok (.newarray .double, 2) := by decide +kernel
theorem d_method_3_code_149 : decode method_3_code 149 = .ok (.dup, 1) := by decide +kernel
theorem d_method_3_code_150 : decode method_3_code 150 = .ok (.iconst 0, 1) := by decide +kernel
theorem d_method_3_code_151 : decode method_3_code 151 = .ok (.aload_n 1, 1) := by decide +kernel
theorem d_method_3_code_152 : decode method_3_code 152 = .ok (.iconst 0, 1) := by decide +kernel
theorem d_method_3_code_153 : decode method_3_code 153 = .ok (.laload, 1) := by decide +kernel
theorem d_method_3_code_154 : decode method_3_code 154 = .ok (.l2d, 1) := by decide +kernel
theorem d_method_3_code_155 : decode method_3_code 155 = .ok (.dastore, 1) := by decide +kernel
theorem d_method_3_code_156 : decode method_3_code 156 = .ok (.dup, 1) := by decide +kernel
theorem d_method_3_code_157 : decode method_3_code 157 = .ok (.iconst 1, 1) := by decide +kernel
theorem d_method_3_code_158 : decode method_3_code 158 = .ok (.aload_n 1, 1) := by decide +kernel
theorem d_method_3_code_159 : decode method_3_code 159 = .ok (.iconst 1, 1) := by decide +kernel
theorem d_method_3_code_160 : decode method_3_code 160 = .ok (.laload, 1) := by decide +kernel
theorem d_method_3_code_161 : decode method_3_code 161 = .ok (.l2d, 1) := by decide +kernel
theorem d_method_3_code_162 : decode method_3_code 162 = .ok (.dastore, 1) := by decide +kernel
theorem d_method_3_code_163 : decode method_3_code 163 = .ok (.dup, 1) := by decide +kernel
theorem d_method_3_code_164 : decode method_3_code 164 = .ok (.iconst 2, 1) := by decide +kernel
theorem d_method_3_code_165 : decode method_3_code 165 = .ok (.aload_n 1, 1) := by decide +kernel
theorem d_method_3_code_166 : decode method_3_code 166 = .ok (.iconst 2, 1) := by decide +kernel
theorem d_method_3_code_167 : decode method_3_code 167 = .ok (.laload, 1) := by decide +kernel
theorem d_method_3_code_168 : decode method_3_code 168 = .ok (.l2d, 1) := by decide +kernel
theorem d_method_3_code_169 : decode method_3_code 169 = .ok (.dastore, 1) := by decide +kernel
theorem d_method_3_code_170 : decode method_3_code 170 = .ok (.dup, 1) := by decide +kernel
theorem d_method_3_code_171 : decode method_3_code 171 = .ok (.iconst 3, 1) := by decide +kernel
theorem d_method_3_code_172 : decode method_3_code 172 = .ok (.aload_n 1, 1) := by decide +kernel
theorem d_method_3_code_173 : decode method_3_code 173 = .ok (.iconst 3, 1) := by decide +kernel
theorem d_method_3_code_174 : decode method_3_code 174 = .ok (.laload, 1) := by decide +kernel
theorem d_method_3_code_175 : decode method_3_code 175 = .ok (.l2d, 1) := by decide +kernel
theorem d_method_3_code_176 : decode method_3_code 176 = .ok (.dastore, 1) := by decide +kernel
theorem d_method_3_code_177 : decode method_3_code 177 = .ok (.dup, 1) := by decide +kernel
theorem d_method_3_code_178 : decode method_3_code 178 = .ok (.iconst 4, 1) := by decide +kernel
theorem d_method_3_code_179 : decode method_3_code 179 = .ok (.aload_n 1, 1) := by decide +kernel
theorem d_method_3_code_180 : decode method_3_code 180 = .ok (.iconst 4, 1) := by decide +kernel
theorem d_method_3_code_181 : decode method_3_code 181 = .ok (.laload, 1) := by decide +kernel
theorem d_method_3_code_182 : decode method_3_code 182 = .ok (.l2d, 1) := by decide +kernel
theorem d_method_3_code_183 : decode method_3_code 183 = .ok (.dastore, 1) := by decide +kernel
theorem d_method_3_code_184 : decode method_3_code 184 = .ok (.dup, 1) := by decide +kernel
theorem d_method_3_code_185 : decode method_3_code 185 = .ok (.iconst 5, 1) := by decide +kernel
theorem d_method_3_code_186 : decode method_3_code 186 = .ok (.aload_n 1, 1) := by decide +kernel
theorem d_method_3_code_187 : decode method_3_code 187 = .ok (.iconst 5, 1) := by decide +kernel
theorem d_method_3_code_188 : decode method_3_code 188 = .ok (.laload, 1) := by decide +kernel
theorem d_method_3_code_189 : decode method_3_code 189 = .ok (.l2d, 1) := by decide +kernel
theorem d_method_3_code_190 : decode method_3_code 190 = .ok (.dastore, 1) := by decide +kernel
theorem d_method_3_code_191 : decode method_3_code 191 = .ok (.dup, 1) := by decide +kernel
theorem d_method_3_code_192 : decode method_3_code 192 = .ok (.bipush 6, 2) := by decide +kernel
theorem d_method_3_code_194 : decode method_3_code 194 = .ok (.aload_n 1, 1) := by decide +kernel
theorem d_method_3_code_195 : decode method_3_code 195 = .ok (.bipush 6, 2) := by decide +kernel
theorem d_method_3_code_197 : decode method_3_code 197 = .ok (.laload, 1) := by decide +kernel
theorem d_method_3_code_198 : decode method_3_code 198 = .ok (.l2d, 1) := by decide +kernel
theorem d_method_3_code_199 : decode method_3_code 199 = .ok (.dastore, 1) := by decide +kernel
theorem d_method_3_code_200 : decode method_3_code 200 = .ok (.dup, 1) := by decide +kernel
theorem d_method_3_code_201 : decode method_3_code 201 = .ok (.bipush 7, 2) := by decide +kernel
theorem d_method_3_code_203 : decode method_3_code 203 = .ok (.aload_n 1, 1) := by decide +kernel
theorem d_method_3_code_204 : decode method_3_code 204 = .ok (.bipush 7, 2) := by decide +kernel
theorem d_method_3_code_206 : decode method_3_code 206 = .ok (.laload, 1) := by decide +kernel
theorem d_method_3_code_207 : decode method_3_code 207 = .ok (.l2d, 1) := by decide +kernel
theorem d_method_3_code_208 : decode method_3_code 208 = .ok (.dastore, 1) := by decide +kernel
theorem d_method_3_code_209 : decode method_3_code 209 = .ok (.dup, 1) := by decide +kernel
theorem d_method_3_code_210 : decode method_3_code 210 = .ok (.bipush 8, 2) := by decide +kernel
theorem d_method_3_code_212 : decode method_3_code 212 = .ok (.aload_n 1, 1) := by decide +kernel
theorem d_method_3_code_213 : decode method_3_code 213 = .ok (.bipush 8, 2) := by decide +kernel
theorem d_method_3_code_215 : decode method_3_code 215 = .ok (.laload, 1) := by decide +kernel
theorem d_method_3_code_216 : decode method_3_code 216 = .ok (.l2d, 1) := by decide +kernel
theorem d_method_3_code_217 : decode method_3_code 217 = .ok (.dastore, 1) := by decide +kernel
theorem d_method_3_code_218 : decode method_3_code 218 = .ok (.areturn, 1) := by decide +kernel
set_option maxRecDepth 65536 in
set_option maxHeartbeats 40000000 in
theorem rmS9 (l : Launch) (Z : State) (a0 : Array Value) (hw : ∀ d ∈ tables_1, d.before a0 Z = true) (ws : List Jvm.Cond) (a1 : Addr) (kA : ClassId) (s0 s1 s2 s3 s4 s5 s6 s7 s8 : Int64) (h0 : Heap) (n0 : Nat) (Z0 : n0 ≤ h0.size) (V_a1 : Arv Z h0 a1 kA .long (9 : Int32) [(.long s0), (.long s1), (.long s2), (.long s3), (.long s4), (.long s5), (.long s6), (.long s7), (.long s8)] (.long (0 : Int64)))  :
    MetFree l (⟨"com/example/bytegauge/bytegauge/stats/JsonTablePercentilePinLaw", "sortedOf", "(I[J)[D"⟩ : MethodName) (head1 (Jvm.Cond.code (⟨"com/example/bytegauge/bytegauge/stats/JsonTablePercentilePinLaw", "sortedOf", "(I[J)[D"⟩ : MethodName) method_3_code 2 (some (.array .double)) :: ws) ({ frames := 0, cells := 1, slots := 9, locals := 0 } : Room)) (fun a U => a = #[(.int (9 : Int32)), (.ref a1)] ∧ Z.Warmed39 U.vm ∧ U.heap = h0) (fun _ _ _ _ _ => True) (fun _ U o U' => ∃ v L, o = .returned v ∧ QN Z (9 : Int32) [(.double (FP.l2d s0)), (.double (FP.l2d s1)), (.double (FP.l2d s2)), (.double (FP.l2d s3)), (.double (FP.l2d s4)), (.double (FP.l2d s5)), (.double (FP.l2d s6)), (.double (FP.l2d s7)), (.double (FP.l2d s8))] h0 n0 v U'.heap L ∧ FrameEnd U o U' L ({ frames := 0, cells := 1, slots := 9, locals := 0 } : Room).cells ({ frames := 0, cells := 1, slots := 9, locals := 0 } : Room).slots) := by
  refine MetFree.of_bodySF (plainFor_of_name pn_com_example_bytegauge_bytegauge_stats_JsonTablePercentilePinLaw) hisR ?_
  intro p e s m args below meth c s₁ Bd hml0 hP hK
  obtain ⟨rfl, hZ, hh⟩ := hP
  have hx := Bd.exec
  have hby := Bd.bytes
  have hml : c.maxLocals = 2 := hml0
  have hown : s.vm.findClass "com/example/bytegauge/bytegauge/stats/JsonTablePercentilePinLaw" = some m.cls := findClass_of_methodNamed Bd.named
  have hnm := (name_of_methodNamed Bd.named Bd.method).1
  have X0 : Stand p l e ({ frames := 0, cells := 1, slots := 9, locals := 0 } : Room) s m #[(.int (9 : Int32)), (.ref a1)] below meth c s₁ [] 0 0 := Stand.of_body Bd
  have e0 : s₁.heap = h0 := by rw [← hh, Bd.state]; rfl
  have N0 := Fr.nil n0
  have pre0 : ∀ t, Steps p.tables e below (s₁.setTop (mkF m 0 #[.val (.int (9 : Int32)), .val (.ref a1)] [])) t → Steps p.tables e below (s₁.setTop (entryFrame m #[(.int (9 : Int32)), (.ref a1)] 2)) t := fun t k => castTop (ef_method_3_code m (9 : Int32) a1) k
  have K0 := Keep.refl h0 []
  obtain ⟨T1, h1, k1, X1, e1, E1, A1, st1⟩ := newP X0 hx hZ (hw _ (List.mem_of_getElem? (i := 7) rfl)) e0 (g := (mkF m 147 #[.val (.int (9 : Int32)), .val (.ref a1)] [(.int (9 : Int32))])) rfl (hb hby d_method_3_code_147) rfl (by decide) (cap := 9) (by decide) (by decide) (by decide) (by decide)
  obtain ⟨b1, g1⟩ : ∃ z, z = h0.size := ⟨_, rfl⟩
  rw [← g1] at A1 st1
  have g_b1 : n0 ≤ b1 := Nat.le_trans Z0 (Nat.le_of_eq g1.symm)
  have sz_b1 : h0.size ≤ b1 := Nat.le_trans K0.1 (Nat.le_of_eq g1.symm)
  have ne_a1_b1 : a1 ≠ b1 := Nat.ne_of_lt (Nat.lt_of_lt_of_le V_a1.lt (Nat.le_of_eq g1.symm))
  have c1_0 := V_a1.ext E1
  have SZ1 := Nat.le_trans Z0 E1.1
  have K1 := K0.ext E1
  have V1 : Arv Z h1 b1 k1 .double (9 : Int32) [(.double (0 : UInt64)), (.double (0 : UInt64)), (.double (0 : UInt64)), (.double (0 : UInt64)), (.double (0 : UInt64)), (.double (0 : UInt64)), (.double (0 : UInt64)), (.double (0 : UInt64)), (.double (0 : UInt64))] (.double (0 : UInt64)) := (Arv.new A1 (by decide)).pad (pad_rep [] (.double (0 : UInt64)) 9)
  obtain ⟨cl2, Ar2, -, S2, Nn2, H2, -⟩ := id c1_0
  have hin2 : ¬ ((0 : Int32) < 0 ∨ cl2.slots.size ≤ ((0 : Int32)).toNatClampNeg) := inb_of S2 ⟨by decide, by decide⟩
  have hat2 : cl2.slots[((0 : Int32)).toNatClampNeg]? = some (.long s0) := H2.at hin2 rfl
  obtain ⟨cl3, Ar3, q3, S3, Nn3, H3, G3⟩ := id V1
  have hin3 : ¬ ((0 : Int32) < 0 ∨ cl3.slots.size ≤ ((0 : Int32)).toNatClampNeg) := inb_of S3 ⟨by decide, by decide⟩
  obtain ⟨T3, h3, X3, e3, W3, st3⟩ := stD X1 hx hZ e1 Ar3 (j := (0 : Int32)) hin3 (g := (mkF m 155 #[.val (.int (9 : Int32)), .val (.ref a1)] [(.double (FP.l2d s0)), (.int (0 : Int32)), (.ref b1), (.ref b1)])) rfl rfl (hb hby d_method_3_code_155)
  have V3 := Arv.set Ar3 q3 S3 Nn3 H3 G3 rfl W3 0 rfl (Nat.le_of_ble_eq_true rfl)
  replace V3 : Arv Z h3 b1 k1 .double (9 : Int32) [(.double (FP.l2d s0)), (.double (0 : UInt64)), (.double (0 : UInt64)), (.double (0 : UInt64)), (.double (0 : UInt64)), (.double (0 : UInt64)), (.double (0 : UInt64)), (.double (0 : UInt64)), (.double (0 : UInt64))] (.double (0 : UInt64)) := V3
  have c3_0 := c1_0.other W3 ne_a1_b1
  have SZ3 := Nat.le_trans SZ1 (Keep.of_wr W3).1
  have K3 := K1.wr W3 (Or.inr sz_b1)
  have N3 := Fr.snoc X3 N0 g_b1
  obtain ⟨cl4, Ar4, -, S4, Nn4, H4, -⟩ := id c3_0
  have hin4 : ¬ ((1 : Int32) < 0 ∨ cl4.slots.size ≤ ((1 : Int32)).toNatClampNeg) := inb_of S4 ⟨by decide, by decide⟩
  have hat4 : cl4.slots[((1 : Int32)).toNatClampNeg]? = some (.long s1) := H4.at hin4 rfl
  obtain ⟨cl5, Ar5, q5, S5, Nn5, H5, G5⟩ := id V3
  have hin5 : ¬ ((1 : Int32) < 0 ∨ cl5.slots.size ≤ ((1 : Int32)).toNatClampNeg) := inb_of S5 ⟨by decide, by decide⟩
  obtain ⟨T5, h5, X5, e5, W5, st5⟩ := stD X3 hx hZ e3 Ar5 (j := (1 : Int32)) hin5 (g := (mkF m 162 #[.val (.int (9 : Int32)), .val (.ref a1)] [(.double (FP.l2d s1)), (.int (1 : Int32)), (.ref b1), (.ref b1)])) rfl rfl (hb hby d_method_3_code_162)
  have V5 := Arv.set Ar5 q5 S5 Nn5 H5 G5 rfl W5 1 rfl (Nat.le_of_ble_eq_true rfl)
  replace V5 : Arv Z h5 b1 k1 .double (9 : Int32) [(.double (FP.l2d s0)), (.double (FP.l2d s1)), (.double (0 : UInt64)), (.double (0 : UInt64)), (.double (0 : UInt64)), (.double (0 : UInt64)), (.double (0 : UInt64)), (.double (0 : UInt64)), (.double (0 : UInt64))] (.double (0 : UInt64)) := V5
  have c5_0 := c3_0.other W5 ne_a1_b1
  have SZ5 := Nat.le_trans SZ3 (Keep.of_wr W5).1
  have K5 := K3.wr W5 (Or.inr sz_b1)
  have N5 := Fr.snoc X5 N3 g_b1
  obtain ⟨cl6, Ar6, -, S6, Nn6, H6, -⟩ := id c5_0
  have hin6 : ¬ ((2 : Int32) < 0 ∨ cl6.slots.size ≤ ((2 : Int32)).toNatClampNeg) := inb_of S6 ⟨by decide, by decide⟩
  have hat6 : cl6.slots[((2 : Int32)).toNatClampNeg]? = some (.long s2) := H6.at hin6 rfl
  obtain ⟨cl7, Ar7, q7, S7, Nn7, H7, G7⟩ := id V5
  have hin7 : ¬ ((2 : Int32) < 0 ∨ cl7.slots.size ≤ ((2 : Int32)).toNatClampNeg) := inb_of S7 ⟨by decide, by decide⟩
  obtain ⟨T7, h7, X7, e7, W7, st7⟩ := stD X5 hx hZ e5 Ar7 (j := (2 : Int32)) hin7 (g := (mkF m 169 #[.val (.int (9 : Int32)), .val (.ref a1)] [(.double (FP.l2d s2)), (.int (2 : Int32)), (.ref b1), (.ref b1)])) rfl rfl (hb hby d_method_3_code_169)
  have V7 := Arv.set Ar7 q7 S7 Nn7 H7 G7 rfl W7 2 rfl (Nat.le_of_ble_eq_true rfl)
  replace V7 : Arv Z h7 b1 k1 .double (9 : Int32) [(.double (FP.l2d s0)), (.double (FP.l2d s1)), (.double (FP.l2d s2)), (.double (0 : UInt64)), (.double (0 : UInt64)), (.double (0 : UInt64)), (.double (0 : UInt64)), (.double (0 : UInt64)), (.double (0 : UInt64))] (.double (0 : UInt64)) := V7
  have c7_0 := c5_0.other W7 ne_a1_b1
  have SZ7 := Nat.le_trans SZ5 (Keep.of_wr W7).1
  have K7 := K5.wr W7 (Or.inr sz_b1)
  have N7 := Fr.snoc X7 N5 g_b1
  obtain ⟨cl8, Ar8, -, S8, Nn8, H8, -⟩ := id c7_0
  have hin8 : ¬ ((3 : Int32) < 0 ∨ cl8.slots.size ≤ ((3 : Int32)).toNatClampNeg) := inb_of S8 ⟨by decide, by decide⟩
  have hat8 : cl8.slots[((3 : Int32)).toNatClampNeg]? = some (.long s3) := H8.at hin8 rfl
  obtain ⟨cl9, Ar9, q9, S9, Nn9, H9, G9⟩ := id V7
  have hin9 : ¬ ((3 : Int32) < 0 ∨ cl9.slots.size ≤ ((3 : Int32)).toNatClampNeg) := inb_of S9 ⟨by decide, by decide⟩
  obtain ⟨T9, h9, X9, e9, W9, st9⟩ := stD X7 hx hZ e7 Ar9 (j := (3 : Int32)) hin9 (g := (mkF m 176 #[.val (.int (9 : Int32)), .val (.ref a1)] [(.double (FP.l2d s3)), (.int (3 : Int32)), (.ref b1), (.ref b1)])) rfl rfl (hb hby d_method_3_code_176)
  have V9 := Arv.set Ar9 q9 S9 Nn9 H9 G9 rfl W9 3 rfl (Nat.le_of_ble_eq_true rfl)
  replace V9 : Arv Z h9 b1 k1 .double (9 : Int32) [(.double (FP.l2d s0)), (.double (FP.l2d s1)), (.double (FP.l2d s2)), (.double (FP.l2d s3)), (.double (0 : UInt64)), (.double (0 : UInt64)), (.double (0 : UInt64)), (.double (0 : UInt64)), (.double (0 : UInt64))] (.double (0 : UInt64)) := V9
  have c9_0 := c7_0.other W9 ne_a1_b1
  have SZ9 := Nat.le_trans SZ7 (Keep.of_wr W9).1
  have K9 := K7.wr W9 (Or.inr sz_b1)
  have N9 := Fr.snoc X9 N7 g_b1
  obtain ⟨cl10, Ar10, -, S10, Nn10, H10, -⟩ := id c9_0
  have hin10 : ¬ ((4 : Int32) < 0 ∨ cl10.slots.size ≤ ((4 : Int32)).toNatClampNeg) := inb_of S10 ⟨by decide, by decide⟩
  have hat10 : cl10.slots[((4 : Int32)).toNatClampNeg]? = some (.long s4) := H10.at hin10 rfl
  obtain ⟨cl11, Ar11, q11, S11, Nn11, H11, G11⟩ := id V9
  have hin11 : ¬ ((4 : Int32) < 0 ∨ cl11.slots.size ≤ ((4 : Int32)).toNatClampNeg) := inb_of S11 ⟨by decide, by decide⟩
  obtain ⟨T11, h11, X11, e11, W11, st11⟩ := stD X9 hx hZ e9 Ar11 (j := (4 : Int32)) hin11 (g := (mkF m 183 #[.val (.int (9 : Int32)), .val (.ref a1)] [(.double (FP.l2d s4)), (.int (4 : Int32)), (.ref b1), (.ref b1)])) rfl rfl (hb hby d_method_3_code_183)
  have V11 := Arv.set Ar11 q11 S11 Nn11 H11 G11 rfl W11 4 rfl (Nat.le_of_ble_eq_true rfl)
  replace V11 : Arv Z h11 b1 k1 .double (9 : Int32) [(.double (FP.l2d s0)), (.double (FP.l2d s1)), (.double (FP.l2d s2)), (.double (FP.l2d s3)), (.double (FP.l2d s4)), (.double (0 : UInt64)), (.double (0 : UInt64)), (.double (0 : UInt64)), (.double (0 : UInt64))] (.double (0 : UInt64)) := V11
  have c11_0 := c9_0.other W11 ne_a1_b1
  have SZ11 := Nat.le_trans SZ9 (Keep.of_wr W11).1
  have K11 := K9.wr W11 (Or.inr sz_b1)
  have N11 := Fr.snoc X11 N9 g_b1
  obtain ⟨cl12, Ar12, -, S12, Nn12, H12, -⟩ := id c11_0
  have hin12 : ¬ ((5 : Int32) < 0 ∨ cl12.slots.size ≤ ((5 : Int32)).toNatClampNeg) := inb_of S12 ⟨by decide, by decide⟩
  have hat12 : cl12.slots[((5 : Int32)).toNatClampNeg]? = some (.long s5) := H12.at hin12 rfl
  obtain ⟨cl13, Ar13, q13, S13, Nn13, H13, G13⟩ := id V11
  have hin13 : ¬ ((5 : Int32) < 0 ∨ cl13.slots.size ≤ ((5 : Int32)).toNatClampNeg) := inb_of S13 ⟨by decide, by decide⟩
  obtain ⟨T13, h13, X13, e13, W13, st13⟩ := stD X11 hx hZ e11 Ar13 (j := (5 : Int32)) hin13 (g := (mkF m 190 #[.val (.int (9 : Int32)), .val (.ref a1)] [(.double (FP.l2d s5)), (.int (5 : Int32)), (.ref b1), (.ref b1)])) rfl rfl (hb hby d_method_3_code_190)
  have V13 := Arv.set Ar13 q13 S13 Nn13 H13 G13 rfl W13 5 rfl (Nat.le_of_ble_eq_true rfl)
  replace V13 : Arv Z h13 b1 k1 .double (9 : Int32) [(.double (FP.l2d s0)), (.double (FP.l2d s1)), (.double (FP.l2d s2)), (.double (FP.l2d s3)), (.double (FP.l2d s4)), (.double (FP.l2d s5)), (.double (0 : UInt64)), (.double (0 : UInt64)), (.double (0 : UInt64))] (.double (0 : UInt64)) := V13
  have c13_0 := c11_0.other W13 ne_a1_b1
  have SZ13 := Nat.le_trans SZ11 (Keep.of_wr W13).1
  have K13 := K11.wr W13 (Or.inr sz_b1)
  have N13 := Fr.snoc X13 N11 g_b1
  obtain ⟨cl14, Ar14, -, S14, Nn14, H14, -⟩ := id c13_0
  have hin14 : ¬ ((6 : Int32) < 0 ∨ cl14.slots.size ≤ ((6 : Int32)).toNatClampNeg) := inb_of S14 ⟨by decide, by decide⟩
  have hat14 : cl14.slots[((6 : Int32)).toNatClampNeg]? = some (.long s6) := H14.at hin14 rfl
  obtain ⟨cl15, Ar15, q15, S15, Nn15, H15, G15⟩ := id V13
  have hin15 : ¬ ((6 : Int32) < 0 ∨ cl15.slots.size ≤ ((6 : Int32)).toNatClampNeg) := inb_of S15 ⟨by decide, by decide⟩
  obtain ⟨T15, h15, X15, e15, W15, st15⟩ := stD X13 hx hZ e13 Ar15 (j := (6 : Int32)) hin15 (g := (mkF m 199 #[.val (.int (9 : Int32)), .val (.ref a1)] [(.double (FP.l2d s6)), (.int (6 : Int32)), (.ref b1), (.ref b1)])) rfl rfl (hb hby d_method_3_code_199)
  have V15 := Arv.set Ar15 q15 S15 Nn15 H15 G15 rfl W15 6 rfl (Nat.le_of_ble_eq_true rfl)
  replace V15 : Arv Z h15 b1 k1 .double (9 : Int32) [(.double (FP.l2d s0)), (.double (FP.l2d s1)), (.double (FP.l2d s2)), (.double (FP.l2d s3)), (.double (FP.l2d s4)), (.double (FP.l2d s5)), (.double (FP.l2d s6)), (.double (0 : UInt64)), (.double (0 : UInt64))] (.double (0 : UInt64)) := V15
  have c15_0 := c13_0.other W15 ne_a1_b1
  have SZ15 := Nat.le_trans SZ13 (Keep.of_wr W15).1
  have K15 := K13.wr W15 (Or.inr sz_b1)
  have N15 := Fr.snoc X15 N13 g_b1
  obtain ⟨cl16, Ar16, -, S16, Nn16, H16, -⟩ := id c15_0
  have hin16 : ¬ ((7 : Int32) < 0 ∨ cl16.slots.size ≤ ((7 : Int32)).toNatClampNeg) := inb_of S16 ⟨by decide, by decide⟩
  have hat16 : cl16.slots[((7 : Int32)).toNatClampNeg]? = some (.long s7) := H16.at hin16 rfl
  obtain ⟨cl17, Ar17, q17, S17, Nn17, H17, G17⟩ := id V15
  have hin17 : ¬ ((7 : Int32) < 0 ∨ cl17.slots.size ≤ ((7 : Int32)).toNatClampNeg) := inb_of S17 ⟨by decide, by decide⟩
  obtain ⟨T17, h17, X17, e17, W17, st17⟩ := stD X15 hx hZ e15 Ar17 (j := (7 : Int32)) hin17 (g := (mkF m 208 #[.val (.int (9 : Int32)), .val (.ref a1)] [(.double (FP.l2d s7)), (.int (7 : Int32)), (.ref b1), (.ref b1)])) rfl rfl (hb hby d_method_3_code_208)
  have V17 := Arv.set Ar17 q17 S17 Nn17 H17 G17 rfl W17 7 rfl (Nat.le_of_ble_eq_true rfl)
  replace V17 : Arv Z h17 b1 k1 .double (9 : Int32) [(.double (FP.l2d s0)), (.double (FP.l2d s1)), (.double (FP.l2d s2)), (.double (FP.l2d s3)), (.double (FP.l2d s4)), (.double (FP.l2d s5)), (.double (FP.l2d s6)), (.double (FP.l2d s7)), (.double (0 : UInt64))] (.double (0 : UInt64)) := V17
  have c17_0 := c15_0.other W17 ne_a1_b1
  have SZ17 := Nat.le_trans SZ15 (Keep.of_wr W17).1
  have K17 := K15.wr W17 (Or.inr sz_b1)
  have N17 := Fr.snoc X17 N15 g_b1
  obtain ⟨cl18, Ar18, -, S18, Nn18, H18, -⟩ := id c17_0
  have hin18 : ¬ ((8 : Int32) < 0 ∨ cl18.slots.size ≤ ((8 : Int32)).toNatClampNeg) := inb_of S18 ⟨by decide, by decide⟩
  have hat18 : cl18.slots[((8 : Int32)).toNatClampNeg]? = some (.long s8) := H18.at hin18 rfl
  obtain ⟨cl19, Ar19, q19, S19, Nn19, H19, G19⟩ := id V17
  have hin19 : ¬ ((8 : Int32) < 0 ∨ cl19.slots.size ≤ ((8 : Int32)).toNatClampNeg) := inb_of S19 ⟨by decide, by decide⟩
  obtain ⟨T19, h19, X19, e19, W19, st19⟩ := stD X17 hx hZ e17 Ar19 (j := (8 : Int32)) hin19 (g := (mkF m 217 #[.val (.int (9 : Int32)), .val (.ref a1)] [(.double (FP.l2d s8)), (.int (8 : Int32)), (.ref b1), (.ref b1)])) rfl rfl (hb hby d_method_3_code_217)
  have V19 := Arv.set Ar19 q19 S19 Nn19 H19 G19 rfl W19 8 rfl (Nat.le_of_ble_eq_true rfl)
  replace V19 : Arv Z h19 b1 k1 .double (9 : Int32) [(.double (FP.l2d s0)), (.double (FP.l2d s1)), (.double (FP.l2d s2)), (.double (FP.l2d s3)), (.double (FP.l2d s4)), (.double (FP.l2d s5)), (.double (FP.l2d s6)), (.double (FP.l2d s7)), (.double (FP.l2d s8))] (.double (0 : UInt64)) := V19
  have c19_0 := c17_0.other W19 ne_a1_b1
  have SZ19 := Nat.le_trans SZ17 (Keep.of_wr W19).1
  have K19 := K17.wr W19 (Or.inr sz_b1)
  have N19 := Fr.snoc X19 N17 g_b1
  obtain ⟨fs, hr, hrun, hended, hW, hsame⟩ := X19.leave (v := some (.ref b1)) (fun h => by rw [Bd.returns] at h; cases h)
  refine ⟨_, _, pre0 _ ?_, hrun, hended, _, _, rfl, ?_, ⟨_, rfl⟩, hW, hsame.mono (by decide) (by decide)⟩
  · show Steps p.tables e below (s₁.setTop (mkF m 0 #[.val (.int (9 : Int32)), .val (.ref a1)] [])) _
    refine XS.iloadN X0.here hx rfl (hb hby d_method_3_code_0) rfl ?_
    refine XS.iconst X0.here hx rfl (hb hby d_method_3_code_1) ?_
    refine XS.icmpYes X0.here hx rfl (pc0 := 2) (pc' := 16) rfl (hb hby d_method_3_code_2) rfl (feq (by decide : ¬ ((9 : Int32) = (1 : Int32)))).2 (by decide) (by decide) ?_
    show Steps p.tables e below (s₁.setTop (mkF m 16 #[.val (.int (9 : Int32)), .val (.ref a1)] [])) _
    refine XS.iloadN X0.here hx rfl (hb hby d_method_3_code_16) rfl ?_
    refine XS.iconst X0.here hx rfl (hb hby d_method_3_code_17) ?_
    refine XS.icmpYes X0.here hx rfl (pc0 := 18) (pc' := 46) rfl (hb hby d_method_3_code_18) rfl (feq (by decide : ¬ ((9 : Int32) = (3 : Int32)))).2 (by decide) (by decide) ?_
    show Steps p.tables e below (s₁.setTop (mkF m 46 #[.val (.int (9 : Int32)), .val (.ref a1)] [])) _
    refine XS.iloadN X0.here hx rfl (hb hby d_method_3_code_46) rfl ?_
    refine XS.iconst X0.here hx rfl (hb hby d_method_3_code_47) ?_
    refine XS.icmpYes X0.here hx rfl (pc0 := 48) (pc' := 83) rfl (hb hby d_method_3_code_48) rfl (feq (by decide : ¬ ((9 : Int32) = (4 : Int32)))).2 (by decide) (by decide) ?_
    show Steps p.tables e below (s₁.setTop (mkF m 83 #[.val (.int (9 : Int32)), .val (.ref a1)] [])) _
    refine XS.iloadN X0.here hx rfl (hb hby d_method_3_code_83) rfl ?_
    refine XS.bipush X0.here hx rfl (hb hby d_method_3_code_84) ?_
    refine XS.icmpYes X0.here hx rfl (pc0 := 86) (pc' := 145) rfl (hb hby d_method_3_code_86) rfl (feq (by decide : ¬ ((9 : Int32) = (7 : Int32)))).2 (by decide) (by decide) ?_
    show Steps p.tables e below (s₁.setTop (mkF m 145 #[.val (.int (9 : Int32)), .val (.ref a1)] [])) _
    refine XS.bipush X0.here hx rfl (hb hby d_method_3_code_145) ?_
    show Steps p.tables e below (s₁.setTop (mkF m 147 #[.val (.int (9 : Int32)), .val (.ref a1)] [(.int (9 : Int32))])) _
    refine st1 _ ?_
    refine XS.dup X1.here hx rfl (hb hby d_method_3_code_149) rfl rfl ?_
    refine XS.iconst X1.here hx rfl (hb hby d_method_3_code_150) ?_
    show Steps p.tables e below (T1.setTop (mkF m 151 #[.val (.int (9 : Int32)), .val (.ref a1)] [(.int (0 : Int32)), (.ref b1), (.ref b1)])) _
    refine XS.aloadN X1.here hx rfl (hb hby d_method_3_code_151) rfl rfl ?_
    refine XS.iconst X1.here hx rfl (hb hby d_method_3_code_152) ?_
    show Steps p.tables e below (T1.setTop (mkF m 153 #[.val (.int (9 : Int32)), .val (.ref a1)] [(.int (0 : Int32)), (.ref a1), (.int (0 : Int32)), (.ref b1), (.ref b1)])) _
    refine X1.laload hx (j := (0 : Int32)) (v := (.long s0)) (by rw [e1]; exact Ar2.1) (State.isArrayOf_alike hZ.alike Ar2.2.1) Ar2.2.2 hin2 hat2 (g := (mkF m 153 #[.val (.int (9 : Int32)), .val (.ref a1)] [(.int (0 : Int32)), (.ref a1), (.int (0 : Int32)), (.ref b1), (.ref b1)])) rfl rfl (hb hby d_method_3_code_153) _ ?_
    refine XS.l2dS X1.here hx rfl (hb hby d_method_3_code_154) rfl (v := (FP.l2d s0)) (rfl) ?_
    show Steps p.tables e below (T1.setTop (mkF m 155 #[.val (.int (9 : Int32)), .val (.ref a1)] [(.double (FP.l2d s0)), (.int (0 : Int32)), (.ref b1), (.ref b1)])) _
    refine st3 _ ?_
    refine XS.dup X3.here hx rfl (hb hby d_method_3_code_156) rfl rfl ?_
    refine XS.iconst X3.here hx rfl (hb hby d_method_3_code_157) ?_
    show Steps p.tables e below (T3.setTop (mkF m 158 #[.val (.int (9 : Int32)), .val (.ref a1)] [(.int (1 : Int32)), (.ref b1), (.ref b1)])) _
    refine XS.aloadN X3.here hx rfl (hb hby d_method_3_code_158) rfl rfl ?_
    refine XS.iconst X3.here hx rfl (hb hby d_method_3_code_159) ?_
    show Steps p.tables e below (T3.setTop (mkF m 160 #[.val (.int (9 : Int32)), .val (.ref a1)] [(.int (1 : Int32)), (.ref a1), (.int (1 : Int32)), (.ref b1), (.ref b1)])) _
    refine X3.laload hx (j := (1 : Int32)) (v := (.long s1)) (by rw [e3]; exact Ar4.1) (State.isArrayOf_alike hZ.alike Ar4.2.1) Ar4.2.2 hin4 hat4 (g := (mkF m 160 #[.val (.int (9 : Int32)), .val (.ref a1)] [(.int (1 : Int32)), (.ref a1), (.int (1 : Int32)), (.ref b1), (.ref b1)])) rfl rfl (hb hby d_method_3_code_160) _ ?_
    refine XS.l2dS X3.here hx rfl (hb hby d_method_3_code_161) rfl (v := (FP.l2d s1)) (rfl) ?_
    show Steps p.tables e below (T3.setTop (mkF m 162 #[.val (.int (9 : Int32)), .val (.ref a1)] [(.double (FP.l2d s1)), (.int (1 : Int32)), (.ref b1), (.ref b1)])) _
    refine st5 _ ?_
    refine XS.dup X5.here hx rfl (hb hby d_method_3_code_163) rfl rfl ?_
    refine XS.iconst X5.here hx rfl (hb hby d_method_3_code_164) ?_
    show Steps p.tables e below (T5.setTop (mkF m 165 #[.val (.int (9 : Int32)), .val (.ref a1)] [(.int (2 : Int32)), (.ref b1), (.ref b1)])) _
    refine XS.aloadN X5.here hx rfl (hb hby d_method_3_code_165) rfl rfl ?_
    refine XS.iconst X5.here hx rfl (hb hby d_method_3_code_166) ?_
    show Steps p.tables e below (T5.setTop (mkF m 167 #[.val (.int (9 : Int32)), .val (.ref a1)] [(.int (2 : Int32)), (.ref a1), (.int (2 : Int32)), (.ref b1), (.ref b1)])) _
    refine X5.laload hx (j := (2 : Int32)) (v := (.long s2)) (by rw [e5]; exact Ar6.1) (State.isArrayOf_alike hZ.alike Ar6.2.1) Ar6.2.2 hin6 hat6 (g := (mkF m 167 #[.val (.int (9 : Int32)), .val (.ref a1)] [(.int (2 : Int32)), (.ref a1), (.int (2 : Int32)), (.ref b1), (.ref b1)])) rfl rfl (hb hby d_method_3_code_167) _ ?_
    refine XS.l2dS X5.here hx rfl (hb hby d_method_3_code_168) rfl (v := (FP.l2d s2)) (rfl) ?_
    show Steps p.tables e below (T5.setTop (mkF m 169 #[.val (.int (9 : Int32)), .val (.ref a1)] [(.double (FP.l2d s2)), (.int (2 : Int32)), (.ref b1), (.ref b1)])) _
    refine st7 _ ?_
    refine XS.dup X7.here hx rfl (hb hby d_method_3_code_170) rfl rfl ?_
    refine XS.iconst X7.here hx rfl (hb hby d_method_3_code_171) ?_
    show Steps p.tables e below (T7.setTop (mkF m 172 #[.val (.int (9 : Int32)), .val (.ref a1)] [(.int (3 : Int32)), (.ref b1), (.ref b1)])) _
    refine XS.aloadN X7.here hx rfl (hb hby d_method_3_code_172) rfl rfl ?_
    refine XS.iconst X7.here hx rfl (hb hby d_method_3_code_173) ?_
    show Steps p.tables e below (T7.setTop (mkF m 174 #[.val (.int (9 : Int32)), .val (.ref a1)] [(.int (3 : Int32)), (.ref a1), (.int (3 : Int32)), (.ref b1), (.ref b1)])) _
    refine X7.laload hx (j := (3 : Int32)) (v := (.long s3)) (by rw [e7]; exact Ar8.1) (State.isArrayOf_alike hZ.alike Ar8.2.1) Ar8.2.2 hin8 hat8 (g := (mkF m 174 #[.val (.int (9 : Int32)), .val (.ref a1)] [(.int (3 : Int32)), (.ref a1), (.int (3 : Int32)), (.ref b1), (.ref b1)])) rfl rfl (hb hby d_method_3_code_174) _ ?_
    refine XS.l2dS X7.here hx rfl (hb hby d_method_3_code_175) rfl (v := (FP.l2d s3)) (rfl) ?_
    show Steps p.tables e below (T7.setTop (mkF m 176 #[.val (.int (9 : Int32)), .val (.ref a1)] [(.double (FP.l2d s3)), (.int (3 : Int32)), (.ref b1), (.ref b1)])) _
    refine st9 _ ?_
    refine XS.dup X9.here hx rfl (hb hby d_method_3_code_177) rfl rfl ?_
    refine XS.iconst X9.here hx rfl (hb hby d_method_3_code_178) ?_
    show Steps p.tables e below (T9.setTop (mkF m 179 #[.val (.int (9 : Int32)), .val (.ref a1)] [(.int (4 : Int32)), (.ref b1), (.ref b1)])) _
    refine XS.aloadN X9.here hx rfl (hb hby d_method_3_code_179) rfl rfl ?_
    refine XS.iconst X9.here hx rfl (hb hby d_method_3_code_180) ?_
    show Steps p.tables e below (T9.setTop (mkF m 181 #[.val (.int (9 : Int32)), .val (.ref a1)] [(.int (4 : Int32)), (.ref a1), (.int (4 : Int32)), (.ref b1), (.ref b1)])) _
    refine X9.laload hx (j := (4 : Int32)) (v := (.long s4)) (by rw [e9]; exact Ar10.1) (State.isArrayOf_alike hZ.alike Ar10.2.1) Ar10.2.2 hin10 hat10 (g := (mkF m 181 #[.val (.int (9 : Int32)), .val (.ref a1)] [(.int (4 : Int32)), (.ref a1), (.int (4 : Int32)), (.ref b1), (.ref b1)])) rfl rfl (hb hby d_method_3_code_181) _ ?_
    refine XS.l2dS X9.here hx rfl (hb hby d_method_3_code_182) rfl (v := (FP.l2d s4)) (rfl) ?_
    show Steps p.tables e below (T9.setTop (mkF m 183 #[.val (.int (9 : Int32)), .val (.ref a1)] [(.double (FP.l2d s4)), (.int (4 : Int32)), (.ref b1), (.ref b1)])) _
    refine st11 _ ?_
    refine XS.dup X11.here hx rfl (hb hby d_method_3_code_184) rfl rfl ?_
    refine XS.iconst X11.here hx rfl (hb hby d_method_3_code_185) ?_
    show Steps p.tables e below (T11.setTop (mkF m 186 #[.val (.int (9 : Int32)), .val (.ref a1)] [(.int (5 : Int32)), (.ref b1), (.ref b1)])) _
    refine XS.aloadN X11.here hx rfl (hb hby d_method_3_code_186) rfl rfl ?_
    refine XS.iconst X11.here hx rfl (hb hby d_method_3_code_187) ?_
    show Steps p.tables e below (T11.setTop (mkF m 188 #[.val (.int (9 : Int32)), .val (.ref a1)] [(.int (5 : Int32)), (.ref a1), (.int (5 : Int32)), (.ref b1), (.ref b1)])) _
    refine X11.laload hx (j := (5 : Int32)) (v := (.long s5)) (by rw [e11]; exact Ar12.1) (State.isArrayOf_alike hZ.alike Ar12.2.1) Ar12.2.2 hin12 hat12 (g := (mkF m 188 #[.val (.int (9 : Int32)), .val (.ref a1)] [(.int (5 : Int32)), (.ref a1), (.int (5 : Int32)), (.ref b1), (.ref b1)])) rfl rfl (hb hby d_method_3_code_188) _ ?_
    refine XS.l2dS X11.here hx rfl (hb hby d_method_3_code_189) rfl (v := (FP.l2d s5)) (rfl) ?_
    show Steps p.tables e below (T11.setTop (mkF m 190 #[.val (.int (9 : Int32)), .val (.ref a1)] [(.double (FP.l2d s5)), (.int (5 : Int32)), (.ref b1), (.ref b1)])) _
    refine st13 _ ?_
    refine XS.dup X13.here hx rfl (hb hby d_method_3_code_191) rfl rfl ?_
    refine XS.bipush X13.here hx rfl (hb hby d_method_3_code_192) ?_
    show Steps p.tables e below (T13.setTop (mkF m 194 #[.val (.int (9 : Int32)), .val (.ref a1)] [(.int (6 : Int32)), (.ref b1), (.ref b1)])) _
    refine XS.aloadN X13.here hx rfl (hb hby d_method_3_code_194) rfl rfl ?_
    refine XS.bipush X13.here hx rfl (hb hby d_method_3_code_195) ?_
    show Steps p.tables e below (T13.setTop (mkF m 197 #[.val (.int (9 : Int32)), .val (.ref a1)] [(.int (6 : Int32)), (.ref a1), (.int (6 : Int32)), (.ref b1), (.ref b1)])) _
    refine X13.laload hx (j := (6 : Int32)) (v := (.long s6)) (by rw [e13]; exact Ar14.1) (State.isArrayOf_alike hZ.alike Ar14.2.1) Ar14.2.2 hin14 hat14 (g := (mkF m 197 #[.val (.int (9 : Int32)), .val (.ref a1)] [(.int (6 : Int32)), (.ref a1), (.int (6 : Int32)), (.ref b1), (.ref b1)])) rfl rfl (hb hby d_method_3_code_197) _ ?_
    refine XS.l2dS X13.here hx rfl (hb hby d_method_3_code_198) rfl (v := (FP.l2d s6)) (rfl) ?_
    show Steps p.tables e below (T13.setTop (mkF m 199 #[.val (.int (9 : Int32)), .val (.ref a1)] [(.double (FP.l2d s6)), (.int (6 : Int32)), (.ref b1), (.ref b1)])) _
    refine st15 _ ?_
    refine XS.dup X15.here hx rfl (hb hby d_method_3_code_200) rfl rfl ?_
    refine XS.bipush X15.here hx rfl (hb hby d_method_3_code_201) ?_
    show Steps p.tables e below (T15.setTop (mkF m 203 #[.val (.int (9 : Int32)), .val (.ref a1)] [(.int (7 : Int32)), (.ref b1), (.ref b1)])) _
    refine XS.aloadN X15.here hx rfl (hb hby d_method_3_code_203) rfl rfl ?_
    refine XS.bipush X15.here hx rfl (hb hby d_method_3_code_204) ?_
    show Steps p.tables e below (T15.setTop (mkF m 206 #[.val (.int (9 : Int32)), .val (.ref a1)] [(.int (7 : Int32)), (.ref a1), (.int (7 : Int32)), (.ref b1), (.ref b1)])) _
    refine X15.laload hx (j := (7 : Int32)) (v := (.long s7)) (by rw [e15]; exact Ar16.1) (State.isArrayOf_alike hZ.alike Ar16.2.1) Ar16.2.2 hin16 hat16 (g := (mkF m 206 #[.val (.int (9 : Int32)), .val (.ref a1)] [(.int (7 : Int32)), (.ref a1), (.int (7 : Int32)), (.ref b1), (.ref b1)])) rfl rfl (hb hby d_method_3_code_206) _ ?_
    refine XS.l2dS X15.here hx rfl (hb hby d_method_3_code_207) rfl (v := (FP.l2d s7)) (rfl) ?_
    show Steps p.tables e below (T15.setTop (mkF m 208 #[.val (.int (9 : Int32)), .val (.ref a1)] [(.double (FP.l2d s7)), (.int (7 : Int32)), (.ref b1), (.ref b1)])) _
    refine st17 _ ?_
    refine XS.dup X17.here hx rfl (hb hby d_method_3_code_209) rfl rfl ?_
    refine XS.bipush X17.here hx rfl (hb hby d_method_3_code_210) ?_
    show Steps p.tables e below (T17.setTop (mkF m 212 #[.val (.int (9 : Int32)), .val (.ref a1)] [(.int (8 : Int32)), (.ref b1), (.ref b1)])) _
    refine XS.aloadN X17.here hx rfl (hb hby d_method_3_code_212) rfl rfl ?_
    refine XS.bipush X17.here hx rfl (hb hby d_method_3_code_213) ?_
    show Steps p.tables e below (T17.setTop (mkF m 215 #[.val (.int (9 : Int32)), .val (.ref a1)] [(.int (8 : Int32)), (.ref a1), (.int (8 : Int32)), (.ref b1), (.ref b1)])) _
    refine X17.laload hx (j := (8 : Int32)) (v := (.long s8)) (by rw [e17]; exact Ar18.1) (State.isArrayOf_alike hZ.alike Ar18.2.1) Ar18.2.2 hin18 hat18 (g := (mkF m 215 #[.val (.int (9 : Int32)), .val (.ref a1)] [(.int (8 : Int32)), (.ref a1), (.int (8 : Int32)), (.ref b1), (.ref b1)])) rfl rfl (hb hby d_method_3_code_215) _ ?_
    refine XS.l2dS X17.here hx rfl (hb hby d_method_3_code_216) rfl (v := (FP.l2d s8)) (rfl) ?_
    show Steps p.tables e below (T17.setTop (mkF m 217 #[.val (.int (9 : Int32)), .val (.ref a1)] [(.double (FP.l2d s8)), (.int (8 : Int32)), (.ref b1), (.ref b1)])) _
    refine st19 _ ?_
    show Steps p.tables e below (T19.setTop (mkF m 218 #[.val (.int (9 : Int32)), .val (.ref a1)] [(.ref b1)])) _
    exact retOut X19 hx (t := (.array .double)) Bd.returns rfl (Or.inr (Or.inr (Or.inr (Or.inr ⟨rfl, rfl, rfl⟩)))) (hb hby d_method_3_code_218) hr
  · show QN Z (9 : Int32) [(.double (FP.l2d s0)), (.double (FP.l2d s1)), (.double (FP.l2d s2)), (.double (FP.l2d s3)), (.double (FP.l2d s4)), (.double (FP.l2d s5)), (.double (FP.l2d s6)), (.double (FP.l2d s7)), (.double (FP.l2d s8))] h0 n0 _ T19.heap _
    rw [e19]
    exact ⟨b1, _, rfl, N19, g_b1, sz_b1, K19, V19⟩
def QD (r : UInt64) (h0 : Heap) (n0 : Nat) (v : Option Value) (h : Heap) (L : List Loc) : Prop := (v = some (.double r) ∧ Fr n0 L ∧ h = h0)
theorem d_prog_53_method_6_code_0 : decode prog_53_method_6_code 0 = .ok (.aload_n 0, 1) := by decide +kernel
theorem d_prog_53_method_6_code_1 : decode prog_53_method_6_code 1 = .ok (.arraylength, 1) := by decide +kernel
theorem d_prog_53_method_6_code_2 : decode prog_53_method_6_code 2 = .ok (.istore_n 3, 1) := by decide +kernel
theorem d_prog_53_method_6_code_3 : decode prog_53_method_6_code 3 = .ok (.iload_n 3, 1) := by decide +kernel
theorem d_prog_53_method_6_code_4 : decode prog_53_method_6_code 4 = .ok (.iconst 1, 1) := by decide +kernel
theorem d_prog_53_method_6_code_5 : decode prog_53_method_6_code 5 = .ok (.iadd, 1) := by decide +kernel
theorem d_prog_53_method_6_code_6 : decode prog_53_method_6_code 6 = .ok (.i2d, 1) := by decide +kernel
theorem d_prog_53_method_6_code_7 : decode prog_53_method_6_code 7 = .ok (.dload_n 1, 1) := by decide +kernel
theorem d_prog_53_method_6_code_8 : decode prog_53_method_6_code 8 = .ok (.dmul, 1) := by decide +kernel
theorem d_prog_53_method_6_code_9 : decode prog_53_method_6_code 9 = .ok (.ldc2_w 298, 3) := by decide +kernel
theorem d_prog_53_method_6_code_12 : decode prog_53_method_6_code 12 = .ok (.ddiv, 1) := by decide +kernel
theorem d_prog_53_method_6_code_13 : decode prog_53_method_6_code 13 = .ok (.dstore 4, 2) := by decide +kernel
theorem d_prog_53_method_6_code_15 : decode prog_53_method_6_code 15 = .ok (.dload 4, 2) := by decide +kernel
theorem d_prog_53_method_6_code_17 : decode prog_53_method_6_code 17 = .ok (.dconst 1, 1) := by decide +kernel
theorem d_prog_53_method_6_code_18 : decode prog_53_method_6_code 18 = .ok (.dcmp .g, 1) := by decide +kernel
theorem d_prog_53_method_6_code_19 : decode prog_53_method_6_code 19 = .ok (.ifCond .ge 11, 3) := by decide +kernel
theorem d_prog_53_method_6_code_22 : decode prog_53_method_6_code 22 = .ok (.aload_n 0, 1) := by decide +kernel
theorem d_prog_53_method_6_code_23 : decode prog_53_method_6_code 23 = .ok (.iconst 0, 1) := by decide +kernel
theorem d_prog_53_method_6_code_24 : decode prog_53_method_6_code 24 = .ok (.daload, 1) := by decide +kernel
theorem d_prog_53_method_6_code_25 : decode prog_53_method_6_code 25 = .ok (.dstore 6, 2) := by decide +kernel
theorem d_prog_53_method_6_code_27 : decode prog_53_method_6_code 27 = .ok (.goto 57, 3) := by decide +kernel
theorem d_prog_53_method_6_code_84 : decode prog_53_method_6_code 84 = .ok (.dload 6, 2) := by decide +kernel
theorem d_prog_53_method_6_code_86 : decode prog_53_method_6_code 86 = .ok (.dreturn, 1) := by decide +kernel
theorem pn_com_example_bytegauge_bytegauge_stats_JsonTable : plainName "com/example/bytegauge/bytegauge/stats/JsonTable" = true := by first | (simp [plainName, overriddenIn]; done) | decide +kernel
theorem ef_prog_53_method_6_code (m : MethodId) (x0 : Addr) (x1 : UInt64) : entryFrame m #[(.ref x0), (.double x1)] 11 = mkF m 0 #[.val (.ref x0), .val (.double x1), .second, .unset, .unset, .unset, .unset, .unset, .unset, .unset, .unset] [] := by first | (simp [entryFrame, mkF, argsToLocals, Value.category]; done) | rfl
set_option maxRecDepth 65536 in
set_option maxHeartbeats 40000000 in
theorem rmPa1 (l : Launch) (Z : State) (a0 : Array Value) (hw : ∀ d ∈ tables_1, d.before a0 Z = true) (ws : List Jvm.Cond) (a1 : Addr) (kA : ClassId) (s0 s1 s2 s3 s4 s5 s6 s7 s8 : Int64) (pp ps : UInt64) (h0 : Heap) (n0 : Nat) (Z0 : n0 ≤ h0.size) (V_a1 : Arv Z h0 a1 kA .double (1 : Int32) [(.double (FP.l2d s0))] (.double (0 : UInt64))) (hn8 : Jvm.Free.Fl.NoNaN64 (FP.dmul (FP.i2d ((1 : Int32) + (1 : Int32))) pp)) (hn12 : Jvm.Free.Fl.NoNaN64 (FP.ddiv (FP.dmul (FP.i2d ((1 : Int32) + (1 : Int32))) pp) (4636737291354636288 : UInt64))) (hv12 : FP.ddiv (FP.dmul (FP.i2d ((1 : Int32) + (1 : Int32))) pp) (4636737291354636288 : UInt64) = ps) (vA : Int32) (hvA : cmpValue (FP.dcmp ps (4607182418800017408 : UInt64)) .g = vA) (hcA : vA < (0 : Int32))  :
    MetFree l (⟨"com/example/bytegauge/bytegauge/stats/JsonTable", "percentile", "([DD)D"⟩ : MethodName) (head1 (Jvm.Cond.code (⟨"com/example/bytegauge/bytegauge/stats/JsonTable", "percentile", "([DD)D"⟩ : MethodName) prog_53_method_6_code 11 (some .double) :: ws) ({ frames := 0, cells := 0, slots := 0, locals := 0 } : Room)) (fun a U => a = #[(.ref a1), (.double pp)] ∧ Z.Warmed39 U.vm ∧ U.heap = h0) (fun _ _ _ _ _ => True) (fun _ U o U' => ∃ v L, o = .returned v ∧ QD (FP.l2d s0) h0 n0 v U'.heap L ∧ FrameEnd U o U' L ({ frames := 0, cells := 0, slots := 0, locals := 0 } : Room).cells ({ frames := 0, cells := 0, slots := 0, locals := 0 } : Room).slots) := by
  refine MetFree.of_bodySF (plainFor_of_name pn_com_example_bytegauge_bytegauge_stats_JsonTable) hisR ?_
  intro p e s m args below meth c s₁ Bd hml0 hP hK
  obtain ⟨rfl, hZ, hh⟩ := hP
  have hx := Bd.exec
  have hby := Bd.bytes
  have hml : c.maxLocals = 11 := hml0
  have hown : s.vm.findClass "com/example/bytegauge/bytegauge/stats/JsonTable" = some m.cls := findClass_of_methodNamed Bd.named
  have hnm := (name_of_methodNamed Bd.named Bd.method).1
  have X0 : Stand p l e ({ frames := 0, cells := 0, slots := 0, locals := 0 } : Room) s m #[(.ref a1), (.double pp)] below meth c s₁ [] 0 0 := Stand.of_body Bd
  have e0 : s₁.heap = h0 := by rw [← hh, Bd.state]; rfl
  have N0 := Fr.nil n0
  have pre0 : ∀ t, Steps p.tables e below (s₁.setTop (mkF m 0 #[.val (.ref a1), .val (.double pp), .second, .unset, .unset, .unset, .unset, .unset, .unset, .unset, .unset] [])) t → Steps p.tables e below (s₁.setTop (entryFrame m #[(.ref a1), (.double pp)] 11)) t := fun t k => castTop (ef_prog_53_method_6_code m a1 pp) k
  obtain ⟨cl1, Ar1, -, S1, Nn1, -, -⟩ := id V_a1
  obtain ⟨cl2, Ar2, -, S2, Nn2, H2, -⟩ := id V_a1
  have hin2 : ¬ ((0 : Int32) < 0 ∨ cl2.slots.size ≤ ((0 : Int32)).toNatClampNeg) := inb_of S2 ⟨by decide, by decide⟩
  have hat2 : cl2.slots[((0 : Int32)).toNatClampNeg]? = some (.double (FP.l2d s0)) := H2.at hin2 rfl
  obtain ⟨fs, hr, hrun, hended, hW, hsame⟩ := X0.leave (v := some (.double (FP.l2d s0))) (fun h => by rw [Bd.returns] at h; cases h)
  refine ⟨_, _, pre0 _ ?_, hrun, hended, _, _, rfl, ?_, ⟨_, rfl⟩, hW, hsame.mono (by decide) (by decide)⟩
  · show Steps p.tables e below (s₁.setTop (mkF m 0 #[.val (.ref a1), .val (.double pp), .second, .unset, .unset, .unset, .unset, .unset, .unset, .unset, .unset] [])) _
    refine XS.aloadN X0.here hx rfl (hb hby d_prog_53_method_6_code_0) rfl rfl ?_
    show Steps p.tables e below (s₁.setTop (mkF m 1 #[.val (.ref a1), .val (.double pp), .second, .unset, .unset, .unset, .unset, .unset, .unset, .unset, .unset] [(.ref a1)])) _
    refine X0.arraylength hx (by rw [e0]; exact Ar1.1) (State.isArrayOf_alike hZ.alike Ar1.2.1) (g := (mkF m 1 #[.val (.ref a1), .val (.double pp), .second, .unset, .unset, .unset, .unset, .unset, .unset, .unset, .unset] [(.ref a1)])) rfl rfl (hb hby d_prog_53_method_6_code_1) _ ?_
    rw [len_of S1 Nn1]
    refine XS.istoreN X0.here hx rfl (hb hby d_prog_53_method_6_code_2) rfl (l' := #[.val (.ref a1), .val (.double pp), .second, .val (.int (1 : Int32)), .unset, .unset, .unset, .unset, .unset, .unset, .unset]) rfl ?_
    refine XS.iloadN X0.here hx rfl (hb hby d_prog_53_method_6_code_3) rfl ?_
    show Steps p.tables e below (s₁.setTop (mkF m 4 #[.val (.ref a1), .val (.double pp), .second, .val (.int (1 : Int32)), .unset, .unset, .unset, .unset, .unset, .unset, .unset] [(.int (1 : Int32))])) _
    refine XS.iconst X0.here hx rfl (hb hby d_prog_53_method_6_code_4) ?_
    refine XS.iadd X0.here hx rfl (hb hby d_prog_53_method_6_code_5) rfl ?_
    refine XS.i2dS X0.here hx rfl (hb hby d_prog_53_method_6_code_6) rfl (v := (FP.i2d ((1 : Int32) + (1 : Int32)))) (rfl) ?_
    show Steps p.tables e below (s₁.setTop (mkF m 7 #[.val (.ref a1), .val (.double pp), .second, .val (.int (1 : Int32)), .unset, .unset, .unset, .unset, .unset, .unset, .unset] [(.double (FP.i2d ((1 : Int32) + (1 : Int32))))])) _
    refine XS.dloadN X0.here hx rfl (hb hby d_prog_53_method_6_code_7) rfl ?_
    refine XS.dmulS X0.here hx rfl (hb hby d_prog_53_method_6_code_8) rfl hn8 (v := (FP.dmul (FP.i2d ((1 : Int32) + (1 : Int32))) pp)) (rfl) ?_
    show Steps p.tables e below (s₁.setTop (mkF m 9 #[.val (.ref a1), .val (.double pp), .second, .val (.int (1 : Int32)), .unset, .unset, .unset, .unset, .unset, .unset, .unset] [(.double (FP.dmul (FP.i2d ((1 : Int32) + (1 : Int32))) pp))])) _
    refine X0.ldc2DoubleC hx hown (mvT hZ (hw _ (List.mem_of_getElem? (i := 13) rfl))) (g := (mkF m 9 #[.val (.ref a1), .val (.double pp), .second, .val (.int (1 : Int32)), .unset, .unset, .unset, .unset, .unset, .unset, .unset] [(.double (FP.dmul (FP.i2d ((1 : Int32) + (1 : Int32))) pp))])) rfl (hb hby d_prog_53_method_6_code_9) _ ?_
    refine XS.ddivS X0.here hx rfl (hb hby d_prog_53_method_6_code_12) rfl hn12 (v := ps) (hv12) ?_
    refine XS.dstore X0.here hx rfl (hb hby d_prog_53_method_6_code_13) rfl (l' := #[.val (.ref a1), .val (.double pp), .second, .val (.int (1 : Int32)), .val (.double ps), .second, .unset, .unset, .unset, .unset, .unset]) rfl ?_
    show Steps p.tables e below (s₁.setTop (mkF m 15 #[.val (.ref a1), .val (.double pp), .second, .val (.int (1 : Int32)), .val (.double ps), .second, .unset, .unset, .unset, .unset, .unset] [])) _
    refine XS.dload X0.here hx rfl (hb hby d_prog_53_method_6_code_15) rfl ?_
    refine XS.dconst1 X0.here hx rfl (hb hby d_prog_53_method_6_code_17) (v := (4607182418800017408 : UInt64)) rfl ?_
    refine XS.dcmpS X0.here hx rfl (hb hby d_prog_53_method_6_code_18) rfl (v := vA) (hvA) ?_
    show Steps p.tables e below (s₁.setTop (mkF m 19 #[.val (.ref a1), .val (.double pp), .second, .val (.int (1 : Int32)), .val (.double ps), .second, .unset, .unset, .unset, .unset, .unset] [(.int vA)])) _
    refine XS.ifNo X0.here hx rfl (hb hby d_prog_53_method_6_code_19) rfl ((if0 _ _).trans (tlt (hcA : vA < (0 : Int32))).2.1) ?_
    refine XS.aloadN X0.here hx rfl (hb hby d_prog_53_method_6_code_22) rfl rfl ?_
    refine XS.iconst X0.here hx rfl (hb hby d_prog_53_method_6_code_23) ?_
    show Steps p.tables e below (s₁.setTop (mkF m 24 #[.val (.ref a1), .val (.double pp), .second, .val (.int (1 : Int32)), .val (.double ps), .second, .unset, .unset, .unset, .unset, .unset] [(.int (0 : Int32)), (.ref a1)])) _
    refine X0.daload hx (j := (0 : Int32)) (v := (.double (FP.l2d s0))) (by rw [e0]; exact Ar2.1) (State.isArrayOf_alike hZ.alike Ar2.2.1) Ar2.2.2 hin2 hat2 (g := (mkF m 24 #[.val (.ref a1), .val (.double pp), .second, .val (.int (1 : Int32)), .val (.double ps), .second, .unset, .unset, .unset, .unset, .unset] [(.int (0 : Int32)), (.ref a1)])) rfl rfl (hb hby d_prog_53_method_6_code_24) _ ?_
    refine XS.dstore X0.here hx rfl (hb hby d_prog_53_method_6_code_25) rfl (l' := #[.val (.ref a1), .val (.double pp), .second, .val (.int (1 : Int32)), .val (.double ps), .second, .val (.double (FP.l2d s0)), .second, .unset, .unset, .unset]) rfl ?_
    refine XS.goto X0.here hx rfl (pc0 := 27) (pc' := 84) rfl (hb hby d_prog_53_method_6_code_27) (by decide) (by decide) ?_
    show Steps p.tables e below (s₁.setTop (mkF m 84 #[.val (.ref a1), .val (.double pp), .second, .val (.int (1 : Int32)), .val (.double ps), .second, .val (.double (FP.l2d s0)), .second, .unset, .unset, .unset] [])) _
    refine XS.dload X0.here hx rfl (hb hby d_prog_53_method_6_code_84) rfl ?_
    show Steps p.tables e below (s₁.setTop (mkF m 86 #[.val (.ref a1), .val (.double pp), .second, .val (.int (1 : Int32)), .val (.double ps), .second, .val (.double (FP.l2d s0)), .second, .unset, .unset, .unset] [(.double (FP.l2d s0))])) _
    exact retOut X0 hx (t := .double) Bd.returns rfl (Or.inr (Or.inr (Or.inl ⟨rfl, rfl, _, rfl⟩))) (hb hby d_prog_53_method_6_code_86) hr
  · show QD (FP.l2d s0) h0 n0 _ s₁.heap _
    rw [e0]
    exact ⟨rfl, N0, rfl⟩
theorem d_prog_53_method_6_code_30 : decode prog_53_method_6_code 30 = .ok (.dload 4, 2) := by decide +kernel
theorem d_prog_53_method_6_code_32 : decode prog_53_method_6_code 32 = .ok (.iload_n 3, 1) := by decide +kernel
theorem d_prog_53_method_6_code_33 : decode prog_53_method_6_code 33 = .ok (.i2d, 1) := by decide +kernel
theorem d_prog_53_method_6_code_34 : decode prog_53_method_6_code 34 = .ok (.dcmp .l, 1) := by decide +kernel
theorem d_prog_53_method_6_code_35 : decode prog_53_method_6_code 35 = .ok (.ifCond .lt 13, 3) := by decide +kernel
theorem d_prog_53_method_6_code_38 : decode prog_53_method_6_code 38 = .ok (.aload_n 0, 1) := by decide +kernel
theorem d_prog_53_method_6_code_39 : decode prog_53_method_6_code 39 = .ok (.iload_n 3, 1) := by decide +kernel
theorem d_prog_53_method_6_code_40 : decode prog_53_method_6_code 40 = .ok (.iconst 1, 1) := by decide +kernel
theorem d_prog_53_method_6_code_41 : decode prog_53_method_6_code 41 = .ok (.isub, 1) := by decide +kernel
theorem d_prog_53_method_6_code_42 : decode prog_53_method_6_code 42 = .ok (.daload, 1) := by decide +kernel
theorem d_prog_53_method_6_code_43 : decode prog_53_method_6_code 43 = .ok (.dstore 6, 2) := by decide +kernel
theorem d_prog_53_method_6_code_45 : decode prog_53_method_6_code 45 = .ok (.goto 39, 3) := by decide +kernel
set_option maxRecDepth 65536 in
set_option maxHeartbeats 40000000 in
theorem rmPb1 (l : Launch) (Z : State) (a0 : Array Value) (hw : ∀ d ∈ tables_1, d.before a0 Z = true) (ws : List Jvm.Cond) (a1 : Addr) (kA : ClassId) (s0 s1 s2 s3 s4 s5 s6 s7 s8 : Int64) (pp ps : UInt64) (h0 : Heap) (n0 : Nat) (Z0 : n0 ≤ h0.size) (V_a1 : Arv Z h0 a1 kA .double (1 : Int32) [(.double (FP.l2d s0))] (.double (0 : UInt64))) (hn8 : Jvm.Free.Fl.NoNaN64 (FP.dmul (FP.i2d ((1 : Int32) + (1 : Int32))) pp)) (hn12 : Jvm.Free.Fl.NoNaN64 (FP.ddiv (FP.dmul (FP.i2d ((1 : Int32) + (1 : Int32))) pp) (4636737291354636288 : UInt64))) (hv12 : FP.ddiv (FP.dmul (FP.i2d ((1 : Int32) + (1 : Int32))) pp) (4636737291354636288 : UInt64) = ps) (vA : Int32) (hvA : cmpValue (FP.dcmp ps (4607182418800017408 : UInt64)) .g = vA) (vB : Int32) (hvB : cmpValue (FP.dcmp ps (FP.i2d (1 : Int32))) .l = vB) (hcA : ¬ vA < (0 : Int32)) (hcB : ¬ vB < (0 : Int32))  :
    MetFree l (⟨"com/example/bytegauge/bytegauge/stats/JsonTable", "percentile", "([DD)D"⟩ : MethodName) (head1 (Jvm.Cond.code (⟨"com/example/bytegauge/bytegauge/stats/JsonTable", "percentile", "([DD)D"⟩ : MethodName) prog_53_method_6_code 11 (some .double) :: ws) ({ frames := 0, cells := 0, slots := 0, locals := 0 } : Room)) (fun a U => a = #[(.ref a1), (.double pp)] ∧ Z.Warmed39 U.vm ∧ U.heap = h0) (fun _ _ _ _ _ => True) (fun _ U o U' => ∃ v L, o = .returned v ∧ QD (FP.l2d s0) h0 n0 v U'.heap L ∧ FrameEnd U o U' L ({ frames := 0, cells := 0, slots := 0, locals := 0 } : Room).cells ({ frames := 0, cells := 0, slots := 0, locals := 0 } : Room).slots) := by
  refine MetFree.of_bodySF (plainFor_of_name pn_com_example_bytegauge_bytegauge_stats_JsonTable) hisR ?_
  intro p e s m args below meth c s₁ Bd hml0 hP hK
  obtain ⟨rfl, hZ, hh⟩ := hP
  have hx := Bd.exec
  have hby := Bd.bytes
  have hml : c.maxLocals = 11 := hml0
  have hown : s.vm.findClass "com/example/bytegauge/bytegauge/stats/JsonTable" = some m.cls := findClass_of_methodNamed Bd.named
  have hnm := (name_of_methodNamed Bd.named Bd.method).1
  have X0 : Stand p l e ({ frames := 0, cells := 0, slots := 0, locals := 0 } : Room) s m #[(.ref a1), (.double pp)] below meth c s₁ [] 0 0 := Stand.of_body Bd
  have e0 : s₁.heap = h0 := by rw [← hh, Bd.state]; rfl
  have N0 := Fr.nil n0
  have pre0 : ∀ t, Steps p.tables e below (s₁.setTop (mkF m 0 #[.val (.ref a1), .val (.double pp), .second, .unset, .unset, .unset, .unset, .unset, .unset, .unset, .unset] [])) t → Steps p.tables e below (s₁.setTop (entryFrame m #[(.ref a1), (.double pp)] 11)) t := fun t k => castTop (ef_prog_53_method_6_code m a1 pp) k
  obtain ⟨cl1, Ar1, -, S1, Nn1, -, -⟩ := id V_a1
  obtain ⟨cl2, Ar2, -, S2, Nn2, H2, -⟩ := id V_a1
  have hin2 : ¬ ((0 : Int32) < 0 ∨ cl2.slots.size ≤ ((0 : Int32)).toNatClampNeg) := inb_of S2 ⟨by decide, by decide⟩
  have hat2 : cl2.slots[((0 : Int32)).toNatClampNeg]? = some (.double (FP.l2d s0)) := H2.at hin2 rfl
  obtain ⟨fs, hr, hrun, hended, hW, hsame⟩ := X0.leave (v := some (.double (FP.l2d s0))) (fun h => by rw [Bd.returns] at h; cases h)
  refine ⟨_, _, pre0 _ ?_, hrun, hended, _, _, rfl, ?_, ⟨_, rfl⟩, hW, hsame.mono (by decide) (by decide)⟩
  · show Steps p.tables e below (s₁.setTop (mkF m 0 #[.val (.ref a1), .val (.double pp), .second, .unset, .unset, .unset, .unset, .unset, .unset, .unset, .unset] [])) _
    refine XS.aloadN X0.here hx rfl (hb hby d_prog_53_method_6_code_0) rfl rfl ?_
    show Steps p.tables e below (s₁.setTop (mkF m 1 #[.val (.ref a1), .val (.double pp), .second, .unset, .unset, .unset, .unset, .unset, .unset, .unset, .unset] [(.ref a1)])) _
    refine X0.arraylength hx (by rw [e0]; exact Ar1.1) (State.isArrayOf_alike hZ.alike Ar1.2.1) (g := (mkF m 1 #[.val (.ref a1), .val (.double pp), .second, .unset, .unset, .unset, .unset, .unset, .unset, .unset, .unset] [(.ref a1)])) rfl rfl (hb hby d_prog_53_method_6_code_1) _ ?_
    rw [len_of S1 Nn1]
    refine XS.istoreN X0.here hx rfl (hb hby d_prog_53_method_6_code_2) rfl (l' := #[.val (.ref a1), .val (.double pp), .second, .val (.int (1 : Int32)), .unset, .unset, .unset, .unset, .unset, .unset, .unset]) rfl ?_
    refine XS.iloadN X0.here hx rfl (hb hby d_prog_53_method_6_code_3) rfl ?_
    show Steps p.tables e below (s₁.setTop (mkF m 4 #[.val (.ref a1), .val (.double pp), .second, .val (.int (1 : Int32)), .unset, .unset, .unset, .unset, .unset, .unset, .unset] [(.int (1 : Int32))])) _
    refine XS.iconst X0.here hx rfl (hb hby d_prog_53_method_6_code_4) ?_
    refine XS.iadd X0.here hx rfl (hb hby d_prog_53_method_6_code_5) rfl ?_
    refine XS.i2dS X0.here hx rfl (hb hby d_prog_53_method_6_code_6) rfl (v := (FP.i2d ((1 : Int32) + (1 : Int32)))) (rfl) ?_
    show Steps p.tables e below (s₁.setTop (mkF m 7 #[.val (.ref a1), .val (.double pp), .second, .val (.int (1 : Int32)), .unset, .unset, .unset, .unset, .unset, .unset, .unset] [(.double (FP.i2d ((1 : Int32) + (1 : Int32))))])) _
    refine XS.dloadN X0.here hx rfl (hb hby d_prog_53_method_6_code_7) rfl ?_
    refine XS.dmulS X0.here hx rfl (hb hby d_prog_53_method_6_code_8) rfl hn8 (v := (FP.dmul (FP.i2d ((1 : Int32) + (1 : Int32))) pp)) (rfl) ?_
    show Steps p.tables e below (s₁.setTop (mkF m 9 #[.val (.ref a1), .val (.double pp), .second, .val (.int (1 : Int32)), .unset, .unset, .unset, .unset, .unset, .unset, .unset] [(.double (FP.dmul (FP.i2d ((1 : Int32) + (1 : Int32))) pp))])) _
    refine X0.ldc2DoubleC hx hown (mvT hZ (hw _ (List.mem_of_getElem? (i := 13) rfl))) (g := (mkF m 9 #[.val (.ref a1), .val (.double pp), .second, .val (.int (1 : Int32)), .unset, .unset, .unset, .unset, .unset, .unset, .unset] [(.double (FP.dmul (FP.i2d ((1 : Int32) + (1 : Int32))) pp))])) rfl (hb hby d_prog_53_method_6_code_9) _ ?_
    refine XS.ddivS X0.here hx rfl (hb hby d_prog_53_method_6_code_12) rfl hn12 (v := ps) (hv12) ?_
    refine XS.dstore X0.here hx rfl (hb hby d_prog_53_method_6_code_13) rfl (l' := #[.val (.ref a1), .val (.double pp), .second, .val (.int (1 : Int32)), .val (.double ps), .second, .unset, .unset, .unset, .unset, .unset]) rfl ?_
    show Steps p.tables e below (s₁.setTop (mkF m 15 #[.val (.ref a1), .val (.double pp), .second, .val (.int (1 : Int32)), .val (.double ps), .second, .unset, .unset, .unset, .unset, .unset] [])) _
    refine XS.dload X0.here hx rfl (hb hby d_prog_53_method_6_code_15) rfl ?_
    refine XS.dconst1 X0.here hx rfl (hb hby d_prog_53_method_6_code_17) (v := (4607182418800017408 : UInt64)) rfl ?_
    refine XS.dcmpS X0.here hx rfl (hb hby d_prog_53_method_6_code_18) rfl (v := vA) (hvA) ?_
    show Steps p.tables e below (s₁.setTop (mkF m 19 #[.val (.ref a1), .val (.double pp), .second, .val (.int (1 : Int32)), .val (.double ps), .second, .unset, .unset, .unset, .unset, .unset] [(.int vA)])) _
    refine XS.ifYes X0.here hx rfl (pc0 := 19) (pc' := 30) rfl (hb hby d_prog_53_method_6_code_19) rfl ((if0 _ _).trans (flt (hcA : ¬ (vA < (0 : Int32)))).2.1) (by decide) (by decide) ?_
    refine XS.dload X0.here hx rfl (hb hby d_prog_53_method_6_code_30) rfl ?_
    refine XS.iloadN X0.here hx rfl (hb hby d_prog_53_method_6_code_32) rfl ?_
    show Steps p.tables e below (s₁.setTop (mkF m 33 #[.val (.ref a1), .val (.double pp), .second, .val (.int (1 : Int32)), .val (.double ps), .second, .unset, .unset, .unset, .unset, .unset] [(.int (1 : Int32)), (.double ps)])) _
    refine XS.i2dS X0.here hx rfl (hb hby d_prog_53_method_6_code_33) rfl (v := (FP.i2d (1 : Int32))) (rfl) ?_
    refine XS.dcmpS X0.here hx rfl (hb hby d_prog_53_method_6_code_34) rfl (v := vB) (hvB) ?_
    refine XS.ifNo X0.here hx rfl (hb hby d_prog_53_method_6_code_35) rfl ((if0 _ _).trans (flt (hcB : ¬ (vB < (0 : Int32)))).1) ?_
    show Steps p.tables e below (s₁.setTop (mkF m 38 #[.val (.ref a1), .val (.double pp), .second, .val (.int (1 : Int32)), .val (.double ps), .second, .unset, .unset, .unset, .unset, .unset] [])) _
    refine XS.aloadN X0.here hx rfl (hb hby d_prog_53_method_6_code_38) rfl rfl ?_
    refine XS.iloadN X0.here hx rfl (hb hby d_prog_53_method_6_code_39) rfl ?_
    refine XS.iconst X0.here hx rfl (hb hby d_prog_53_method_6_code_40) ?_
    show Steps p.tables e below (s₁.setTop (mkF m 41 #[.val (.ref a1), .val (.double pp), .second, .val (.int (1 : Int32)), .val (.double ps), .second, .unset, .unset, .unset, .unset, .unset] [(.int (1 : Int32)), (.int (1 : Int32)), (.ref a1)])) _
    refine XS.isub X0.here hx rfl (hb hby d_prog_53_method_6_code_41) rfl ?_
    show Steps p.tables e below (s₁.setTop (mkF m 42 #[.val (.ref a1), .val (.double pp), .second, .val (.int (1 : Int32)), .val (.double ps), .second, .unset, .unset, .unset, .unset, .unset] [(.int ((1 : Int32) - (1 : Int32))), (.ref a1)])) _
    rw [show ((1 : Int32) - (1 : Int32)) = (0 : Int32) from (by decide)]
    show Steps p.tables e below (s₁.setTop (mkF m 42 #[.val (.ref a1), .val (.double pp), .second, .val (.int (1 : Int32)), .val (.double ps), .second, .unset, .unset, .unset, .unset, .unset] [(.int (0 : Int32)), (.ref a1)])) _
    refine X0.daload hx (j := (0 : Int32)) (v := (.double (FP.l2d s0))) (by rw [e0]; exact Ar2.1) (State.isArrayOf_alike hZ.alike Ar2.2.1) Ar2.2.2 hin2 hat2 (g := (mkF m 42 #[.val (.ref a1), .val (.double pp), .second, .val (.int (1 : Int32)), .val (.double ps), .second, .unset, .unset, .unset, .unset, .unset] [(.int (0 : Int32)), (.ref a1)])) rfl rfl (hb hby d_prog_53_method_6_code_42) _ ?_
    refine XS.dstore X0.here hx rfl (hb hby d_prog_53_method_6_code_43) rfl (l' := #[.val (.ref a1), .val (.double pp), .second, .val (.int (1 : Int32)), .val (.double ps), .second, .val (.double (FP.l2d s0)), .second, .unset, .unset, .unset]) rfl ?_
    refine XS.goto X0.here hx rfl (pc0 := 45) (pc' := 84) rfl (hb hby d_prog_53_method_6_code_45) (by decide) (by decide) ?_
    show Steps p.tables e below (s₁.setTop (mkF m 84 #[.val (.ref a1), .val (.double pp), .second, .val (.int (1 : Int32)), .val (.double ps), .second, .val (.double (FP.l2d s0)), .second, .unset, .unset, .unset] [])) _
    refine XS.dload X0.here hx rfl (hb hby d_prog_53_method_6_code_84) rfl ?_
    show Steps p.tables e below (s₁.setTop (mkF m 86 #[.val (.ref a1), .val (.double pp), .second, .val (.int (1 : Int32)), .val (.double ps), .second, .val (.double (FP.l2d s0)), .second, .unset, .unset, .unset] [(.double (FP.l2d s0))])) _
    exact retOut X0 hx (t := .double) Bd.returns rfl (Or.inr (Or.inr (Or.inl ⟨rfl, rfl, _, rfl⟩))) (hb hby d_prog_53_method_6_code_86) hr
  · show QD (FP.l2d s0) h0 n0 _ s₁.heap _
    rw [e0]
    exact ⟨rfl, N0, rfl⟩
set_option maxRecDepth 65536 in
set_option maxHeartbeats 40000000 in
theorem rmPa3 (l : Launch) (Z : State) (a0 : Array Value) (hw : ∀ d ∈ tables_1, d.before a0 Z = true) (ws : List Jvm.Cond) (a1 : Addr) (kA : ClassId) (s0 s1 s2 s3 s4 s5 s6 s7 s8 : Int64) (pp ps : UInt64) (h0 : Heap) (n0 : Nat) (Z0 : n0 ≤ h0.size) (V_a1 : Arv Z h0 a1 kA .double (3 : Int32) [(.double (FP.l2d s0)), (.double (FP.l2d s1)), (.double (FP.l2d s2))] (.double (0 : UInt64))) (hn8 : Jvm.Free.Fl.NoNaN64 (FP.dmul (FP.i2d ((3 : Int32) + (1 : Int32))) pp)) (hn12 : Jvm.Free.Fl.NoNaN64 (FP.ddiv (FP.dmul (FP.i2d ((3 : Int32) + (1 : Int32))) pp) (4636737291354636288 : UInt64))) (hv12 : FP.ddiv (FP.dmul (FP.i2d ((3 : Int32) + (1 : Int32))) pp) (4636737291354636288 : UInt64) = ps) (vA : Int32) (hvA : cmpValue (FP.dcmp ps (4607182418800017408 : UInt64)) .g = vA) (hcA : vA < (0 : Int32))  :
    MetFree l (⟨"com/example/bytegauge/bytegauge/stats/JsonTable", "percentile", "([DD)D"⟩ : MethodName) (head1 (Jvm.Cond.code (⟨"com/example/bytegauge/bytegauge/stats/JsonTable", "percentile", "([DD)D"⟩ : MethodName) prog_53_method_6_code 11 (some .double) :: ws) ({ frames := 0, cells := 0, slots := 0, locals := 0 } : Room)) (fun a U => a = #[(.ref a1), (.double pp)] ∧ Z.Warmed39 U.vm ∧ U.heap = h0) (fun _ _ _ _ _ => True) (fun _ U o U' => ∃ v L, o = .returned v ∧ QD (FP.l2d s0) h0 n0 v U'.heap L ∧ FrameEnd U o U' L ({ frames := 0, cells := 0, slots := 0, locals := 0 } : Room).cells ({ frames := 0, cells := 0, slots := 0, locals := 0 } : Room).slots) := by
  refine MetFree.of_bodySF (plainFor_of_name pn_com_example_bytegauge_bytegauge_stats_JsonTable) hisR ?_
  intro p e s m args below meth c s₁ Bd hml0 hP hK
  obtain ⟨rfl, hZ, hh⟩ := hP
  have hx := Bd.exec
  have hby := Bd.bytes
  have hml : c.maxLocals = 11 := hml0
  have hown : s.vm.findClass "com/example/bytegauge/bytegauge/stats/JsonTable" = some m.cls := findClass_of_methodNamed Bd.named
  have hnm := (name_of_methodNamed Bd.named Bd.method).1
  have X0 : Stand p l e ({ frames := 0, cells := 0, slots := 0, locals := 0 } : Room) s m #[(.ref a1), (.double pp)] below meth c s₁ [] 0 0 := Stand.of_body Bd
  have e0 : s₁.heap = h0 := by rw [← hh, Bd.state]; rfl
  have N0 := Fr.nil n0
  have pre0 : ∀ t, Steps p.tables e below (s₁.setTop (mkF m 0 #[.val (.ref a1), .val (.double pp), .second, .unset, .unset, .unset, .unset, .unset, .unset, .unset, .unset] [])) t → Steps p.tables e below (s₁.setTop (entryFrame m #[(.ref a1), (.double pp)] 11)) t := fun t k => castTop (ef_prog_53_method_6_code m a1 pp) k
  obtain ⟨cl1, Ar1, -, S1, Nn1, -, -⟩ := id V_a1
  obtain ⟨cl2, Ar2, -, S2, Nn2, H2, -⟩ := id V_a1
  have hin2 : ¬ ((0 : Int32) < 0 ∨ cl2.slots.size ≤ ((0 : Int32)).toNatClampNeg) := inb_of S2 ⟨by decide, by decide⟩
  have hat2 : cl2.slots[((0 : Int32)).toNatClampNeg]? = some (.double (FP.l2d s0)) := H2.at hin2 rfl
  obtain ⟨fs, hr, hrun, hended, hW, hsame⟩ := X0.leave (v := some (.double (FP.l2d s0))) (fun h => by rw [Bd.returns] at h; cases h)
  refine ⟨_, _, pre0 _ ?_, hrun, hended, _, _, rfl, ?_, ⟨_, rfl⟩, hW, hsame.mono (by decide) (by decide)⟩
  · show Steps p.tables e below (s₁.setTop (mkF m 0 #[.val (.ref a1), .val (.double pp), .second, .unset, .unset, .unset, .unset, .unset, .unset, .unset, .unset] [])) _
    refine XS.aloadN X0.here hx rfl (hb hby d_prog_53_method_6_code_0) rfl rfl ?_
    show Steps p.tables e below (s₁.setTop (mkF m 1 #[.val (.ref a1), .val (.double pp), .second, .unset, .unset, .unset, .unset, .unset, .unset, .unset, .unset] [(.ref a1)])) _
    refine X0.arraylength hx (by rw [e0]; exact Ar1.1) (State.isArrayOf_alike hZ.alike Ar1.2.1) (g := (mkF m 1 #[.val (.ref a1), .val (.double pp), .second, .unset, .unset, .unset, .unset, .unset, .unset, .unset, .unset] [(.ref a1)])) rfl rfl (hb hby d_prog_53_method_6_code_1) _ ?_
    rw [len_of S1 Nn1]
    refine XS.istoreN X0.here hx rfl (hb hby d_prog_53_method_6_code_2) rfl (l' := #[.val (.ref a1), .val (.double pp), .second, .val (.int (3 : Int32)), .unset, .unset, .unset, .unset, .unset, .unset, .unset]) rfl ?_
    refine XS.iloadN X0.here hx rfl (hb hby d_prog_53_method_6_code_3) rfl ?_
    show Steps p.tables e below (s₁.setTop (mkF m 4 #[.val (.ref a1), .val (.double pp), .second, .val (.int (3 : Int32)), .unset, .unset, .unset, .unset, .unset, .unset, .unset] [(.int (3 : Int32))])) _
    refine XS.iconst X0.here hx rfl (hb hby d_prog_53_method_6_code_4) ?_
    refine XS.iadd X0.here hx rfl (hb hby d_prog_53_method_6_code_5) rfl ?_
    refine XS.i2dS X0.here hx rfl (hb hby d_prog_53_method_6_code_6) rfl (v := (FP.i2d ((3 : Int32) + (1 : Int32)))) (rfl) ?_
    show Steps p.tables e below (s₁.setTop (mkF m 7 #[.val (.ref a1), .val (.double pp), .second, .val (.int (3 : Int32)), .unset, .unset, .unset, .unset, .unset, .unset, .unset] [(.double (FP.i2d ((3 : Int32) + (1 : Int32))))])) _
    refine XS.dloadN X0.here hx rfl (hb hby d_prog_53_method_6_code_7) rfl ?_
    refine XS.dmulS X0.here hx rfl (hb hby d_prog_53_method_6_code_8) rfl hn8 (v := (FP.dmul (FP.i2d ((3 : Int32) + (1 : Int32))) pp)) (rfl) ?_
    show Steps p.tables e below (s₁.setTop (mkF m 9 #[.val (.ref a1), .val (.double pp), .second, .val (.int (3 : Int32)), .unset, .unset, .unset, .unset, .unset, .unset, .unset] [(.double (FP.dmul (FP.i2d ((3 : Int32) + (1 : Int32))) pp))])) _
    refine X0.ldc2DoubleC hx hown (mvT hZ (hw _ (List.mem_of_getElem? (i := 13) rfl))) (g := (mkF m 9 #[.val (.ref a1), .val (.double pp), .second, .val (.int (3 : Int32)), .unset, .unset, .unset, .unset, .unset, .unset, .unset] [(.double (FP.dmul (FP.i2d ((3 : Int32) + (1 : Int32))) pp))])) rfl (hb hby d_prog_53_method_6_code_9) _ ?_
    refine XS.ddivS X0.here hx rfl (hb hby d_prog_53_method_6_code_12) rfl hn12 (v := ps) (hv12) ?_
    refine XS.dstore X0.here hx rfl (hb hby d_prog_53_method_6_code_13) rfl (l' := #[.val (.ref a1), .val (.double pp), .second, .val (.int (3 : Int32)), .val (.double ps), .second, .unset, .unset, .unset, .unset, .unset]) rfl ?_
    show Steps p.tables e below (s₁.setTop (mkF m 15 #[.val (.ref a1), .val (.double pp), .second, .val (.int (3 : Int32)), .val (.double ps), .second, .unset, .unset, .unset, .unset, .unset] [])) _
    refine XS.dload X0.here hx rfl (hb hby d_prog_53_method_6_code_15) rfl ?_
    refine XS.dconst1 X0.here hx rfl (hb hby d_prog_53_method_6_code_17) (v := (4607182418800017408 : UInt64)) rfl ?_
    refine XS.dcmpS X0.here hx rfl (hb hby d_prog_53_method_6_code_18) rfl (v := vA) (hvA) ?_
    show Steps p.tables e below (s₁.setTop (mkF m 19 #[.val (.ref a1), .val (.double pp), .second, .val (.int (3 : Int32)), .val (.double ps), .second, .unset, .unset, .unset, .unset, .unset] [(.int vA)])) _
    refine XS.ifNo X0.here hx rfl (hb hby d_prog_53_method_6_code_19) rfl ((if0 _ _).trans (tlt (hcA : vA < (0 : Int32))).2.1) ?_
    refine XS.aloadN X0.here hx rfl (hb hby d_prog_53_method_6_code_22) rfl rfl ?_
    refine XS.iconst X0.here hx rfl (hb hby d_prog_53_method_6_code_23) ?_
    show Steps p.tables e below (s₁.setTop (mkF m 24 #[.val (.ref a1), .val (.double pp), .second, .val (.int (3 : Int32)), .val (.double ps), .second, .unset, .unset, .unset, .unset, .unset] [(.int (0 : Int32)), (.ref a1)])) _
    refine X0.daload hx (j := (0 : Int32)) (v := (.double (FP.l2d s0))) (by rw [e0]; exact Ar2.1) (State.isArrayOf_alike hZ.alike Ar2.2.1) Ar2.2.2 hin2 hat2 (g := (mkF m 24 #[.val (.ref a1), .val (.double pp), .second, .val (.int (3 : Int32)), .val (.double ps), .second, .unset, .unset, .unset, .unset, .unset] [(.int (0 : Int32)), (.ref a1)])) rfl rfl (hb hby d_prog_53_method_6_code_24) _ ?_
    refine XS.dstore X0.here hx rfl (hb hby d_prog_53_method_6_code_25) rfl (l' := #[.val (.ref a1), .val (.double pp), .second, .val (.int (3 : Int32)), .val (.double ps), .second, .val (.double (FP.l2d s0)), .second, .unset, .unset, .unset]) rfl ?_
    refine XS.goto X0.here hx rfl (pc0 := 27) (pc' := 84) rfl (hb hby d_prog_53_method_6_code_27) (by decide) (by decide) ?_
    show Steps p.tables e below (s₁.setTop (mkF m 84 #[.val (.ref a1), .val (.double pp), .second, .val (.int (3 : Int32)), .val (.double ps), .second, .val (.double (FP.l2d s0)), .second, .unset, .unset, .unset] [])) _
    refine XS.dload X0.here hx rfl (hb hby d_prog_53_method_6_code_84) rfl ?_
    show Steps p.tables e below (s₁.setTop (mkF m 86 #[.val (.ref a1), .val (.double pp), .second, .val (.int (3 : Int32)), .val (.double ps), .second, .val (.double (FP.l2d s0)), .second, .unset, .unset, .unset] [(.double (FP.l2d s0))])) _
    exact retOut X0 hx (t := .double) Bd.returns rfl (Or.inr (Or.inr (Or.inl ⟨rfl, rfl, _, rfl⟩))) (hb hby d_prog_53_method_6_code_86) hr
  · show QD (FP.l2d s0) h0 n0 _ s₁.heap _
    rw [e0]
    exact ⟨rfl, N0, rfl⟩
set_option maxRecDepth 65536 in
set_option maxHeartbeats 40000000 in
theorem rmPb3 (l : Launch) (Z : State) (a0 : Array Value) (hw : ∀ d ∈ tables_1, d.before a0 Z = true) (ws : List Jvm.Cond) (a1 : Addr) (kA : ClassId) (s0 s1 s2 s3 s4 s5 s6 s7 s8 : Int64) (pp ps : UInt64) (h0 : Heap) (n0 : Nat) (Z0 : n0 ≤ h0.size) (V_a1 : Arv Z h0 a1 kA .double (3 : Int32) [(.double (FP.l2d s0)), (.double (FP.l2d s1)), (.double (FP.l2d s2))] (.double (0 : UInt64))) (hn8 : Jvm.Free.Fl.NoNaN64 (FP.dmul (FP.i2d ((3 : Int32) + (1 : Int32))) pp)) (hn12 : Jvm.Free.Fl.NoNaN64 (FP.ddiv (FP.dmul (FP.i2d ((3 : Int32) + (1 : Int32))) pp) (4636737291354636288 : UInt64))) (hv12 : FP.ddiv (FP.dmul (FP.i2d ((3 : Int32) + (1 : Int32))) pp) (4636737291354636288 : UInt64) = ps) (vA : Int32) (hvA : cmpValue (FP.dcmp ps (4607182418800017408 : UInt64)) .g = vA) (vB : Int32) (hvB : cmpValue (FP.dcmp ps (FP.i2d (3 : Int32))) .l = vB) (hcA : ¬ vA < (0 : Int32)) (hcB : ¬ vB < (0 : Int32))  :
    MetFree l (⟨"com/example/bytegauge/bytegauge/stats/JsonTable", "percentile", "([DD)D"⟩ : MethodName) (head1 (Jvm.Cond.code (⟨"com/example/bytegauge/bytegauge/stats/JsonTable", "percentile", "([DD)D"⟩ : MethodName) prog_53_method_6_code 11 (some .double) :: ws) ({ frames := 0, cells := 0, slots := 0, locals := 0 } : Room)) (fun a U => a = #[(.ref a1), (.double pp)] ∧ Z.Warmed39 U.vm ∧ U.heap = h0) (fun _ _ _ _ _ => True) (fun _ U o U' => ∃ v L, o = .returned v ∧ QD (FP.l2d s2) h0 n0 v U'.heap L ∧ FrameEnd U o U' L ({ frames := 0, cells := 0, slots := 0, locals := 0 } : Room).cells ({ frames := 0, cells := 0, slots := 0, locals := 0 } : Room).slots) := by
  refine MetFree.of_bodySF (plainFor_of_name pn_com_example_bytegauge_bytegauge_stats_JsonTable) hisR ?_
  intro p e s m args below meth c s₁ Bd hml0 hP hK
  obtain ⟨rfl, hZ, hh⟩ := hP
  have hx := Bd.exec
  have hby := Bd.bytes
  have hml : c.maxLocals = 11 := hml0
  have hown : s.vm.findClass "com/example/bytegauge/bytegauge/stats/JsonTable" = some m.cls := findClass_of_methodNamed Bd.named
  have hnm := (name_of_methodNamed Bd.named Bd.method).1
  have X0 : Stand p l e ({ frames := 0, cells := 0, slots := 0, locals := 0 } : Room) s m #[(.ref a1), (.double pp)] below meth c s₁ [] 0 0 := Stand.of_body Bd
  have e0 : s₁.heap = h0 := by rw [← hh, Bd.state]; rfl
  have N0 := Fr.nil n0
  have pre0 : ∀ t, Steps p.tables e below (s₁.setTop (mkF m 0 #[.val (.ref a1), .val (.double pp), .second, .unset, .unset, .unset, .unset, .unset, .unset, .unset, .unset] [])) t → Steps p.tables e below (s₁.setTop (entryFrame m #[(.ref a1), (.double pp)] 11)) t := fun t k => castTop (ef_prog_53_method_6_code m a1 pp) k
  obtain ⟨cl1, Ar1, -, S1, Nn1, -, -⟩ := id V_a1
  obtain ⟨cl2, Ar2, -, S2, Nn2, H2, -⟩ := id V_a1
  have hin2 : ¬ ((2 : Int32) < 0 ∨ cl2.slots.size ≤ ((2 : Int32)).toNatClampNeg) := inb_of S2 ⟨by decide, by decide⟩
  have hat2 : cl2.slots[((2 : Int32)).toNatClampNeg]? = some (.double (FP.l2d s2)) := H2.at hin2 rfl
  obtain ⟨fs, hr, hrun, hended, hW, hsame⟩ := X0.leave (v := some (.double (FP.l2d s2))) (fun h => by rw [Bd.returns] at h; cases h)
  refine ⟨_, _, pre0 _ ?_, hrun, hended, _, _, rfl, ?_, ⟨_, rfl⟩, hW, hsame.mono (by decide) (by decide)⟩
  · show Steps p.tables e below (s₁.setTop (mkF m 0 #[.val (.ref a1), .val (.double pp), .second, .unset, .unset, .unset, .unset, .unset, .unset, .unset, .unset] [])) _
    refine XS.aloadN X0.here hx rfl (hb hby d_prog_53_method_6_code_0) rfl rfl ?_
    show Steps p.tables e below (s₁.setTop (mkF m 1 #[.val (.ref a1), .val (.double pp), .second, .unset, .unset, .unset, .unset, .unset, .unset, .unset, .unset] [(.ref a1)])) _
    refine X0.arraylength hx (by rw [e0]; exact Ar1.1) (State.isArrayOf_alike hZ.alike Ar1.2.1) (g := (mkF m 1 #[.val (.ref a1), .val (.double pp), .second, .unset, .unset, .unset, .unset, .unset, .unset, .unset, .unset] [(.ref a1)])) rfl rfl (hb hby d_prog_53_method_6_code_1) _ ?_
    rw [len_of S1 Nn1]
    refine XS.istoreN X0.here hx rfl (hb hby d_prog_53_method_6_code_2) rfl (l' := #[.val (.ref a1), .val (.double pp), .second, .val (.int (3 : Int32)), .unset, .unset, .unset, .unset, .unset, .unset, .unset]) rfl ?_
    refine XS.iloadN X0.here hx rfl (hb hby d_prog_53_method_6_code_3) rfl ?_
    show Steps p.tables e below (s₁.setTop (mkF m 4 #[.val (.ref a1), .val (.double pp), .second, .val (.int (3 : Int32)), .unset, .unset, .unset, .unset, .unset, .unset, .unset] [(.int (3 : Int32))])) _
    refine XS.iconst X0.here hx rfl (hb hby d_prog_53_method_6_code_4) ?_
    refine XS.iadd X0.here hx rfl (hb hby d_prog_53_method_6_code_5) rfl ?_
    refine XS.i2dS X0.here hx rfl (hb hby d_prog_53_method_6_code_6) rfl (v := (FP.i2d ((3 : Int32) + (1 : Int32)))) (rfl) ?_
    show Steps p.tables e below (s₁.setTop (mkF m 7 #[.val (.ref a1), .val (.double pp), .second, .val (.int (3 : Int32)), .unset, .unset, .unset, .unset, .unset, .unset, .unset] [(.double (FP.i2d ((3 : Int32) + (1 : Int32))))])) _
    refine XS.dloadN X0.here hx rfl (hb hby d_prog_53_method_6_code_7) rfl ?_
    refine XS.dmulS X0.here hx rfl (hb hby d_prog_53_method_6_code_8) rfl hn8 (v := (FP.dmul (FP.i2d ((3 : Int32) + (1 : Int32))) pp)) (rfl) ?_
    show Steps p.tables e below (s₁.setTop (mkF m 9 #[.val (.ref a1), .val (.double pp), .second, .val (.int (3 : Int32)), .unset, .unset, .unset, .unset, .unset, .unset, .unset] [(.double (FP.dmul (FP.i2d ((3 : Int32) + (1 : Int32))) pp))])) _
    refine X0.ldc2DoubleC hx hown (mvT hZ (hw _ (List.mem_of_getElem? (i := 13) rfl))) (g := (mkF m 9 #[.val (.ref a1), .val (.double pp), .second, .val (.int (3 : Int32)), .unset, .unset, .unset, .unset, .unset, .unset, .unset] [(.double (FP.dmul (FP.i2d ((3 : Int32) + (1 : Int32))) pp))])) rfl (hb hby d_prog_53_method_6_code_9) _ ?_
    refine XS.ddivS X0.here hx rfl (hb hby d_prog_53_method_6_code_12) rfl hn12 (v := ps) (hv12) ?_
    refine XS.dstore X0.here hx rfl (hb hby d_prog_53_method_6_code_13) rfl (l' := #[.val (.ref a1), .val (.double pp), .second, .val (.int (3 : Int32)), .val (.double ps), .second, .unset, .unset, .unset, .unset, .unset]) rfl ?_
    show Steps p.tables e below (s₁.setTop (mkF m 15 #[.val (.ref a1), .val (.double pp), .second, .val (.int (3 : Int32)), .val (.double ps), .second, .unset, .unset, .unset, .unset, .unset] [])) _
    refine XS.dload X0.here hx rfl (hb hby d_prog_53_method_6_code_15) rfl ?_
    refine XS.dconst1 X0.here hx rfl (hb hby d_prog_53_method_6_code_17) (v := (4607182418800017408 : UInt64)) rfl ?_
    refine XS.dcmpS X0.here hx rfl (hb hby d_prog_53_method_6_code_18) rfl (v := vA) (hvA) ?_
    show Steps p.tables e below (s₁.setTop (mkF m 19 #[.val (.ref a1), .val (.double pp), .second, .val (.int (3 : Int32)), .val (.double ps), .second, .unset, .unset, .unset, .unset, .unset] [(.int vA)])) _
    refine XS.ifYes X0.here hx rfl (pc0 := 19) (pc' := 30) rfl (hb hby d_prog_53_method_6_code_19) rfl ((if0 _ _).trans (flt (hcA : ¬ (vA < (0 : Int32)))).2.1) (by decide) (by decide) ?_
    refine XS.dload X0.here hx rfl (hb hby d_prog_53_method_6_code_30) rfl ?_
    refine XS.iloadN X0.here hx rfl (hb hby d_prog_53_method_6_code_32) rfl ?_
    show Steps p.tables e below (s₁.setTop (mkF m 33 #[.val (.ref a1), .val (.double pp), .second, .val (.int (3 : Int32)), .val (.double ps), .second, .unset, .unset, .unset, .unset, .unset] [(.int (3 : Int32)), (.double ps)])) _
    refine XS.i2dS X0.here hx rfl (hb hby d_prog_53_method_6_code_33) rfl (v := (FP.i2d (3 : Int32))) (rfl) ?_
    refine XS.dcmpS X0.here hx rfl (hb hby d_prog_53_method_6_code_34) rfl (v := vB) (hvB) ?_
    refine XS.ifNo X0.here hx rfl (hb hby d_prog_53_method_6_code_35) rfl ((if0 _ _).trans (flt (hcB : ¬ (vB < (0 : Int32)))).1) ?_
    show Steps p.tables e below (s₁.setTop (mkF m 38 #[.val (.ref a1), .val (.double pp), .second, .val (.int (3 : Int32)), .val (.double ps), .second, .unset, .unset, .unset, .unset, .unset] [])) _
    refine XS.aloadN X0.here hx rfl (hb hby d_prog_53_method_6_code_38) rfl rfl ?_
    refine XS.iloadN X0.here hx rfl (hb hby d_prog_53_method_6_code_39) rfl ?_
    refine XS.iconst X0.here hx rfl (hb hby d_prog_53_method_6_code_40) ?_
    show Steps p.tables e below (s₁.setTop (mkF m 41 #[.val (.ref a1), .val (.double pp), .second, .val (.int (3 : Int32)), .val (.double ps), .second, .unset, .unset, .unset, .unset, .unset] [(.int (1 : Int32)), (.int (3 : Int32)), (.ref a1)])) _
    refine XS.isub X0.here hx rfl (hb hby d_prog_53_method_6_code_41) rfl ?_
    show Steps p.tables e below (s₁.setTop (mkF m 42 #[.val (.ref a1), .val (.double pp), .second, .val (.int (3 : Int32)), .val (.double ps), .second, .unset, .unset, .unset, .unset, .unset] [(.int ((3 : Int32) - (1 : Int32))), (.ref a1)])) _
    rw [show ((3 : Int32) - (1 : Int32)) = (2 : Int32) from (by decide)]
    show Steps p.tables e below (s₁.setTop (mkF m 42 #[.val (.ref a1), .val (.double pp), .second, .val (.int (3 : Int32)), .val (.double ps), .second, .unset, .unset, .unset, .unset, .unset] [(.int (2 : Int32)), (.ref a1)])) _
    refine X0.daload hx (j := (2 : Int32)) (v := (.double (FP.l2d s2))) (by rw [e0]; exact Ar2.1) (State.isArrayOf_alike hZ.alike Ar2.2.1) Ar2.2.2 hin2 hat2 (g := (mkF m 42 #[.val (.ref a1), .val (.double pp), .second, .val (.int (3 : Int32)), .val (.double ps), .second, .unset, .unset, .unset, .unset, .unset] [(.int (2 : Int32)), (.ref a1)])) rfl rfl (hb hby d_prog_53_method_6_code_42) _ ?_
    refine XS.dstore X0.here hx rfl (hb hby d_prog_53_method_6_code_43) rfl (l' := #[.val (.ref a1), .val (.double pp), .second, .val (.int (3 : Int32)), .val (.double ps), .second, .val (.double (FP.l2d s2)), .second, .unset, .unset, .unset]) rfl ?_
    refine XS.goto X0.here hx rfl (pc0 := 45) (pc' := 84) rfl (hb hby d_prog_53_method_6_code_45) (by decide) (by decide) ?_
    show Steps p.tables e below (s₁.setTop (mkF m 84 #[.val (.ref a1), .val (.double pp), .second, .val (.int (3 : Int32)), .val (.double ps), .second, .val (.double (FP.l2d s2)), .second, .unset, .unset, .unset] [])) _
    refine XS.dload X0.here hx rfl (hb hby d_prog_53_method_6_code_84) rfl ?_
    show Steps p.tables e below (s₁.setTop (mkF m 86 #[.val (.ref a1), .val (.double pp), .second, .val (.int (3 : Int32)), .val (.double ps), .second, .val (.double (FP.l2d s2)), .second, .unset, .unset, .unset] [(.double (FP.l2d s2))])) _
    exact retOut X0 hx (t := .double) Bd.returns rfl (Or.inr (Or.inr (Or.inl ⟨rfl, rfl, _, rfl⟩))) (hb hby d_prog_53_method_6_code_86) hr
  · show QD (FP.l2d s2) h0 n0 _ s₁.heap _
    rw [e0]
    exact ⟨rfl, N0, rfl⟩
theorem d_prog_53_method_6_code_48 : decode prog_53_method_6_code 48 = .ok (.dload 4, 2) := by decide +kernel
theorem d_prog_53_method_6_code_50 : decode prog_53_method_6_code 50 = .ok (.d2i, 1) := by decide +kernel
theorem d_prog_53_method_6_code_51 : decode prog_53_method_6_code 51 = .ok (.istore 8, 2) := by decide +kernel
theorem d_prog_53_method_6_code_53 : decode prog_53_method_6_code 53 = .ok (.dload 4, 2) := by decide +kernel
theorem d_prog_53_method_6_code_55 : decode prog_53_method_6_code 55 = .ok (.iload 8, 2) := by decide +kernel
theorem d_prog_53_method_6_code_57 : decode prog_53_method_6_code 57 = .ok (.i2d, 1) := by decide +kernel
theorem d_prog_53_method_6_code_58 : decode prog_53_method_6_code 58 = .ok (.dsub, 1) := by decide +kernel
theorem d_prog_53_method_6_code_59 : decode prog_53_method_6_code 59 = .ok (.dstore 9, 2) := by decide +kernel
theorem d_prog_53_method_6_code_61 : decode prog_53_method_6_code 61 = .ok (.aload_n 0, 1) := by decide +kernel
theorem d_prog_53_method_6_code_62 : decode prog_53_method_6_code 62 = .ok (.iload 8, 2) := by decide +kernel
theorem d_prog_53_method_6_code_64 : decode prog_53_method_6_code 64 = .ok (.iconst 1, 1) := by decide +kernel
theorem d_prog_53_method_6_code_65 : decode prog_53_method_6_code 65 = .ok (.isub, 1) := by decide +kernel
theorem d_prog_53_method_6_code_66 : decode prog_53_method_6_code 66 = .ok (.daload, 1) := by decide +kernel
theorem d_prog_53_method_6_code_67 : decode prog_53_method_6_code 67 = .ok (.dload 9, 2) := by decide +kernel
theorem d_prog_53_method_6_code_69 : decode prog_53_method_6_code 69 = .ok (.aload_n 0, 1) := by decide +kernel
theorem d_prog_53_method_6_code_70 : decode prog_53_method_6_code 70 = .ok (.iload 8, 2) := by decide +kernel
theorem d_prog_53_method_6_code_72 : decode prog_53_method_6_code 72 = .ok (.daload, 1) := by decide +kernel
theorem d_prog_53_method_6_code_73 : decode prog_53_method_6_code 73 = .ok (.aload_n 0, 1) := by decide +kernel
theorem d_prog_53_method_6_code_74 : decode prog_53_method_6_code 74 = .ok (.iload 8, 2) := by decide +kernel
theorem d_prog_53_method_6_code_76 : decode prog_53_method_6_code 76 = .ok (.iconst 1, 1) := by decide +kernel
theorem d_prog_53_method_6_code_77 : decode prog_53_method_6_code 77 = .ok (.isub, 1) := by decide +kernel
theorem d_prog_53_method_6_code_78 : decode prog_53_method_6_code 78 = .ok (.daload, 1) := by decide +kernel
theorem d_prog_53_method_6_code_79 : decode prog_53_method_6_code 79 = .ok (.dsub, 1) := by decide +kernel
theorem d_prog_53_method_6_code_80 : decode prog_53_method_6_code 80 = .ok (.dmul, 1) := by decide +kernel
theorem d_prog_53_method_6_code_81 : decode prog_53_method_6_code 81 = .ok (.dadd, 1) := by decide +kernel
theorem d_prog_53_method_6_code_82 : decode prog_53_method_6_code 82 = .ok (.dstore 6, 2) := by decide +kernel
set_option maxRecDepth 65536 in
set_option maxHeartbeats 40000000 in
theorem rmPc3 (l : Launch) (Z : State) (a0 : Array Value) (hw : ∀ d ∈ tables_1, d.before a0 Z = true) (ws : List Jvm.Cond) (a1 : Addr) (kA : ClassId) (s0 s1 s2 s3 s4 s5 s6 s7 s8 : Int64) (pp ps : UInt64) (fr : UInt64) (lo hi : Int64) (bb b1 : Int32) (h0 : Heap) (n0 : Nat) (Z0 : n0 ≤ h0.size) (V_a1 : Arv Z h0 a1 kA .double (3 : Int32) [(.double (FP.l2d s0)), (.double (FP.l2d s1)), (.double (FP.l2d s2))] (.double (0 : UInt64))) (hn8 : Jvm.Free.Fl.NoNaN64 (FP.dmul (FP.i2d ((3 : Int32) + (1 : Int32))) pp)) (hn12 : Jvm.Free.Fl.NoNaN64 (FP.ddiv (FP.dmul (FP.i2d ((3 : Int32) + (1 : Int32))) pp) (4636737291354636288 : UInt64))) (hv12 : FP.ddiv (FP.dmul (FP.i2d ((3 : Int32) + (1 : Int32))) pp) (4636737291354636288 : UInt64) = ps) (vA : Int32) (hvA : cmpValue (FP.dcmp ps (4607182418800017408 : UInt64)) .g = vA) (vB : Int32) (hvB : cmpValue (FP.dcmp ps (FP.i2d (3 : Int32))) .l = vB) (hcA : ¬ vA < (0 : Int32)) (hcB : vB < (0 : Int32)) (hbb : FP.d2i ps = bb) (hn58 : Jvm.Free.Fl.NoNaN64 (FP.dsub ps (FP.i2d bb))) (hfr : FP.dsub ps (FP.i2d bb) = fr) (hb1 : bb - (1 : Int32) = b1) (hi1 : ¬ b1 < 0 ∧ b1 < (3 : Int32)) (hi2 : ¬ bb < 0 ∧ bb < (3 : Int32)) (ht1 : ([(.double (FP.l2d s0)), (.double (FP.l2d s1)), (.double (FP.l2d s2))] : List Value).getD b1.toNatClampNeg (.double (0 : UInt64)) = (.double (FP.l2d lo))) (ht2 : ([(.double (FP.l2d s0)), (.double (FP.l2d s1)), (.double (FP.l2d s2))] : List Value).getD bb.toNatClampNeg (.double (0 : UInt64)) = (.double (FP.l2d hi))) (hn79 : Jvm.Free.Fl.NoNaN64 (FP.dsub (FP.l2d hi) (FP.l2d lo))) (hn80 : Jvm.Free.Fl.NoNaN64 (FP.dmul fr (FP.dsub (FP.l2d hi) (FP.l2d lo)))) (hn81 : Jvm.Free.Fl.NoNaN64 (FP.dadd (FP.l2d lo) (FP.dmul fr (FP.dsub (FP.l2d hi) (FP.l2d lo)))))  :
    MetFree l (⟨"com/example/bytegauge/bytegauge/stats/JsonTable", "percentile", "([DD)D"⟩ : MethodName) (head1 (Jvm.Cond.code (⟨"com/example/bytegauge/bytegauge/stats/JsonTable", "percentile", "([DD)D"⟩ : MethodName) prog_53_method_6_code 11 (some .double) :: ws) ({ frames := 0, cells := 0, slots := 0, locals := 0 } : Room)) (fun a U => a = #[(.ref a1), (.double pp)] ∧ Z.Warmed39 U.vm ∧ U.heap = h0) (fun _ _ _ _ _ => True) (fun _ U o U' => ∃ v L, o = .returned v ∧ QD (FP.dadd (FP.l2d lo) (FP.dmul fr (FP.dsub (FP.l2d hi) (FP.l2d lo)))) h0 n0 v U'.heap L ∧ FrameEnd U o U' L ({ frames := 0, cells := 0, slots := 0, locals := 0 } : Room).cells ({ frames := 0, cells := 0, slots := 0, locals := 0 } : Room).slots) := by
  refine MetFree.of_bodySF (plainFor_of_name pn_com_example_bytegauge_bytegauge_stats_JsonTable) hisR ?_
  intro p e s m args below meth c s₁ Bd hml0 hP hK
  obtain ⟨rfl, hZ, hh⟩ := hP
  have hx := Bd.exec
  have hby := Bd.bytes
  have hml : c.maxLocals = 11 := hml0
  have hown : s.vm.findClass "com/example/bytegauge/bytegauge/stats/JsonTable" = some m.cls := findClass_of_methodNamed Bd.named
  have hnm := (name_of_methodNamed Bd.named Bd.method).1
  have X0 : Stand p l e ({ frames := 0, cells := 0, slots := 0, locals := 0 } : Room) s m #[(.ref a1), (.double pp)] below meth c s₁ [] 0 0 := Stand.of_body Bd
  have e0 : s₁.heap = h0 := by rw [← hh, Bd.state]; rfl
  have N0 := Fr.nil n0
  have pre0 : ∀ t, Steps p.tables e below (s₁.setTop (mkF m 0 #[.val (.ref a1), .val (.double pp), .second, .unset, .unset, .unset, .unset, .unset, .unset, .unset, .unset] [])) t → Steps p.tables e below (s₁.setTop (entryFrame m #[(.ref a1), (.double pp)] 11)) t := fun t k => castTop (ef_prog_53_method_6_code m a1 pp) k
  obtain ⟨cl1, Ar1, -, S1, Nn1, -, -⟩ := id V_a1
  obtain ⟨cl2, Ar2, -, S2, Nn2, H2, -⟩ := id V_a1
  have hin2 : ¬ (b1 < 0 ∨ cl2.slots.size ≤ (b1).toNatClampNeg) := inb_of S2 hi1
  have hat2 : cl2.slots[(b1).toNatClampNeg]? = some (.double (FP.l2d lo)) := H2.at hin2 ht1
  obtain ⟨cl3, Ar3, -, S3, Nn3, H3, -⟩ := id V_a1
  have hin3 : ¬ (bb < 0 ∨ cl3.slots.size ≤ (bb).toNatClampNeg) := inb_of S3 hi2
  have hat3 : cl3.slots[(bb).toNatClampNeg]? = some (.double (FP.l2d hi)) := H3.at hin3 ht2
  obtain ⟨cl4, Ar4, -, S4, Nn4, H4, -⟩ := id V_a1
  have hin4 : ¬ (b1 < 0 ∨ cl4.slots.size ≤ (b1).toNatClampNeg) := inb_of S4 hi1
  have hat4 : cl4.slots[(b1).toNatClampNeg]? = some (.double (FP.l2d lo)) := H4.at hin4 ht1
  obtain ⟨fs, hr, hrun, hended, hW, hsame⟩ := X0.leave (v := some (.double (FP.dadd (FP.l2d lo) (FP.dmul fr (FP.dsub (FP.l2d hi) (FP.l2d lo)))))) (fun h => by rw [Bd.returns] at h; cases h)
  refine ⟨_, _, pre0 _ ?_, hrun, hended, _, _, rfl, ?_, ⟨_, rfl⟩, hW, hsame.mono (by decide) (by decide)⟩
  · show Steps p.tables e below (s₁.setTop (mkF m 0 #[.val (.ref a1), .val (.double pp), .second, .unset, .unset, .unset, .unset, .unset, .unset, .unset, .unset] [])) _
    refine XS.aloadN X0.here hx rfl (hb hby d_prog_53_method_6_code_0) rfl rfl ?_
    show Steps p.tables e below (s₁.setTop (mkF m 1 #[.val (.ref a1), .val (.double pp), .second, .unset, .unset, .unset, .unset, .unset, .unset, .unset, .unset] [(.ref a1)])) _
    refine X0.arraylength hx (by rw [e0]; exact Ar1.1) (State.isArrayOf_alike hZ.alike Ar1.2.1) (g := (mkF m 1 #[.val (.ref a1), .val (.double pp), .second, .unset, .unset, .unset, .unset, .unset, .unset, .unset, .unset] [(.ref a1)])) rfl rfl (hb hby d_prog_53_method_6_code_1) _ ?_
    rw [len_of S1 Nn1]
    refine XS.istoreN X0.here hx rfl (hb hby d_prog_53_method_6_code_2) rfl (l' := #[.val (.ref a1), .val (.double pp), .second, .val (.int (3 : Int32)), .unset, .unset, .unset, .unset, .unset, .unset, .unset]) rfl ?_
    refine XS.iloadN X0.here hx rfl (hb hby d_prog_53_method_6_code_3) rfl ?_
    show Steps p.tables e below (s₁.setTop (mkF m 4 #[.val (.ref a1), .val (.double pp), .second, .val (.int (3 : Int32)), .unset, .unset, .unset, .unset, .unset, .unset, .unset] [(.int (3 : Int32))])) _
    refine XS.iconst X0.here hx rfl (hb hby d_prog_53_method_6_code_4) ?_
    refine XS.iadd X0.here hx rfl (hb hby d_prog_53_method_6_code_5) rfl ?_
    refine XS.i2dS X0.here hx rfl (hb hby d_prog_53_method_6_code_6) rfl (v := (FP.i2d ((3 : Int32) + (1 : Int32)))) (rfl) ?_
    show Steps p.tables e below (s₁.setTop (mkF m 7 #[.val (.ref a1), .val (.double pp), .second, .val (.int (3 : Int32)), .unset, .unset, .unset, .unset, .unset, .unset, .unset] [(.double (FP.i2d ((3 : Int32) + (1 : Int32))))])) _
    refine XS.dloadN X0.here hx rfl (hb hby d_prog_53_method_6_code_7) rfl ?_
    refine XS.dmulS X0.here hx rfl (hb hby d_prog_53_method_6_code_8) rfl hn8 (v := (FP.dmul (FP.i2d ((3 : Int32) + (1 : Int32))) pp)) (rfl) ?_
    show Steps p.tables e below (s₁.setTop (mkF m 9 #[.val (.ref a1), .val (.double pp), .second, .val (.int (3 : Int32)), .unset, .unset, .unset, .unset, .unset, .unset, .unset] [(.double (FP.dmul (FP.i2d ((3 : Int32) + (1 : Int32))) pp))])) _
    refine X0.ldc2DoubleC hx hown (mvT hZ (hw _ (List.mem_of_getElem? (i := 13) rfl))) (g := (mkF m 9 #[.val (.ref a1), .val (.double pp), .second, .val (.int (3 : Int32)), .unset, .unset, .unset, .unset, .unset, .unset, .unset] [(.double (FP.dmul (FP.i2d ((3 : Int32) + (1 : Int32))) pp))])) rfl (hb hby d_prog_53_method_6_code_9) _ ?_
    refine XS.ddivS X0.here hx rfl (hb hby d_prog_53_method_6_code_12) rfl hn12 (v := ps) (hv12) ?_
    refine XS.dstore X0.here hx rfl (hb hby d_prog_53_method_6_code_13) rfl (l' := #[.val (.ref a1), .val (.double pp), .second, .val (.int (3 : Int32)), .val (.double ps), .second, .unset, .unset, .unset, .unset, .unset]) rfl ?_
    show Steps p.tables e below (s₁.setTop (mkF m 15 #[.val (.ref a1), .val (.double pp), .second, .val (.int (3 : Int32)), .val (.double ps), .second, .unset, .unset, .unset, .unset, .unset] [])) _
    refine XS.dload X0.here hx rfl (hb hby d_prog_53_method_6_code_15) rfl ?_
    refine XS.dconst1 X0.here hx rfl (hb hby d_prog_53_method_6_code_17) (v := (4607182418800017408 : UInt64)) rfl ?_
    refine XS.dcmpS X0.here hx rfl (hb hby d_prog_53_method_6_code_18) rfl (v := vA) (hvA) ?_
    show Steps p.tables e below (s₁.setTop (mkF m 19 #[.val (.ref a1), .val (.double pp), .second, .val (.int (3 : Int32)), .val (.double ps), .second, .unset, .unset, .unset, .unset, .unset] [(.int vA)])) _
    refine XS.ifYes X0.here hx rfl (pc0 := 19) (pc' := 30) rfl (hb hby d_prog_53_method_6_code_19) rfl ((if0 _ _).trans (flt (hcA : ¬ (vA < (0 : Int32)))).2.1) (by decide) (by decide) ?_
    refine XS.dload X0.here hx rfl (hb hby d_prog_53_method_6_code_30) rfl ?_
    refine XS.iloadN X0.here hx rfl (hb hby d_prog_53_method_6_code_32) rfl ?_
    show Steps p.tables e below (s₁.setTop (mkF m 33 #[.val (.ref a1), .val (.double pp), .second, .val (.int (3 : Int32)), .val (.double ps), .second, .unset, .unset, .unset, .unset, .unset] [(.int (3 : Int32)), (.double ps)])) _
    refine XS.i2dS X0.here hx rfl (hb hby d_prog_53_method_6_code_33) rfl (v := (FP.i2d (3 : Int32))) (rfl) ?_
    refine XS.dcmpS X0.here hx rfl (hb hby d_prog_53_method_6_code_34) rfl (v := vB) (hvB) ?_
    refine XS.ifYes X0.here hx rfl (pc0 := 35) (pc' := 48) rfl (hb hby d_prog_53_method_6_code_35) rfl ((if0 _ _).trans (tlt (hcB : vB < (0 : Int32))).1) (by decide) (by decide) ?_
    show Steps p.tables e below (s₁.setTop (mkF m 48 #[.val (.ref a1), .val (.double pp), .second, .val (.int (3 : Int32)), .val (.double ps), .second, .unset, .unset, .unset, .unset, .unset] [])) _
    refine XS.dload X0.here hx rfl (hb hby d_prog_53_method_6_code_48) rfl ?_
    refine XS.d2iS X0.here hx rfl (hb hby d_prog_53_method_6_code_50) rfl (v := bb) (hbb) ?_
    refine XS.istore X0.here hx rfl (hb hby d_prog_53_method_6_code_51) rfl (l' := #[.val (.ref a1), .val (.double pp), .second, .val (.int (3 : Int32)), .val (.double ps), .second, .unset, .unset, .val (.int bb), .unset, .unset]) rfl ?_
    show Steps p.tables e below (s₁.setTop (mkF m 53 #[.val (.ref a1), .val (.double pp), .second, .val (.int (3 : Int32)), .val (.double ps), .second, .unset, .unset, .val (.int bb), .unset, .unset] [])) _
    refine XS.dload X0.here hx rfl (hb hby d_prog_53_method_6_code_53) rfl ?_
    refine XS.iload X0.here hx rfl (hb hby d_prog_53_method_6_code_55) rfl ?_
    refine XS.i2dS X0.here hx rfl (hb hby d_prog_53_method_6_code_57) rfl (v := (FP.i2d bb)) (rfl) ?_
    show Steps p.tables e below (s₁.setTop (mkF m 58 #[.val (.ref a1), .val (.double pp), .second, .val (.int (3 : Int32)), .val (.double ps), .second, .unset, .unset, .val (.int bb), .unset, .unset] [(.double (FP.i2d bb)), (.double ps)])) _
    refine XS.dsubS X0.here hx rfl (hb hby d_prog_53_method_6_code_58) rfl hn58 (v := fr) (hfr) ?_
    refine XS.dstore X0.here hx rfl (hb hby d_prog_53_method_6_code_59) rfl (l' := #[.val (.ref a1), .val (.double pp), .second, .val (.int (3 : Int32)), .val (.double ps), .second, .unset, .unset, .val (.int bb), .val (.double fr), .second]) rfl ?_
    refine XS.aloadN X0.here hx rfl (hb hby d_prog_53_method_6_code_61) rfl rfl ?_
    show Steps p.tables e below (s₁.setTop (mkF m 62 #[.val (.ref a1), .val (.double pp), .second, .val (.int (3 : Int32)), .val (.double ps), .second, .unset, .unset, .val (.int bb), .val (.double fr), .second] [(.ref a1)])) _
    refine XS.iload X0.here hx rfl (hb hby d_prog_53_method_6_code_62) rfl ?_
    refine XS.iconst X0.here hx rfl (hb hby d_prog_53_method_6_code_64) ?_
    refine XS.isub X0.here hx rfl (hb hby d_prog_53_method_6_code_65) rfl ?_
    show Steps p.tables e below (s₁.setTop (mkF m 66 #[.val (.ref a1), .val (.double pp), .second, .val (.int (3 : Int32)), .val (.double ps), .second, .unset, .unset, .val (.int bb), .val (.double fr), .second] [(.int (bb - (1 : Int32))), (.ref a1)])) _
    rw [show (bb - (1 : Int32)) = b1 from hb1]
    show Steps p.tables e below (s₁.setTop (mkF m 66 #[.val (.ref a1), .val (.double pp), .second, .val (.int (3 : Int32)), .val (.double ps), .second, .unset, .unset, .val (.int bb), .val (.double fr), .second] [(.int b1), (.ref a1)])) _
    refine X0.daload hx (j := b1) (v := (.double (FP.l2d lo))) (by rw [e0]; exact Ar2.1) (State.isArrayOf_alike hZ.alike Ar2.2.1) Ar2.2.2 hin2 hat2 (g := (mkF m 66 #[.val (.ref a1), .val (.double pp), .second, .val (.int (3 : Int32)), .val (.double ps), .second, .unset, .unset, .val (.int bb), .val (.double fr), .second] [(.int b1), (.ref a1)])) rfl rfl (hb hby d_prog_53_method_6_code_66) _ ?_
    refine XS.dload X0.here hx rfl (hb hby d_prog_53_method_6_code_67) rfl ?_
    refine XS.aloadN X0.here hx rfl (hb hby d_prog_53_method_6_code_69) rfl rfl ?_
    show Steps p.tables e below (s₁.setTop (mkF m 70 #[.val (.ref a1), .val (.double pp), .second, .val (.int (3 : Int32)), .val (.double ps), .second, .unset, .unset, .val (.int bb), .val (.double fr), .second] [(.ref a1), (.double fr), (.double (FP.l2d lo))])) _
    refine XS.iload X0.here hx rfl (hb hby d_prog_53_method_6_code_70) rfl ?_
    show Steps p.tables e below (s₁.setTop (mkF m 72 #[.val (.ref a1), .val (.double pp), .second, .val (.int (3 : Int32)), .val (.double ps), .second, .unset, .unset, .val (.int bb), .val (.double fr), .second] [(.int bb), (.ref a1), (.double fr), (.double (FP.l2d lo))])) _
    refine X0.daload hx (j := bb) (v := (.double (FP.l2d hi))) (by rw [e0]; exact Ar3.1) (State.isArrayOf_alike hZ.alike Ar3.2.1) Ar3.2.2 hin3 hat3 (g := (mkF m 72 #[.val (.ref a1), .val (.double pp), .second, .val (.int (3 : Int32)), .val (.double ps), .second, .unset, .unset, .val (.int bb), .val (.double fr), .second] [(.int bb), (.ref a1), (.double fr), (.double (FP.l2d lo))])) rfl rfl (hb hby d_prog_53_method_6_code_72) _ ?_
    refine XS.aloadN X0.here hx rfl (hb hby d_prog_53_method_6_code_73) rfl rfl ?_
    refine XS.iload X0.here hx rfl (hb hby d_prog_53_method_6_code_74) rfl ?_
    show Steps p.tables e below (s₁.setTop (mkF m 76 #[.val (.ref a1), .val (.double pp), .second, .val (.int (3 : Int32)), .val (.double ps), .second, .unset, .unset, .val (.int bb), .val (.double fr), .second] [(.int bb), (.ref a1), (.double (FP.l2d hi)), (.double fr), (.double (FP.l2d lo))])) _
    refine XS.iconst X0.here hx rfl (hb hby d_prog_53_method_6_code_76) ?_
    refine XS.isub X0.here hx rfl (hb hby d_prog_53_method_6_code_77) rfl ?_
    show Steps p.tables e below (s₁.setTop (mkF m 78 #[.val (.ref a1), .val (.double pp), .second, .val (.int (3 : Int32)), .val (.double ps), .second, .unset, .unset, .val (.int bb), .val (.double fr), .second] [(.int (bb - (1 : Int32))), (.ref a1), (.double (FP.l2d hi)), (.double fr), (.double (FP.l2d lo))])) _
    rw [show (bb - (1 : Int32)) = b1 from hb1]
    show Steps p.tables e below (s₁.setTop (mkF m 78 #[.val (.ref a1), .val (.double pp), .second, .val (.int (3 : Int32)), .val (.double ps), .second, .unset, .unset, .val (.int bb), .val (.double fr), .second] [(.int b1), (.ref a1), (.double (FP.l2d hi)), (.double fr), (.double (FP.l2d lo))])) _
    refine X0.daload hx (j := b1) (v := (.double (FP.l2d lo))) (by rw [e0]; exact Ar4.1) (State.isArrayOf_alike hZ.alike Ar4.2.1) Ar4.2.2 hin4 hat4 (g := (mkF m 78 #[.val (.ref a1), .val (.double pp), .second, .val (.int (3 : Int32)), .val (.double ps), .second, .unset, .unset, .val (.int bb), .val (.double fr), .second] [(.int b1), (.ref a1), (.double (FP.l2d hi)), (.double fr), (.double (FP.l2d lo))])) rfl rfl (hb hby d_prog_53_method_6_code_78) _ ?_
    refine XS.dsubS X0.here hx rfl (hb hby d_prog_53_method_6_code_79) rfl hn79 (v := (FP.dsub (FP.l2d hi) (FP.l2d lo))) (rfl) ?_
    refine XS.dmulS X0.here hx rfl (hb hby d_prog_53_method_6_code_80) rfl hn80 (v := (FP.dmul fr (FP.dsub (FP.l2d hi) (FP.l2d lo)))) (rfl) ?_
    show Steps p.tables e below (s₁.setTop (mkF m 81 #[.val (.ref a1), .val (.double pp), .second, .val (.int (3 : Int32)), .val (.double ps), .second, .unset, .unset, .val (.int bb), .val (.double fr), .second] [(.double (FP.dmul fr (FP.dsub (FP.l2d hi) (FP.l2d lo)))), (.double (FP.l2d lo))])) _
    refine XS.daddS X0.here hx rfl (hb hby d_prog_53_method_6_code_81) rfl hn81 (v := (FP.dadd (FP.l2d lo) (FP.dmul fr (FP.dsub (FP.l2d hi) (FP.l2d lo))))) (rfl) ?_
    refine XS.dstore X0.here hx rfl (hb hby d_prog_53_method_6_code_82) rfl (l' := #[.val (.ref a1), .val (.double pp), .second, .val (.int (3 : Int32)), .val (.double ps), .second, .val (.double (FP.dadd (FP.l2d lo) (FP.dmul fr (FP.dsub (FP.l2d hi) (FP.l2d lo))))), .second, .val (.int bb), .val (.double fr), .second]) rfl ?_
    refine XS.dload X0.here hx rfl (hb hby d_prog_53_method_6_code_84) rfl ?_
    show Steps p.tables e below (s₁.setTop (mkF m 86 #[.val (.ref a1), .val (.double pp), .second, .val (.int (3 : Int32)), .val (.double ps), .second, .val (.double (FP.dadd (FP.l2d lo) (FP.dmul fr (FP.dsub (FP.l2d hi) (FP.l2d lo))))), .second, .val (.int bb), .val (.double fr), .second] [(.double (FP.dadd (FP.l2d lo) (FP.dmul fr (FP.dsub (FP.l2d hi) (FP.l2d lo)))))])) _
    exact retOut X0 hx (t := .double) Bd.returns rfl (Or.inr (Or.inr (Or.inl ⟨rfl, rfl, _, rfl⟩))) (hb hby d_prog_53_method_6_code_86) hr
  · show QD (FP.dadd (FP.l2d lo) (FP.dmul fr (FP.dsub (FP.l2d hi) (FP.l2d lo)))) h0 n0 _ s₁.heap _
    rw [e0]
    exact ⟨rfl, N0, rfl⟩
set_option maxRecDepth 65536 in
set_option maxHeartbeats 40000000 in
theorem rmPa4 (l : Launch) (Z : State) (a0 : Array Value) (hw : ∀ d ∈ tables_1, d.before a0 Z = true) (ws : List Jvm.Cond) (a1 : Addr) (kA : ClassId) (s0 s1 s2 s3 s4 s5 s6 s7 s8 : Int64) (pp ps : UInt64) (h0 : Heap) (n0 : Nat) (Z0 : n0 ≤ h0.size) (V_a1 : Arv Z h0 a1 kA .double (4 : Int32) [(.double (FP.l2d s0)), (.double (FP.l2d s1)), (.double (FP.l2d s2)), (.double (FP.l2d s3))] (.double (0 : UInt64))) (hn8 : Jvm.Free.Fl.NoNaN64 (FP.dmul (FP.i2d ((4 : Int32) + (1 : Int32))) pp)) (hn12 : Jvm.Free.Fl.NoNaN64 (FP.ddiv (FP.dmul (FP.i2d ((4 : Int32) + (1 : Int32))) pp) (4636737291354636288 : UInt64))) (hv12 : FP.ddiv (FP.dmul (FP.i2d ((4 : Int32) + (1 : Int32))) pp) (4636737291354636288 : UInt64) = ps) (vA : Int32) (hvA : cmpValue (FP.dcmp ps (4607182418800017408 : UInt64)) .g = vA) (hcA : vA < (0 : Int32))  :
    MetFree l (⟨"com/example/bytegauge/bytegauge/stats/JsonTable", "percentile", "([DD)D"⟩ : MethodName) (head1 (Jvm.Cond.code (⟨"com/example/bytegauge/bytegauge/stats/JsonTable", "percentile", "([DD)D"⟩ : MethodName) prog_53_method_6_code 11 (some .double) :: ws) ({ frames := 0, cells := 0, slots := 0, locals := 0 } : Room)) (fun a U => a = #[(.ref a1), (.double pp)] ∧ Z.Warmed39 U.vm ∧ U.heap = h0) (fun _ _ _ _ _ => True) (fun _ U o U' => ∃ v L, o = .returned v ∧ QD (FP.l2d s0) h0 n0 v U'.heap L ∧ FrameEnd U o U' L ({ frames := 0, cells := 0, slots := 0, locals := 0 } : Room).cells ({ frames := 0, cells := 0, slots := 0, locals := 0 } : Room).slots) := by
  refine MetFree.of_bodySF (plainFor_of_name pn_com_example_bytegauge_bytegauge_stats_JsonTable) hisR ?_
  intro p e s m args below meth c s₁ Bd hml0 hP hK
  obtain ⟨rfl, hZ, hh⟩ := hP
  have hx := Bd.exec
  have hby := Bd.bytes
  have hml : c.maxLocals = 11 := hml0
  have hown : s.vm.findClass "com/example/bytegauge/bytegauge/stats/JsonTable" = some m.cls := findClass_of_methodNamed Bd.named
  have hnm := (name_of_methodNamed Bd.named Bd.method).1
  have X0 : Stand p l e ({ frames := 0, cells := 0, slots := 0, locals := 0 } : Room) s m #[(.ref a1), (.double pp)] below meth c s₁ [] 0 0 := Stand.of_body Bd
  have e0 : s₁.heap = h0 := by rw [← hh, Bd.state]; rfl
  have N0 := Fr.nil n0
  have pre0 : ∀ t, Steps p.tables e below (s₁.setTop (mkF m 0 #[.val (.ref a1), .val (.double pp), .second, .unset, .unset, .unset, .unset, .unset, .unset, .unset, .unset] [])) t → Steps p.tables e below (s₁.setTop (entryFrame m #[(.ref a1), (.double pp)] 11)) t := fun t k => castTop (ef_prog_53_method_6_code m a1 pp) k
  obtain ⟨cl1, Ar1, -, S1, Nn1, -, -⟩ := id V_a1
  obtain ⟨cl2, Ar2, -, S2, Nn2, H2, -⟩ := id V_a1
  have hin2 : ¬ ((0 : Int32) < 0 ∨ cl2.slots.size ≤ ((0 : Int32)).toNatClampNeg) := inb_of S2 ⟨by decide, by decide⟩
  have hat2 : cl2.slots[((0 : Int32)).toNatClampNeg]? = some (.double (FP.l2d s0)) := H2.at hin2 rfl
  obtain ⟨fs, hr, hrun, hended, hW, hsame⟩ := X0.leave (v := some (.double (FP.l2d s0))) (fun h => by rw [Bd.returns] at h; cases h)
  refine ⟨_, _, pre0 _ ?_, hrun, hended, _, _, rfl, ?_, ⟨_, rfl⟩, hW, hsame.mono (by decide) (by decide)⟩
  · show Steps p.tables e below (s₁.setTop (mkF m 0 #[.val (.ref a1), .val (.double pp), .second, .unset, .unset, .unset, .unset, .unset, .unset, .unset, .unset] [])) _
    refine XS.aloadN X0.here hx rfl (hb hby d_prog_53_method_6_code_0) rfl rfl ?_
    show Steps p.tables e below (s₁.setTop (mkF m 1 #[.val (.ref a1), .val (.double pp), .second, .unset, .unset, .unset, .unset, .unset, .unset, .unset, .unset] [(.ref a1)])) _
    refine X0.arraylength hx (by rw [e0]; exact Ar1.1) (State.isArrayOf_alike hZ.alike Ar1.2.1) (g := (mkF m 1 #[.val (.ref a1), .val (.double pp), .second, .unset, .unset, .unset, .unset, .unset, .unset, .unset, .unset] [(.ref a1)])) rfl rfl (hb hby d_prog_53_method_6_code_1) _ ?_
    rw [len_of S1 Nn1]
    refine XS.istoreN X0.here hx rfl (hb hby d_prog_53_method_6_code_2) rfl (l' := #[.val (.ref a1), .val (.double pp), .second, .val (.int (4 : Int32)), .unset, .unset, .unset, .unset, .unset, .unset, .unset]) rfl ?_
    refine XS.iloadN X0.here hx rfl (hb hby d_prog_53_method_6_code_3) rfl ?_
    show Steps p.tables e below (s₁.setTop (mkF m 4 #[.val (.ref a1), .val (.double pp), .second, .val (.int (4 : Int32)), .unset, .unset, .unset, .unset, .unset, .unset, .unset] [(.int (4 : Int32))])) _
    refine XS.iconst X0.here hx rfl (hb hby d_prog_53_method_6_code_4) ?_
    refine XS.iadd X0.here hx rfl (hb hby d_prog_53_method_6_code_5) rfl ?_
    refine XS.i2dS X0.here hx rfl (hb hby d_prog_53_method_6_code_6) rfl (v := (FP.i2d ((4 : Int32) + (1 : Int32)))) (rfl) ?_
    show Steps p.tables e below (s₁.setTop (mkF m 7 #[.val (.ref a1), .val (.double pp), .second, .val (.int (4 : Int32)), .unset, .unset, .unset, .unset, .unset, .unset, .unset] [(.double (FP.i2d ((4 : Int32) + (1 : Int32))))])) _
    refine XS.dloadN X0.here hx rfl (hb hby d_prog_53_method_6_code_7) rfl ?_
    refine XS.dmulS X0.here hx rfl (hb hby d_prog_53_method_6_code_8) rfl hn8 (v := (FP.dmul (FP.i2d ((4 : Int32) + (1 : Int32))) pp)) (rfl) ?_
    show Steps p.tables e below (s₁.setTop (mkF m 9 #[.val (.ref a1), .val (.double pp), .second, .val (.int (4 : Int32)), .unset, .unset, .unset, .unset, .unset, .unset, .unset] [(.double (FP.dmul (FP.i2d ((4 : Int32) + (1 : Int32))) pp))])) _
    refine X0.ldc2DoubleC hx hown (mvT hZ (hw _ (List.mem_of_getElem? (i := 13) rfl))) (g := (mkF m 9 #[.val (.ref a1), .val (.double pp), .second, .val (.int (4 : Int32)), .unset, .unset, .unset, .unset, .unset, .unset, .unset] [(.double (FP.dmul (FP.i2d ((4 : Int32) + (1 : Int32))) pp))])) rfl (hb hby d_prog_53_method_6_code_9) _ ?_
    refine XS.ddivS X0.here hx rfl (hb hby d_prog_53_method_6_code_12) rfl hn12 (v := ps) (hv12) ?_
    refine XS.dstore X0.here hx rfl (hb hby d_prog_53_method_6_code_13) rfl (l' := #[.val (.ref a1), .val (.double pp), .second, .val (.int (4 : Int32)), .val (.double ps), .second, .unset, .unset, .unset, .unset, .unset]) rfl ?_
    show Steps p.tables e below (s₁.setTop (mkF m 15 #[.val (.ref a1), .val (.double pp), .second, .val (.int (4 : Int32)), .val (.double ps), .second, .unset, .unset, .unset, .unset, .unset] [])) _
    refine XS.dload X0.here hx rfl (hb hby d_prog_53_method_6_code_15) rfl ?_
    refine XS.dconst1 X0.here hx rfl (hb hby d_prog_53_method_6_code_17) (v := (4607182418800017408 : UInt64)) rfl ?_
    refine XS.dcmpS X0.here hx rfl (hb hby d_prog_53_method_6_code_18) rfl (v := vA) (hvA) ?_
    show Steps p.tables e below (s₁.setTop (mkF m 19 #[.val (.ref a1), .val (.double pp), .second, .val (.int (4 : Int32)), .val (.double ps), .second, .unset, .unset, .unset, .unset, .unset] [(.int vA)])) _
    refine XS.ifNo X0.here hx rfl (hb hby d_prog_53_method_6_code_19) rfl ((if0 _ _).trans (tlt (hcA : vA < (0 : Int32))).2.1) ?_
    refine XS.aloadN X0.here hx rfl (hb hby d_prog_53_method_6_code_22) rfl rfl ?_
    refine XS.iconst X0.here hx rfl (hb hby d_prog_53_method_6_code_23) ?_
    show Steps p.tables e below (s₁.setTop (mkF m 24 #[.val (.ref a1), .val (.double pp), .second, .val (.int (4 : Int32)), .val (.double ps), .second, .unset, .unset, .unset, .unset, .unset] [(.int (0 : Int32)), (.ref a1)])) _
    refine X0.daload hx (j := (0 : Int32)) (v := (.double (FP.l2d s0))) (by rw [e0]; exact Ar2.1) (State.isArrayOf_alike hZ.alike Ar2.2.1) Ar2.2.2 hin2 hat2 (g := (mkF m 24 #[.val (.ref a1), .val (.double pp), .second, .val (.int (4 : Int32)), .val (.double ps), .second, .unset, .unset, .unset, .unset, .unset] [(.int (0 : Int32)), (.ref a1)])) rfl rfl (hb hby d_prog_53_method_6_code_24) _ ?_
    refine XS.dstore X0.here hx rfl (hb hby d_prog_53_method_6_code_25) rfl (l' := #[.val (.ref a1), .val (.double pp), .second, .val (.int (4 : Int32)), .val (.double ps), .second, .val (.double (FP.l2d s0)), .second, .unset, .unset, .unset]) rfl ?_
    refine XS.goto X0.here hx rfl (pc0 := 27) (pc' := 84) rfl (hb hby d_prog_53_method_6_code_27) (by decide) (by decide) ?_
    show Steps p.tables e below (s₁.setTop (mkF m 84 #[.val (.ref a1), .val (.double pp), .second, .val (.int (4 : Int32)), .val (.double ps), .second, .val (.double (FP.l2d s0)), .second, .unset, .unset, .unset] [])) _
    refine XS.dload X0.here hx rfl (hb hby d_prog_53_method_6_code_84) rfl ?_
    show Steps p.tables e below (s₁.setTop (mkF m 86 #[.val (.ref a1), .val (.double pp), .second, .val (.int (4 : Int32)), .val (.double ps), .second, .val (.double (FP.l2d s0)), .second, .unset, .unset, .unset] [(.double (FP.l2d s0))])) _
    exact retOut X0 hx (t := .double) Bd.returns rfl (Or.inr (Or.inr (Or.inl ⟨rfl, rfl, _, rfl⟩))) (hb hby d_prog_53_method_6_code_86) hr
  · show QD (FP.l2d s0) h0 n0 _ s₁.heap _
    rw [e0]
    exact ⟨rfl, N0, rfl⟩
set_option maxRecDepth 65536 in
set_option maxHeartbeats 40000000 in
theorem rmPb4 (l : Launch) (Z : State) (a0 : Array Value) (hw : ∀ d ∈ tables_1, d.before a0 Z = true) (ws : List Jvm.Cond) (a1 : Addr) (kA : ClassId) (s0 s1 s2 s3 s4 s5 s6 s7 s8 : Int64) (pp ps : UInt64) (h0 : Heap) (n0 : Nat) (Z0 : n0 ≤ h0.size) (V_a1 : Arv Z h0 a1 kA .double (4 : Int32) [(.double (FP.l2d s0)), (.double (FP.l2d s1)), (.double (FP.l2d s2)), (.double (FP.l2d s3))] (.double (0 : UInt64))) (hn8 : Jvm.Free.Fl.NoNaN64 (FP.dmul (FP.i2d ((4 : Int32) + (1 : Int32))) pp)) (hn12 : Jvm.Free.Fl.NoNaN64 (FP.ddiv (FP.dmul (FP.i2d ((4 : Int32) + (1 : Int32))) pp) (4636737291354636288 : UInt64))) (hv12 : FP.ddiv (FP.dmul (FP.i2d ((4 : Int32) + (1 : Int32))) pp) (4636737291354636288 : UInt64) = ps) (vA : Int32) (hvA : cmpValue (FP.dcmp ps (4607182418800017408 : UInt64)) .g = vA) (vB : Int32) (hvB : cmpValue (FP.dcmp ps (FP.i2d (4 : Int32))) .l = vB) (hcA : ¬ vA < (0 : Int32)) (hcB : ¬ vB < (0 : Int32))  :
    MetFree l (⟨"com/example/bytegauge/bytegauge/stats/JsonTable", "percentile", "([DD)D"⟩ : MethodName) (head1 (Jvm.Cond.code (⟨"com/example/bytegauge/bytegauge/stats/JsonTable", "percentile", "([DD)D"⟩ : MethodName) prog_53_method_6_code 11 (some .double) :: ws) ({ frames := 0, cells := 0, slots := 0, locals := 0 } : Room)) (fun a U => a = #[(.ref a1), (.double pp)] ∧ Z.Warmed39 U.vm ∧ U.heap = h0) (fun _ _ _ _ _ => True) (fun _ U o U' => ∃ v L, o = .returned v ∧ QD (FP.l2d s3) h0 n0 v U'.heap L ∧ FrameEnd U o U' L ({ frames := 0, cells := 0, slots := 0, locals := 0 } : Room).cells ({ frames := 0, cells := 0, slots := 0, locals := 0 } : Room).slots) := by
  refine MetFree.of_bodySF (plainFor_of_name pn_com_example_bytegauge_bytegauge_stats_JsonTable) hisR ?_
  intro p e s m args below meth c s₁ Bd hml0 hP hK
  obtain ⟨rfl, hZ, hh⟩ := hP
  have hx := Bd.exec
  have hby := Bd.bytes
  have hml : c.maxLocals = 11 := hml0
  have hown : s.vm.findClass "com/example/bytegauge/bytegauge/stats/JsonTable" = some m.cls := findClass_of_methodNamed Bd.named
  have hnm := (name_of_methodNamed Bd.named Bd.method).1
  have X0 : Stand p l e ({ frames := 0, cells := 0, slots := 0, locals := 0 } : Room) s m #[(.ref a1), (.double pp)] below meth c s₁ [] 0 0 := Stand.of_body Bd
  have e0 : s₁.heap = h0 := by rw [← hh, Bd.state]; rfl
  have N0 := Fr.nil n0
  have pre0 : ∀ t, Steps p.tables e below (s₁.setTop (mkF m 0 #[.val (.ref a1), .val (.double pp), .second, .unset, .unset, .unset, .unset, .unset, .unset, .unset, .unset] [])) t → Steps p.tables e below (s₁.setTop (entryFrame m #[(.ref a1), (.double pp)] 11)) t := fun t k => castTop (ef_prog_53_method_6_code m a1 pp) k
  obtain ⟨cl1, Ar1, -, S1, Nn1, -, -⟩ := id V_a1
  obtain ⟨cl2, Ar2, -, S2, Nn2, H2, -⟩ := id V_a1
  have hin2 : ¬ ((3 : Int32) < 0 ∨ cl2.slots.size ≤ ((3 : Int32)).toNatClampNeg) := inb_of S2 ⟨by decide, by decide⟩
  have hat2 : cl2.slots[((3 : Int32)).toNatClampNeg]? = some (.double (FP.l2d s3)) := H2.at hin2 rfl
  obtain ⟨fs, hr, hrun, hended, hW, hsame⟩ := X0.leave (v := some (.double (FP.l2d s3))) (fun h => by rw [Bd.returns] at h; cases h)
  refine ⟨_, _, pre0 _ ?_, hrun, hended, _, _, rfl, ?_, ⟨_, rfl⟩, hW, hsame.mono (by decide) (by decide)⟩
  · show Steps p.tables e below (s₁.setTop (mkF m 0 #[.val (.ref a1), .val (.double pp), .second, .unset, .unset, .unset, .unset, .unset, .unset, .unset, .unset] [])) _
    refine XS.aloadN X0.here hx rfl (hb hby d_prog_53_method_6_code_0) rfl rfl ?_
    show Steps p.tables e below (s₁.setTop (mkF m 1 #[.val (.ref a1), .val (.double pp), .second, .unset, .unset, .unset, .unset, .unset, .unset, .unset, .unset] [(.ref a1)])) _
    refine X0.arraylength hx (by rw [e0]; exact Ar1.1) (State.isArrayOf_alike hZ.alike Ar1.2.1) (g := (mkF m 1 #[.val (.ref a1), .val (.double pp), .second, .unset, .unset, .unset, .unset, .unset, .unset, .unset, .unset] [(.ref a1)])) rfl rfl (hb hby d_prog_53_method_6_code_1) _ ?_
    rw [len_of S1 Nn1]
    refine XS.istoreN X0.here hx rfl (hb hby d_prog_53_method_6_code_2) rfl (l' := #[.val (.ref a1), .val (.double pp), .second, .val (.int (4 : Int32)), .unset, .unset, .unset, .unset, .unset, .unset, .unset]) rfl ?_
    refine XS.iloadN X0.here hx rfl (hb hby d_prog_53_method_6_code_3) rfl ?_
    show Steps p.tables e below (s₁.setTop (mkF m 4 #[.val (.ref a1), .val (.double pp), .second, .val (.int (4 : Int32)), .unset, .unset, .unset, .unset, .unset, .unset, .unset] [(.int (4 : Int32))])) _
    refine XS.iconst X0.here hx rfl (hb hby d_prog_53_method_6_code_4) ?_
    refine XS.iadd X0.here hx rfl (hb hby d_prog_53_method_6_code_5) rfl ?_
    refine XS.i2dS X0.here hx rfl (hb hby d_prog_53_method_6_code_6) rfl (v := (FP.i2d ((4 : Int32) + (1 : Int32)))) (rfl) ?_
    show Steps p.tables e below (s₁.setTop (mkF m 7 #[.val (.ref a1), .val (.double pp), .second, .val (.int (4 : Int32)), .unset, .unset, .unset, .unset, .unset, .unset, .unset] [(.double (FP.i2d ((4 : Int32) + (1 : Int32))))])) _
    refine XS.dloadN X0.here hx rfl (hb hby d_prog_53_method_6_code_7) rfl ?_
    refine XS.dmulS X0.here hx rfl (hb hby d_prog_53_method_6_code_8) rfl hn8 (v := (FP.dmul (FP.i2d ((4 : Int32) + (1 : Int32))) pp)) (rfl) ?_
    show Steps p.tables e below (s₁.setTop (mkF m 9 #[.val (.ref a1), .val (.double pp), .second, .val (.int (4 : Int32)), .unset, .unset, .unset, .unset, .unset, .unset, .unset] [(.double (FP.dmul (FP.i2d ((4 : Int32) + (1 : Int32))) pp))])) _
    refine X0.ldc2DoubleC hx hown (mvT hZ (hw _ (List.mem_of_getElem? (i := 13) rfl))) (g := (mkF m 9 #[.val (.ref a1), .val (.double pp), .second, .val (.int (4 : Int32)), .unset, .unset, .unset, .unset, .unset, .unset, .unset] [(.double (FP.dmul (FP.i2d ((4 : Int32) + (1 : Int32))) pp))])) rfl (hb hby d_prog_53_method_6_code_9) _ ?_
    refine XS.ddivS X0.here hx rfl (hb hby d_prog_53_method_6_code_12) rfl hn12 (v := ps) (hv12) ?_
    refine XS.dstore X0.here hx rfl (hb hby d_prog_53_method_6_code_13) rfl (l' := #[.val (.ref a1), .val (.double pp), .second, .val (.int (4 : Int32)), .val (.double ps), .second, .unset, .unset, .unset, .unset, .unset]) rfl ?_
    show Steps p.tables e below (s₁.setTop (mkF m 15 #[.val (.ref a1), .val (.double pp), .second, .val (.int (4 : Int32)), .val (.double ps), .second, .unset, .unset, .unset, .unset, .unset] [])) _
    refine XS.dload X0.here hx rfl (hb hby d_prog_53_method_6_code_15) rfl ?_
    refine XS.dconst1 X0.here hx rfl (hb hby d_prog_53_method_6_code_17) (v := (4607182418800017408 : UInt64)) rfl ?_
    refine XS.dcmpS X0.here hx rfl (hb hby d_prog_53_method_6_code_18) rfl (v := vA) (hvA) ?_
    show Steps p.tables e below (s₁.setTop (mkF m 19 #[.val (.ref a1), .val (.double pp), .second, .val (.int (4 : Int32)), .val (.double ps), .second, .unset, .unset, .unset, .unset, .unset] [(.int vA)])) _
    refine XS.ifYes X0.here hx rfl (pc0 := 19) (pc' := 30) rfl (hb hby d_prog_53_method_6_code_19) rfl ((if0 _ _).trans (flt (hcA : ¬ (vA < (0 : Int32)))).2.1) (by decide) (by decide) ?_
    refine XS.dload X0.here hx rfl (hb hby d_prog_53_method_6_code_30) rfl ?_
    refine XS.iloadN X0.here hx rfl (hb hby d_prog_53_method_6_code_32) rfl ?_
    show Steps p.tables e below (s₁.setTop (mkF m 33 #[.val (.ref a1), .val (.double pp), .second, .val (.int (4 : Int32)), .val (.double ps), .second, .unset, .unset, .unset, .unset, .unset] [(.int (4 : Int32)), (.double ps)])) _
    refine XS.i2dS X0.here hx rfl (hb hby d_prog_53_method_6_code_33) rfl (v := (FP.i2d (4 : Int32))) (rfl) ?_
    refine XS.dcmpS X0.here hx rfl (hb hby d_prog_53_method_6_code_34) rfl (v := vB) (hvB) ?_
    refine XS.ifNo X0.here hx rfl (hb hby d_prog_53_method_6_code_35) rfl ((if0 _ _).trans (flt (hcB : ¬ (vB < (0 : Int32)))).1) ?_
    show Steps p.tables e below (s₁.setTop (mkF m 38 #[.val (.ref a1), .val (.double pp), .second, .val (.int (4 : Int32)), .val (.double ps), .second, .unset, .unset, .unset, .unset, .unset] [])) _
    refine XS.aloadN X0.here hx rfl (hb hby d_prog_53_method_6_code_38) rfl rfl ?_
    refine XS.iloadN X0.here hx rfl (hb hby d_prog_53_method_6_code_39) rfl ?_
    refine XS.iconst X0.here hx rfl (hb hby d_prog_53_method_6_code_40) ?_
    show Steps p.tables e below (s₁.setTop (mkF m 41 #[.val (.ref a1), .val (.double pp), .second, .val (.int (4 : Int32)), .val (.double ps), .second, .unset, .unset, .unset, .unset, .unset] [(.int (1 : Int32)), (.int (4 : Int32)), (.ref a1)])) _
    refine XS.isub X0.here hx rfl (hb hby d_prog_53_method_6_code_41) rfl ?_
    show Steps p.tables e below (s₁.setTop (mkF m 42 #[.val (.ref a1), .val (.double pp), .second, .val (.int (4 : Int32)), .val (.double ps), .second, .unset, .unset, .unset, .unset, .unset] [(.int ((4 : Int32) - (1 : Int32))), (.ref a1)])) _
    rw [show ((4 : Int32) - (1 : Int32)) = (3 : Int32) from (by decide)]
    show Steps p.tables e below (s₁.setTop (mkF m 42 #[.val (.ref a1), .val (.double pp), .second, .val (.int (4 : Int32)), .val (.double ps), .second, .unset, .unset, .unset, .unset, .unset] [(.int (3 : Int32)), (.ref a1)])) _
    refine X0.daload hx (j := (3 : Int32)) (v := (.double (FP.l2d s3))) (by rw [e0]; exact Ar2.1) (State.isArrayOf_alike hZ.alike Ar2.2.1) Ar2.2.2 hin2 hat2 (g := (mkF m 42 #[.val (.ref a1), .val (.double pp), .second, .val (.int (4 : Int32)), .val (.double ps), .second, .unset, .unset, .unset, .unset, .unset] [(.int (3 : Int32)), (.ref a1)])) rfl rfl (hb hby d_prog_53_method_6_code_42) _ ?_
    refine XS.dstore X0.here hx rfl (hb hby d_prog_53_method_6_code_43) rfl (l' := #[.val (.ref a1), .val (.double pp), .second, .val (.int (4 : Int32)), .val (.double ps), .second, .val (.double (FP.l2d s3)), .second, .unset, .unset, .unset]) rfl ?_
    refine XS.goto X0.here hx rfl (pc0 := 45) (pc' := 84) rfl (hb hby d_prog_53_method_6_code_45) (by decide) (by decide) ?_
    show Steps p.tables e below (s₁.setTop (mkF m 84 #[.val (.ref a1), .val (.double pp), .second, .val (.int (4 : Int32)), .val (.double ps), .second, .val (.double (FP.l2d s3)), .second, .unset, .unset, .unset] [])) _
    refine XS.dload X0.here hx rfl (hb hby d_prog_53_method_6_code_84) rfl ?_
    show Steps p.tables e below (s₁.setTop (mkF m 86 #[.val (.ref a1), .val (.double pp), .second, .val (.int (4 : Int32)), .val (.double ps), .second, .val (.double (FP.l2d s3)), .second, .unset, .unset, .unset] [(.double (FP.l2d s3))])) _
    exact retOut X0 hx (t := .double) Bd.returns rfl (Or.inr (Or.inr (Or.inl ⟨rfl, rfl, _, rfl⟩))) (hb hby d_prog_53_method_6_code_86) hr
  · show QD (FP.l2d s3) h0 n0 _ s₁.heap _
    rw [e0]
    exact ⟨rfl, N0, rfl⟩
set_option maxRecDepth 65536 in
set_option maxHeartbeats 40000000 in
theorem rmPc4 (l : Launch) (Z : State) (a0 : Array Value) (hw : ∀ d ∈ tables_1, d.before a0 Z = true) (ws : List Jvm.Cond) (a1 : Addr) (kA : ClassId) (s0 s1 s2 s3 s4 s5 s6 s7 s8 : Int64) (pp ps : UInt64) (fr : UInt64) (lo hi : Int64) (bb b1 : Int32) (h0 : Heap) (n0 : Nat) (Z0 : n0 ≤ h0.size) (V_a1 : Arv Z h0 a1 kA .double (4 : Int32) [(.double (FP.l2d s0)), (.double (FP.l2d s1)), (.double (FP.l2d s2)), (.double (FP.l2d s3))] (.double (0 : UInt64))) (hn8 : Jvm.Free.Fl.NoNaN64 (FP.dmul (FP.i2d ((4 : Int32) + (1 : Int32))) pp)) (hn12 : Jvm.Free.Fl.NoNaN64 (FP.ddiv (FP.dmul (FP.i2d ((4 : Int32) + (1 : Int32))) pp) (4636737291354636288 : UInt64))) (hv12 : FP.ddiv (FP.dmul (FP.i2d ((4 : Int32) + (1 : Int32))) pp) (4636737291354636288 : UInt64) = ps) (vA : Int32) (hvA : cmpValue (FP.dcmp ps (4607182418800017408 : UInt64)) .g = vA) (vB : Int32) (hvB : cmpValue (FP.dcmp ps (FP.i2d (4 : Int32))) .l = vB) (hcA : ¬ vA < (0 : Int32)) (hcB : vB < (0 : Int32)) (hbb : FP.d2i ps = bb) (hn58 : Jvm.Free.Fl.NoNaN64 (FP.dsub ps (FP.i2d bb))) (hfr : FP.dsub ps (FP.i2d bb) = fr) (hb1 : bb - (1 : Int32) = b1) (hi1 : ¬ b1 < 0 ∧ b1 < (4 : Int32)) (hi2 : ¬ bb < 0 ∧ bb < (4 : Int32)) (ht1 : ([(.double (FP.l2d s0)), (.double (FP.l2d s1)), (.double (FP.l2d s2)), (.double (FP.l2d s3))] : List Value).getD b1.toNatClampNeg (.double (0 : UInt64)) = (.double (FP.l2d lo))) (ht2 : ([(.double (FP.l2d s0)), (.double (FP.l2d s1)), (.double (FP.l2d s2)), (.double (FP.l2d s3))] : List Value).getD bb.toNatClampNeg (.double (0 : UInt64)) = (.double (FP.l2d hi))) (hn79 : Jvm.Free.Fl.NoNaN64 (FP.dsub (FP.l2d hi) (FP.l2d lo))) (hn80 : Jvm.Free.Fl.NoNaN64 (FP.dmul fr (FP.dsub (FP.l2d hi) (FP.l2d lo)))) (hn81 : Jvm.Free.Fl.NoNaN64 (FP.dadd (FP.l2d lo) (FP.dmul fr (FP.dsub (FP.l2d hi) (FP.l2d lo)))))  :
    MetFree l (⟨"com/example/bytegauge/bytegauge/stats/JsonTable", "percentile", "([DD)D"⟩ : MethodName) (head1 (Jvm.Cond.code (⟨"com/example/bytegauge/bytegauge/stats/JsonTable", "percentile", "([DD)D"⟩ : MethodName) prog_53_method_6_code 11 (some .double) :: ws) ({ frames := 0, cells := 0, slots := 0, locals := 0 } : Room)) (fun a U => a = #[(.ref a1), (.double pp)] ∧ Z.Warmed39 U.vm ∧ U.heap = h0) (fun _ _ _ _ _ => True) (fun _ U o U' => ∃ v L, o = .returned v ∧ QD (FP.dadd (FP.l2d lo) (FP.dmul fr (FP.dsub (FP.l2d hi) (FP.l2d lo)))) h0 n0 v U'.heap L ∧ FrameEnd U o U' L ({ frames := 0, cells := 0, slots := 0, locals := 0 } : Room).cells ({ frames := 0, cells := 0, slots := 0, locals := 0 } : Room).slots) := by
  refine MetFree.of_bodySF (plainFor_of_name pn_com_example_bytegauge_bytegauge_stats_JsonTable) hisR ?_
  intro p e s m args below meth c s₁ Bd hml0 hP hK
  obtain ⟨rfl, hZ, hh⟩ := hP
  have hx := Bd.exec
  have hby := Bd.bytes
  have hml : c.maxLocals = 11 := hml0
  have hown : s.vm.findClass "com/example/bytegauge/bytegauge/stats/JsonTable" = some m.cls := findClass_of_methodNamed Bd.named
  have hnm := (name_of_methodNamed Bd.named Bd.method).1
  have X0 : Stand p l e ({ frames := 0, cells := 0, slots := 0, locals := 0 } : Room) s m #[(.ref a1), (.double pp)] below meth c s₁ [] 0 0 := Stand.of_body Bd
  have e0 : s₁.heap = h0 := by rw [← hh, Bd.state]; rfl
  have N0 := Fr.nil n0
  have pre0 : ∀ t, Steps p.tables e below (s₁.setTop (mkF m 0 #[.val (.ref a1), .val (.double pp), .second, .unset, .unset, .unset, .unset, .unset, .unset, .unset, .unset] [])) t → Steps p.tables e below (s₁.setTop (entryFrame m #[(.ref a1), (.double pp)] 11)) t := fun t k => castTop (ef_prog_53_method_6_code m a1 pp) k
  obtain ⟨cl1, Ar1, -, S1, Nn1, -, -⟩ := id V_a1
  obtain ⟨cl2, Ar2, -, S2, Nn2, H2, -⟩ := id V_a1
  have hin2 : ¬ (b1 < 0 ∨ cl2.slots.size ≤ (b1).toNatClampNeg) := inb_of S2 hi1
  have hat2 : cl2.slots[(b1).toNatClampNeg]? = some (.double (FP.l2d lo)) := H2.at hin2 ht1
  obtain ⟨cl3, Ar3, -, S3, Nn3, H3, -⟩ := id V_a1
  have hin3 : ¬ (bb < 0 ∨ cl3.slots.size ≤ (bb).toNatClampNeg) := inb_of S3 hi2
  have hat3 : cl3.slots[(bb).toNatClampNeg]? = some (.double (FP.l2d hi)) := H3.at hin3 ht2
  obtain ⟨cl4, Ar4, -, S4, Nn4, H4, -⟩ := id V_a1
  have hin4 : ¬ (b1 < 0 ∨ cl4.slots.size ≤ (b1).toNatClampNeg) := inb_of S4 hi1
  have hat4 : cl4.slots[(b1).toNatClampNeg]? = some (.double (FP.l2d lo)) := H4.at hin4 ht1
  obtain ⟨fs, hr, hrun, hended, hW, hsame⟩ := X0.leave (v := some (.double (FP.dadd (FP.l2d lo) (FP.dmul fr (FP.dsub (FP.l2d hi) (FP.l2d lo)))))) (fun h => by rw [Bd.returns] at h; cases h)
  refine ⟨_, _, pre0 _ ?_, hrun, hended, _, _, rfl, ?_, ⟨_, rfl⟩, hW, hsame.mono (by decide) (by decide)⟩
  · show Steps p.tables e below (s₁.setTop (mkF m 0 #[.val (.ref a1), .val (.double pp), .second, .unset, .unset, .unset, .unset, .unset, .unset, .unset, .unset] [])) _
    refine XS.aloadN X0.here hx rfl (hb hby d_prog_53_method_6_code_0) rfl rfl ?_
    show Steps p.tables e below (s₁.setTop (mkF m 1 #[.val (.ref a1), .val (.double pp), .second, .unset, .unset, .unset, .unset, .unset, .unset, .unset, .unset] [(.ref a1)])) _
    refine X0.arraylength hx (by rw [e0]; exact Ar1.1) (State.isArrayOf_alike hZ.alike Ar1.2.1) (g := (mkF m 1 #[.val (.ref a1), .val (.double pp), .second, .unset, .unset, .unset, .unset, .unset, .unset, .unset, .unset] [(.ref a1)])) rfl rfl (hb hby d_prog_53_method_6_code_1) _ ?_
    rw [len_of S1 Nn1]
    refine XS.istoreN X0.here hx rfl (hb hby d_prog_53_method_6_code_2) rfl (l' := #[.val (.ref a1), .val (.double pp), .second, .val (.int (4 : Int32)), .unset, .unset, .unset, .unset, .unset, .unset, .unset]) rfl ?_
    refine XS.iloadN X0.here hx rfl (hb hby d_prog_53_method_6_code_3) rfl ?_
    show Steps p.tables e below (s₁.setTop (mkF m 4 #[.val (.ref a1), .val (.double pp), .second, .val (.int (4 : Int32)), .unset, .unset, .unset, .unset, .unset, .unset, .unset] [(.int (4 : Int32))])) _
    refine XS.iconst X0.here hx rfl (hb hby d_prog_53_method_6_code_4) ?_
    refine XS.iadd X0.here hx rfl (hb hby d_prog_53_method_6_code_5) rfl ?_
    refine XS.i2dS X0.here hx rfl (hb hby d_prog_53_method_6_code_6) rfl (v := (FP.i2d ((4 : Int32) + (1 : Int32)))) (rfl) ?_
    show Steps p.tables e below (s₁.setTop (mkF m 7 #[.val (.ref a1), .val (.double pp), .second, .val (.int (4 : Int32)), .unset, .unset, .unset, .unset, .unset, .unset, .unset] [(.double (FP.i2d ((4 : Int32) + (1 : Int32))))])) _
    refine XS.dloadN X0.here hx rfl (hb hby d_prog_53_method_6_code_7) rfl ?_
    refine XS.dmulS X0.here hx rfl (hb hby d_prog_53_method_6_code_8) rfl hn8 (v := (FP.dmul (FP.i2d ((4 : Int32) + (1 : Int32))) pp)) (rfl) ?_
    show Steps p.tables e below (s₁.setTop (mkF m 9 #[.val (.ref a1), .val (.double pp), .second, .val (.int (4 : Int32)), .unset, .unset, .unset, .unset, .unset, .unset, .unset] [(.double (FP.dmul (FP.i2d ((4 : Int32) + (1 : Int32))) pp))])) _
    refine X0.ldc2DoubleC hx hown (mvT hZ (hw _ (List.mem_of_getElem? (i := 13) rfl))) (g := (mkF m 9 #[.val (.ref a1), .val (.double pp), .second, .val (.int (4 : Int32)), .unset, .unset, .unset, .unset, .unset, .unset, .unset] [(.double (FP.dmul (FP.i2d ((4 : Int32) + (1 : Int32))) pp))])) rfl (hb hby d_prog_53_method_6_code_9) _ ?_
    refine XS.ddivS X0.here hx rfl (hb hby d_prog_53_method_6_code_12) rfl hn12 (v := ps) (hv12) ?_
    refine XS.dstore X0.here hx rfl (hb hby d_prog_53_method_6_code_13) rfl (l' := #[.val (.ref a1), .val (.double pp), .second, .val (.int (4 : Int32)), .val (.double ps), .second, .unset, .unset, .unset, .unset, .unset]) rfl ?_
    show Steps p.tables e below (s₁.setTop (mkF m 15 #[.val (.ref a1), .val (.double pp), .second, .val (.int (4 : Int32)), .val (.double ps), .second, .unset, .unset, .unset, .unset, .unset] [])) _
    refine XS.dload X0.here hx rfl (hb hby d_prog_53_method_6_code_15) rfl ?_
    refine XS.dconst1 X0.here hx rfl (hb hby d_prog_53_method_6_code_17) (v := (4607182418800017408 : UInt64)) rfl ?_
    refine XS.dcmpS X0.here hx rfl (hb hby d_prog_53_method_6_code_18) rfl (v := vA) (hvA) ?_
    show Steps p.tables e below (s₁.setTop (mkF m 19 #[.val (.ref a1), .val (.double pp), .second, .val (.int (4 : Int32)), .val (.double ps), .second, .unset, .unset, .unset, .unset, .unset] [(.int vA)])) _
    refine XS.ifYes X0.here hx rfl (pc0 := 19) (pc' := 30) rfl (hb hby d_prog_53_method_6_code_19) rfl ((if0 _ _).trans (flt (hcA : ¬ (vA < (0 : Int32)))).2.1) (by decide) (by decide) ?_
    refine XS.dload X0.here hx rfl (hb hby d_prog_53_method_6_code_30) rfl ?_
    refine XS.iloadN X0.here hx rfl (hb hby d_prog_53_method_6_code_32) rfl ?_
    show Steps p.tables e below (s₁.setTop (mkF m 33 #[.val (.ref a1), .val (.double pp), .second, .val (.int (4 : Int32)), .val (.double ps), .second, .unset, .unset, .unset, .unset, .unset] [(.int (4 : Int32)), (.double ps)])) _
    refine XS.i2dS X0.here hx rfl (hb hby d_prog_53_method_6_code_33) rfl (v := (FP.i2d (4 : Int32))) (rfl) ?_
    refine XS.dcmpS X0.here hx rfl (hb hby d_prog_53_method_6_code_34) rfl (v := vB) (hvB) ?_
    refine XS.ifYes X0.here hx rfl (pc0 := 35) (pc' := 48) rfl (hb hby d_prog_53_method_6_code_35) rfl ((if0 _ _).trans (tlt (hcB : vB < (0 : Int32))).1) (by decide) (by decide) ?_
    show Steps p.tables e below (s₁.setTop (mkF m 48 #[.val (.ref a1), .val (.double pp), .second, .val (.int (4 : Int32)), .val (.double ps), .second, .unset, .unset, .unset, .unset, .unset] [])) _
    refine XS.dload X0.here hx rfl (hb hby d_prog_53_method_6_code_48) rfl ?_
    refine XS.d2iS X0.here hx rfl (hb hby d_prog_53_method_6_code_50) rfl (v := bb) (hbb) ?_
    refine XS.istore X0.here hx rfl (hb hby d_prog_53_method_6_code_51) rfl (l' := #[.val (.ref a1), .val (.double pp), .second, .val (.int (4 : Int32)), .val (.double ps), .second, .unset, .unset, .val (.int bb), .unset, .unset]) rfl ?_
    show Steps p.tables e below (s₁.setTop (mkF m 53 #[.val (.ref a1), .val (.double pp), .second, .val (.int (4 : Int32)), .val (.double ps), .second, .unset, .unset, .val (.int bb), .unset, .unset] [])) _
    refine XS.dload X0.here hx rfl (hb hby d_prog_53_method_6_code_53) rfl ?_
    refine XS.iload X0.here hx rfl (hb hby d_prog_53_method_6_code_55) rfl ?_
    refine XS.i2dS X0.here hx rfl (hb hby d_prog_53_method_6_code_57) rfl (v := (FP.i2d bb)) (rfl) ?_
    show Steps p.tables e below (s₁.setTop (mkF m 58 #[.val (.ref a1), .val (.double pp), .second, .val (.int (4 : Int32)), .val (.double ps), .second, .unset, .unset, .val (.int bb), .unset, .unset] [(.double (FP.i2d bb)), (.double ps)])) _
    refine XS.dsubS X0.here hx rfl (hb hby d_prog_53_method_6_code_58) rfl hn58 (v := fr) (hfr) ?_
    refine XS.dstore X0.here hx rfl (hb hby d_prog_53_method_6_code_59) rfl (l' := #[.val (.ref a1), .val (.double pp), .second, .val (.int (4 : Int32)), .val (.double ps), .second, .unset, .unset, .val (.int bb), .val (.double fr), .second]) rfl ?_
    refine XS.aloadN X0.here hx rfl (hb hby d_prog_53_method_6_code_61) rfl rfl ?_
    show Steps p.tables e below (s₁.setTop (mkF m 62 #[.val (.ref a1), .val (.double pp), .second, .val (.int (4 : Int32)), .val (.double ps), .second, .unset, .unset, .val (.int bb), .val (.double fr), .second] [(.ref a1)])) _
    refine XS.iload X0.here hx rfl (hb hby d_prog_53_method_6_code_62) rfl ?_
    refine XS.iconst X0.here hx rfl (hb hby d_prog_53_method_6_code_64) ?_
    refine XS.isub X0.here hx rfl (hb hby d_prog_53_method_6_code_65) rfl ?_
    show Steps p.tables e below (s₁.setTop (mkF m 66 #[.val (.ref a1), .val (.double pp), .second, .val (.int (4 : Int32)), .val (.double ps), .second, .unset, .unset, .val (.int bb), .val (.double fr), .second] [(.int (bb - (1 : Int32))), (.ref a1)])) _
    rw [show (bb - (1 : Int32)) = b1 from hb1]
    show Steps p.tables e below (s₁.setTop (mkF m 66 #[.val (.ref a1), .val (.double pp), .second, .val (.int (4 : Int32)), .val (.double ps), .second, .unset, .unset, .val (.int bb), .val (.double fr), .second] [(.int b1), (.ref a1)])) _
    refine X0.daload hx (j := b1) (v := (.double (FP.l2d lo))) (by rw [e0]; exact Ar2.1) (State.isArrayOf_alike hZ.alike Ar2.2.1) Ar2.2.2 hin2 hat2 (g := (mkF m 66 #[.val (.ref a1), .val (.double pp), .second, .val (.int (4 : Int32)), .val (.double ps), .second, .unset, .unset, .val (.int bb), .val (.double fr), .second] [(.int b1), (.ref a1)])) rfl rfl (hb hby d_prog_53_method_6_code_66) _ ?_
    refine XS.dload X0.here hx rfl (hb hby d_prog_53_method_6_code_67) rfl ?_
    refine XS.aloadN X0.here hx rfl (hb hby d_prog_53_method_6_code_69) rfl rfl ?_
    show Steps p.tables e below (s₁.setTop (mkF m 70 #[.val (.ref a1), .val (.double pp), .second, .val (.int (4 : Int32)), .val (.double ps), .second, .unset, .unset, .val (.int bb), .val (.double fr), .second] [(.ref a1), (.double fr), (.double (FP.l2d lo))])) _
    refine XS.iload X0.here hx rfl (hb hby d_prog_53_method_6_code_70) rfl ?_
    show Steps p.tables e below (s₁.setTop (mkF m 72 #[.val (.ref a1), .val (.double pp), .second, .val (.int (4 : Int32)), .val (.double ps), .second, .unset, .unset, .val (.int bb), .val (.double fr), .second] [(.int bb), (.ref a1), (.double fr), (.double (FP.l2d lo))])) _
    refine X0.daload hx (j := bb) (v := (.double (FP.l2d hi))) (by rw [e0]; exact Ar3.1) (State.isArrayOf_alike hZ.alike Ar3.2.1) Ar3.2.2 hin3 hat3 (g := (mkF m 72 #[.val (.ref a1), .val (.double pp), .second, .val (.int (4 : Int32)), .val (.double ps), .second, .unset, .unset, .val (.int bb), .val (.double fr), .second] [(.int bb), (.ref a1), (.double fr), (.double (FP.l2d lo))])) rfl rfl (hb hby d_prog_53_method_6_code_72) _ ?_
    refine XS.aloadN X0.here hx rfl (hb hby d_prog_53_method_6_code_73) rfl rfl ?_
    refine XS.iload X0.here hx rfl (hb hby d_prog_53_method_6_code_74) rfl ?_
    show Steps p.tables e below (s₁.setTop (mkF m 76 #[.val (.ref a1), .val (.double pp), .second, .val (.int (4 : Int32)), .val (.double ps), .second, .unset, .unset, .val (.int bb), .val (.double fr), .second] [(.int bb), (.ref a1), (.double (FP.l2d hi)), (.double fr), (.double (FP.l2d lo))])) _
    refine XS.iconst X0.here hx rfl (hb hby d_prog_53_method_6_code_76) ?_
    refine XS.isub X0.here hx rfl (hb hby d_prog_53_method_6_code_77) rfl ?_
    show Steps p.tables e below (s₁.setTop (mkF m 78 #[.val (.ref a1), .val (.double pp), .second, .val (.int (4 : Int32)), .val (.double ps), .second, .unset, .unset, .val (.int bb), .val (.double fr), .second] [(.int (bb - (1 : Int32))), (.ref a1), (.double (FP.l2d hi)), (.double fr), (.double (FP.l2d lo))])) _
    rw [show (bb - (1 : Int32)) = b1 from hb1]
    show Steps p.tables e below (s₁.setTop (mkF m 78 #[.val (.ref a1), .val (.double pp), .second, .val (.int (4 : Int32)), .val (.double ps), .second, .unset, .unset, .val (.int bb), .val (.double fr), .second] [(.int b1), (.ref a1), (.double (FP.l2d hi)), (.double fr), (.double (FP.l2d lo))])) _
    refine X0.daload hx (j := b1) (v := (.double (FP.l2d lo))) (by rw [e0]; exact Ar4.1) (State.isArrayOf_alike hZ.alike Ar4.2.1) Ar4.2.2 hin4 hat4 (g := (mkF m 78 #[.val (.ref a1), .val (.double pp), .second, .val (.int (4 : Int32)), .val (.double ps), .second, .unset, .unset, .val (.int bb), .val (.double fr), .second] [(.int b1), (.ref a1), (.double (FP.l2d hi)), (.double fr), (.double (FP.l2d lo))])) rfl rfl (hb hby d_prog_53_method_6_code_78) _ ?_
    refine XS.dsubS X0.here hx rfl (hb hby d_prog_53_method_6_code_79) rfl hn79 (v := (FP.dsub (FP.l2d hi) (FP.l2d lo))) (rfl) ?_
    refine XS.dmulS X0.here hx rfl (hb hby d_prog_53_method_6_code_80) rfl hn80 (v := (FP.dmul fr (FP.dsub (FP.l2d hi) (FP.l2d lo)))) (rfl) ?_
    show Steps p.tables e below (s₁.setTop (mkF m 81 #[.val (.ref a1), .val (.double pp), .second, .val (.int (4 : Int32)), .val (.double ps), .second, .unset, .unset, .val (.int bb), .val (.double fr), .second] [(.double (FP.dmul fr (FP.dsub (FP.l2d hi) (FP.l2d lo)))), (.double (FP.l2d lo))])) _
    refine XS.daddS X0.here hx rfl (hb hby d_prog_53_method_6_code_81) rfl hn81 (v := (FP.dadd (FP.l2d lo) (FP.dmul fr (FP.dsub (FP.l2d hi) (FP.l2d lo))))) (rfl) ?_
    refine XS.dstore X0.here hx rfl (hb hby d_prog_53_method_6_code_82) rfl (l' := #[.val (.ref a1), .val (.double pp), .second, .val (.int (4 : Int32)), .val (.double ps), .second, .val (.double (FP.dadd (FP.l2d lo) (FP.dmul fr (FP.dsub (FP.l2d hi) (FP.l2d lo))))), .second, .val (.int bb), .val (.double fr), .second]) rfl ?_
    refine XS.dload X0.here hx rfl (hb hby d_prog_53_method_6_code_84) rfl ?_
    show Steps p.tables e below (s₁.setTop (mkF m 86 #[.val (.ref a1), .val (.double pp), .second, .val (.int (4 : Int32)), .val (.double ps), .second, .val (.double (FP.dadd (FP.l2d lo) (FP.dmul fr (FP.dsub (FP.l2d hi) (FP.l2d lo))))), .second, .val (.int bb), .val (.double fr), .second] [(.double (FP.dadd (FP.l2d lo) (FP.dmul fr (FP.dsub (FP.l2d hi) (FP.l2d lo)))))])) _
    exact retOut X0 hx (t := .double) Bd.returns rfl (Or.inr (Or.inr (Or.inl ⟨rfl, rfl, _, rfl⟩))) (hb hby d_prog_53_method_6_code_86) hr
  · show QD (FP.dadd (FP.l2d lo) (FP.dmul fr (FP.dsub (FP.l2d hi) (FP.l2d lo)))) h0 n0 _ s₁.heap _
    rw [e0]
    exact ⟨rfl, N0, rfl⟩
set_option maxRecDepth 65536 in
set_option maxHeartbeats 40000000 in
theorem rmPa7 (l : Launch) (Z : State) (a0 : Array Value) (hw : ∀ d ∈ tables_1, d.before a0 Z = true) (ws : List Jvm.Cond) (a1 : Addr) (kA : ClassId) (s0 s1 s2 s3 s4 s5 s6 s7 s8 : Int64) (pp ps : UInt64) (h0 : Heap) (n0 : Nat) (Z0 : n0 ≤ h0.size) (V_a1 : Arv Z h0 a1 kA .double (7 : Int32) [(.double (FP.l2d s0)), (.double (FP.l2d s1)), (.double (FP.l2d s2)), (.double (FP.l2d s3)), (.double (FP.l2d s4)), (.double (FP.l2d s5)), (.double (FP.l2d s6))] (.double (0 : UInt64))) (hn8 : Jvm.Free.Fl.NoNaN64 (FP.dmul (FP.i2d ((7 : Int32) + (1 : Int32))) pp)) (hn12 : Jvm.Free.Fl.NoNaN64 (FP.ddiv (FP.dmul (FP.i2d ((7 : Int32) + (1 : Int32))) pp) (4636737291354636288 : UInt64))) (hv12 : FP.ddiv (FP.dmul (FP.i2d ((7 : Int32) + (1 : Int32))) pp) (4636737291354636288 : UInt64) = ps) (vA : Int32) (hvA : cmpValue (FP.dcmp ps (4607182418800017408 : UInt64)) .g = vA) (hcA : vA < (0 : Int32))  :
    MetFree l (⟨"com/example/bytegauge/bytegauge/stats/JsonTable", "percentile", "([DD)D"⟩ : MethodName) (head1 (Jvm.Cond.code (⟨"com/example/bytegauge/bytegauge/stats/JsonTable", "percentile", "([DD)D"⟩ : MethodName) prog_53_method_6_code 11 (some .double) :: ws) ({ frames := 0, cells := 0, slots := 0, locals := 0 } : Room)) (fun a U => a = #[(.ref a1), (.double pp)] ∧ Z.Warmed39 U.vm ∧ U.heap = h0) (fun _ _ _ _ _ => True) (fun _ U o U' => ∃ v L, o = .returned v ∧ QD (FP.l2d s0) h0 n0 v U'.heap L ∧ FrameEnd U o U' L ({ frames := 0, cells := 0, slots := 0, locals := 0 } : Room).cells ({ frames := 0, cells := 0, slots := 0, locals := 0 } : Room).slots) := by
  refine MetFree.of_bodySF (plainFor_of_name pn_com_example_bytegauge_bytegauge_stats_JsonTable) hisR ?_
  intro p e s m args below meth c s₁ Bd hml0 hP hK
  obtain ⟨rfl, hZ, hh⟩ := hP
  have hx := Bd.exec
  have hby := Bd.bytes
  have hml : c.maxLocals = 11 := hml0
  have hown : s.vm.findClass "com/example/bytegauge/bytegauge/stats/JsonTable" = some m.cls := findClass_of_methodNamed Bd.named
  have hnm := (name_of_methodNamed Bd.named Bd.method).1
  have X0 : Stand p l e ({ frames := 0, cells := 0, slots := 0, locals := 0 } : Room) s m #[(.ref a1), (.double pp)] below meth c s₁ [] 0 0 := Stand.of_body Bd
  have e0 : s₁.heap = h0 := by rw [← hh, Bd.state]; rfl
  have N0 := Fr.nil n0
  have pre0 : ∀ t, Steps p.tables e below (s₁.setTop (mkF m 0 #[.val (.ref a1), .val (.double pp), .second, .unset, .unset, .unset, .unset, .unset, .unset, .unset, .unset] [])) t → Steps p.tables e below (s₁.setTop (entryFrame m #[(.ref a1), (.double pp)] 11)) t := fun t k => castTop (ef_prog_53_method_6_code m a1 pp) k
  obtain ⟨cl1, Ar1, -, S1, Nn1, -, -⟩ := id V_a1
  obtain ⟨cl2, Ar2, -, S2, Nn2, H2, -⟩ := id V_a1
  have hin2 : ¬ ((0 : Int32) < 0 ∨ cl2.slots.size ≤ ((0 : Int32)).toNatClampNeg) := inb_of S2 ⟨by decide, by decide⟩
  have hat2 : cl2.slots[((0 : Int32)).toNatClampNeg]? = some (.double (FP.l2d s0)) := H2.at hin2 rfl
  obtain ⟨fs, hr, hrun, hended, hW, hsame⟩ := X0.leave (v := some (.double (FP.l2d s0))) (fun h => by rw [Bd.returns] at h; cases h)
  refine ⟨_, _, pre0 _ ?_, hrun, hended, _, _, rfl, ?_, ⟨_, rfl⟩, hW, hsame.mono (by decide) (by decide)⟩
  · show Steps p.tables e below (s₁.setTop (mkF m 0 #[.val (.ref a1), .val (.double pp), .second, .unset, .unset, .unset, .unset, .unset, .unset, .unset, .unset] [])) _
    refine XS.aloadN X0.here hx rfl (hb hby d_prog_53_method_6_code_0) rfl rfl ?_
    show Steps p.tables e below (s₁.setTop (mkF m 1 #[.val (.ref a1), .val (.double pp), .second, .unset, .unset, .unset, .unset, .unset, .unset, .unset, .unset] [(.ref a1)])) _
    refine X0.arraylength hx (by rw [e0]; exact Ar1.1) (State.isArrayOf_alike hZ.alike Ar1.2.1) (g := (mkF m 1 #[.val (.ref a1), .val (.double pp), .second, .unset, .unset, .unset, .unset, .unset, .unset, .unset, .unset] [(.ref a1)])) rfl rfl (hb hby d_prog_53_method_6_code_1) _ ?_
    rw [len_of S1 Nn1]
    refine XS.istoreN X0.here hx rfl (hb hby d_prog_53_method_6_code_2) rfl (l' := #[.val (.ref a1), .val (.double pp), .second, .val (.int (7 : Int32)), .unset, .unset, .unset, .unset, .unset, .unset, .unset]) rfl ?_
    refine XS.iloadN X0.here hx rfl (hb hby d_prog_53_method_6_code_3) rfl ?_
    show Steps p.tables e below (s₁.setTop (mkF m 4 #[.val (.ref a1), .val (.double pp), .second, .val (.int (7 : Int32)), .unset, .unset, .unset, .unset, .unset, .unset, .unset] [(.int (7 : Int32))])) _
    refine XS.iconst X0.here hx rfl (hb hby d_prog_53_method_6_code_4) ?_
    refine XS.iadd X0.here hx rfl (hb hby d_prog_53_method_6_code_5) rfl ?_
    refine XS.i2dS X0.here hx rfl (hb hby d_prog_53_method_6_code_6) rfl (v := (FP.i2d ((7 : Int32) + (1 : Int32)))) (rfl) ?_
    show Steps p.tables e below (s₁.setTop (mkF m 7 #[.val (.ref a1), .val (.double pp), .second, .val (.int (7 : Int32)), .unset, .unset, .unset, .unset, .unset, .unset, .unset] [(.double (FP.i2d ((7 : Int32) + (1 : Int32))))])) _
    refine XS.dloadN X0.here hx rfl (hb hby d_prog_53_method_6_code_7) rfl ?_
    refine XS.dmulS X0.here hx rfl (hb hby d_prog_53_method_6_code_8) rfl hn8 (v := (FP.dmul (FP.i2d ((7 : Int32) + (1 : Int32))) pp)) (rfl) ?_
    show Steps p.tables e below (s₁.setTop (mkF m 9 #[.val (.ref a1), .val (.double pp), .second, .val (.int (7 : Int32)), .unset, .unset, .unset, .unset, .unset, .unset, .unset] [(.double (FP.dmul (FP.i2d ((7 : Int32) + (1 : Int32))) pp))])) _
    refine X0.ldc2DoubleC hx hown (mvT hZ (hw _ (List.mem_of_getElem? (i := 13) rfl))) (g := (mkF m 9 #[.val (.ref a1), .val (.double pp), .second, .val (.int (7 : Int32)), .unset, .unset, .unset, .unset, .unset, .unset, .unset] [(.double (FP.dmul (FP.i2d ((7 : Int32) + (1 : Int32))) pp))])) rfl (hb hby d_prog_53_method_6_code_9) _ ?_
    refine XS.ddivS X0.here hx rfl (hb hby d_prog_53_method_6_code_12) rfl hn12 (v := ps) (hv12) ?_
    refine XS.dstore X0.here hx rfl (hb hby d_prog_53_method_6_code_13) rfl (l' := #[.val (.ref a1), .val (.double pp), .second, .val (.int (7 : Int32)), .val (.double ps), .second, .unset, .unset, .unset, .unset, .unset]) rfl ?_
    show Steps p.tables e below (s₁.setTop (mkF m 15 #[.val (.ref a1), .val (.double pp), .second, .val (.int (7 : Int32)), .val (.double ps), .second, .unset, .unset, .unset, .unset, .unset] [])) _
    refine XS.dload X0.here hx rfl (hb hby d_prog_53_method_6_code_15) rfl ?_
    refine XS.dconst1 X0.here hx rfl (hb hby d_prog_53_method_6_code_17) (v := (4607182418800017408 : UInt64)) rfl ?_
    refine XS.dcmpS X0.here hx rfl (hb hby d_prog_53_method_6_code_18) rfl (v := vA) (hvA) ?_
    show Steps p.tables e below (s₁.setTop (mkF m 19 #[.val (.ref a1), .val (.double pp), .second, .val (.int (7 : Int32)), .val (.double ps), .second, .unset, .unset, .unset, .unset, .unset] [(.int vA)])) _
    refine XS.ifNo X0.here hx rfl (hb hby d_prog_53_method_6_code_19) rfl ((if0 _ _).trans (tlt (hcA : vA < (0 : Int32))).2.1) ?_
    refine XS.aloadN X0.here hx rfl (hb hby d_prog_53_method_6_code_22) rfl rfl ?_
    refine XS.iconst X0.here hx rfl (hb hby d_prog_53_method_6_code_23) ?_
    show Steps p.tables e below (s₁.setTop (mkF m 24 #[.val (.ref a1), .val (.double pp), .second, .val (.int (7 : Int32)), .val (.double ps), .second, .unset, .unset, .unset, .unset, .unset] [(.int (0 : Int32)), (.ref a1)])) _
    refine X0.daload hx (j := (0 : Int32)) (v := (.double (FP.l2d s0))) (by rw [e0]; exact Ar2.1) (State.isArrayOf_alike hZ.alike Ar2.2.1) Ar2.2.2 hin2 hat2 (g := (mkF m 24 #[.val (.ref a1), .val (.double pp), .second, .val (.int (7 : Int32)), .val (.double ps), .second, .unset, .unset, .unset, .unset, .unset] [(.int (0 : Int32)), (.ref a1)])) rfl rfl (hb hby d_prog_53_method_6_code_24) _ ?_
    refine XS.dstore X0.here hx rfl (hb hby d_prog_53_method_6_code_25) rfl (l' := #[.val (.ref a1), .val (.double pp), .second, .val (.int (7 : Int32)), .val (.double ps), .second, .val (.double (FP.l2d s0)), .second, .unset, .unset, .unset]) rfl ?_
    refine XS.goto X0.here hx rfl (pc0 := 27) (pc' := 84) rfl (hb hby d_prog_53_method_6_code_27) (by decide) (by decide) ?_
    show Steps p.tables e below (s₁.setTop (mkF m 84 #[.val (.ref a1), .val (.double pp), .second, .val (.int (7 : Int32)), .val (.double ps), .second, .val (.double (FP.l2d s0)), .second, .unset, .unset, .unset] [])) _
    refine XS.dload X0.here hx rfl (hb hby d_prog_53_method_6_code_84) rfl ?_
    show Steps p.tables e below (s₁.setTop (mkF m 86 #[.val (.ref a1), .val (.double pp), .second, .val (.int (7 : Int32)), .val (.double ps), .second, .val (.double (FP.l2d s0)), .second, .unset, .unset, .unset] [(.double (FP.l2d s0))])) _
    exact retOut X0 hx (t := .double) Bd.returns rfl (Or.inr (Or.inr (Or.inl ⟨rfl, rfl, _, rfl⟩))) (hb hby d_prog_53_method_6_code_86) hr
  · show QD (FP.l2d s0) h0 n0 _ s₁.heap _
    rw [e0]
    exact ⟨rfl, N0, rfl⟩
set_option maxRecDepth 65536 in
set_option maxHeartbeats 40000000 in
theorem rmPb7 (l : Launch) (Z : State) (a0 : Array Value) (hw : ∀ d ∈ tables_1, d.before a0 Z = true) (ws : List Jvm.Cond) (a1 : Addr) (kA : ClassId) (s0 s1 s2 s3 s4 s5 s6 s7 s8 : Int64) (pp ps : UInt64) (h0 : Heap) (n0 : Nat) (Z0 : n0 ≤ h0.size) (V_a1 : Arv Z h0 a1 kA .double (7 : Int32) [(.double (FP.l2d s0)), (.double (FP.l2d s1)), (.double (FP.l2d s2)), (.double (FP.l2d s3)), (.double (FP.l2d s4)), (.double (FP.l2d s5)), (.double (FP.l2d s6))] (.double (0 : UInt64))) (hn8 : Jvm.Free.Fl.NoNaN64 (FP.dmul (FP.i2d ((7 : Int32) + (1 : Int32))) pp)) (hn12 : Jvm.Free.Fl.NoNaN64 (FP.ddiv (FP.dmul (FP.i2d ((7 : Int32) + (1 : Int32))) pp) (4636737291354636288 : UInt64))) (hv12 : FP.ddiv (FP.dmul (FP.i2d ((7 : Int32) + (1 : Int32))) pp) (4636737291354636288 : UInt64) = ps) (vA : Int32) (hvA : cmpValue (FP.dcmp ps (4607182418800017408 : UInt64)) .g = vA) (vB : Int32) (hvB : cmpValue (FP.dcmp ps (FP.i2d (7 : Int32))) .l = vB) (hcA : ¬ vA < (0 : Int32)) (hcB : ¬ vB < (0 : Int32))  :
    MetFree l (⟨"com/example/bytegauge/bytegauge/stats/JsonTable", "percentile", "([DD)D"⟩ : MethodName) (head1 (Jvm.Cond.code (⟨"com/example/bytegauge/bytegauge/stats/JsonTable", "percentile", "([DD)D"⟩ : MethodName) prog_53_method_6_code 11 (some .double) :: ws) ({ frames := 0, cells := 0, slots := 0, locals := 0 } : Room)) (fun a U => a = #[(.ref a1), (.double pp)] ∧ Z.Warmed39 U.vm ∧ U.heap = h0) (fun _ _ _ _ _ => True) (fun _ U o U' => ∃ v L, o = .returned v ∧ QD (FP.l2d s6) h0 n0 v U'.heap L ∧ FrameEnd U o U' L ({ frames := 0, cells := 0, slots := 0, locals := 0 } : Room).cells ({ frames := 0, cells := 0, slots := 0, locals := 0 } : Room).slots) := by
  refine MetFree.of_bodySF (plainFor_of_name pn_com_example_bytegauge_bytegauge_stats_JsonTable) hisR ?_
  intro p e s m args below meth c s₁ Bd hml0 hP hK
  obtain ⟨rfl, hZ, hh⟩ := hP
  have hx := Bd.exec
  have hby := Bd.bytes
  have hml : c.maxLocals = 11 := hml0
  have hown : s.vm.findClass "com/example/bytegauge/bytegauge/stats/JsonTable" = some m.cls := findClass_of_methodNamed Bd.named
  have hnm := (name_of_methodNamed Bd.named Bd.method).1
  have X0 : Stand p l e ({ frames := 0, cells := 0, slots := 0, locals := 0 } : Room) s m #[(.ref a1), (.double pp)] below meth c s₁ [] 0 0 := Stand.of_body Bd
  have e0 : s₁.heap = h0 := by rw [← hh, Bd.state]; rfl
  have N0 := Fr.nil n0
  have pre0 : ∀ t, Steps p.tables e below (s₁.setTop (mkF m 0 #[.val (.ref a1), .val (.double pp), .second, .unset, .unset, .unset, .unset, .unset, .unset, .unset, .unset] [])) t → Steps p.tables e below (s₁.setTop (entryFrame m #[(.ref a1), (.double pp)] 11)) t := fun t k => castTop (ef_prog_53_method_6_code m a1 pp) k
  obtain ⟨cl1, Ar1, -, S1, Nn1, -, -⟩ := id V_a1
  obtain ⟨cl2, Ar2, -, S2, Nn2, H2, -⟩ := id V_a1
  have hin2 : ¬ ((6 : Int32) < 0 ∨ cl2.slots.size ≤ ((6 : Int32)).toNatClampNeg) := inb_of S2 ⟨by decide, by decide⟩
  have hat2 : cl2.slots[((6 : Int32)).toNatClampNeg]? = some (.double (FP.l2d s6)) := H2.at hin2 rfl
  obtain ⟨fs, hr, hrun, hended, hW, hsame⟩ := X0.leave (v := some (.double (FP.l2d s6))) (fun h => by rw [Bd.returns] at h; cases h)
  refine ⟨_, _, pre0 _ ?_, hrun, hended, _, _, rfl, ?_, ⟨_, rfl⟩, hW, hsame.mono (by decide) (by decide)⟩
  · show Steps p.tables e below (s₁.setTop (mkF m 0 #[.val (.ref a1), .val (.double pp), .second, .unset, .unset, .unset, .unset, .unset, .unset, .unset, .unset] [])) _
    refine XS.aloadN X0.here hx rfl (hb hby d_prog_53_method_6_code_0) rfl rfl ?_
    show Steps p.tables e below (s₁.setTop (mkF m 1 #[.val (.ref a1), .val (.double pp), .second, .unset, .unset, .unset, .unset, .unset, .unset, .unset, .unset] [(.ref a1)])) _
    refine X0.arraylength hx (by rw [e0]; exact Ar1.1) (State.isArrayOf_alike hZ.alike Ar1.2.1) (g := (mkF m 1 #[.val (.ref a1), .val (.double pp), .second, .unset, .unset, .unset, .unset, .unset, .unset, .unset, .unset] [(.ref a1)])) rfl rfl (hb hby d_prog_53_method_6_code_1) _ ?_
    rw [len_of S1 Nn1]
    refine XS.istoreN X0.here hx rfl (hb hby d_prog_53_method_6_code_2) rfl (l' := #[.val (.ref a1), .val (.double pp), .second, .val (.int (7 : Int32)), .unset, .unset, .unset, .unset, .unset, .unset, .unset]) rfl ?_
    refine XS.iloadN X0.here hx rfl (hb hby d_prog_53_method_6_code_3) rfl ?_
    show Steps p.tables e below (s₁.setTop (mkF m 4 #[.val (.ref a1), .val (.double pp), .second, .val (.int (7 : Int32)), .unset, .unset, .unset, .unset, .unset, .unset, .unset] [(.int (7 : Int32))])) _
    refine XS.iconst X0.here hx rfl (hb hby d_prog_53_method_6_code_4) ?_
    refine XS.iadd X0.here hx rfl (hb hby d_prog_53_method_6_code_5) rfl ?_
    refine XS.i2dS X0.here hx rfl (hb hby d_prog_53_method_6_code_6) rfl (v := (FP.i2d ((7 : Int32) + (1 : Int32)))) (rfl) ?_
    show Steps p.tables e below (s₁.setTop (mkF m 7 #[.val (.ref a1), .val (.double pp), .second, .val (.int (7 : Int32)), .unset, .unset, .unset, .unset, .unset, .unset, .unset] [(.double (FP.i2d ((7 : Int32) + (1 : Int32))))])) _
    refine XS.dloadN X0.here hx rfl (hb hby d_prog_53_method_6_code_7) rfl ?_
    refine XS.dmulS X0.here hx rfl (hb hby d_prog_53_method_6_code_8) rfl hn8 (v := (FP.dmul (FP.i2d ((7 : Int32) + (1 : Int32))) pp)) (rfl) ?_
    show Steps p.tables e below (s₁.setTop (mkF m 9 #[.val (.ref a1), .val (.double pp), .second, .val (.int (7 : Int32)), .unset, .unset, .unset, .unset, .unset, .unset, .unset] [(.double (FP.dmul (FP.i2d ((7 : Int32) + (1 : Int32))) pp))])) _
    refine X0.ldc2DoubleC hx hown (mvT hZ (hw _ (List.mem_of_getElem? (i := 13) rfl))) (g := (mkF m 9 #[.val (.ref a1), .val (.double pp), .second, .val (.int (7 : Int32)), .unset, .unset, .unset, .unset, .unset, .unset, .unset] [(.double (FP.dmul (FP.i2d ((7 : Int32) + (1 : Int32))) pp))])) rfl (hb hby d_prog_53_method_6_code_9) _ ?_
    refine XS.ddivS X0.here hx rfl (hb hby d_prog_53_method_6_code_12) rfl hn12 (v := ps) (hv12) ?_
    refine XS.dstore X0.here hx rfl (hb hby d_prog_53_method_6_code_13) rfl (l' := #[.val (.ref a1), .val (.double pp), .second, .val (.int (7 : Int32)), .val (.double ps), .second, .unset, .unset, .unset, .unset, .unset]) rfl ?_
    show Steps p.tables e below (s₁.setTop (mkF m 15 #[.val (.ref a1), .val (.double pp), .second, .val (.int (7 : Int32)), .val (.double ps), .second, .unset, .unset, .unset, .unset, .unset] [])) _
    refine XS.dload X0.here hx rfl (hb hby d_prog_53_method_6_code_15) rfl ?_
    refine XS.dconst1 X0.here hx rfl (hb hby d_prog_53_method_6_code_17) (v := (4607182418800017408 : UInt64)) rfl ?_
    refine XS.dcmpS X0.here hx rfl (hb hby d_prog_53_method_6_code_18) rfl (v := vA) (hvA) ?_
    show Steps p.tables e below (s₁.setTop (mkF m 19 #[.val (.ref a1), .val (.double pp), .second, .val (.int (7 : Int32)), .val (.double ps), .second, .unset, .unset, .unset, .unset, .unset] [(.int vA)])) _
    refine XS.ifYes X0.here hx rfl (pc0 := 19) (pc' := 30) rfl (hb hby d_prog_53_method_6_code_19) rfl ((if0 _ _).trans (flt (hcA : ¬ (vA < (0 : Int32)))).2.1) (by decide) (by decide) ?_
    refine XS.dload X0.here hx rfl (hb hby d_prog_53_method_6_code_30) rfl ?_
    refine XS.iloadN X0.here hx rfl (hb hby d_prog_53_method_6_code_32) rfl ?_
    show Steps p.tables e below (s₁.setTop (mkF m 33 #[.val (.ref a1), .val (.double pp), .second, .val (.int (7 : Int32)), .val (.double ps), .second, .unset, .unset, .unset, .unset, .unset] [(.int (7 : Int32)), (.double ps)])) _
    refine XS.i2dS X0.here hx rfl (hb hby d_prog_53_method_6_code_33) rfl (v := (FP.i2d (7 : Int32))) (rfl) ?_
    refine XS.dcmpS X0.here hx rfl (hb hby d_prog_53_method_6_code_34) rfl (v := vB) (hvB) ?_
    refine XS.ifNo X0.here hx rfl (hb hby d_prog_53_method_6_code_35) rfl ((if0 _ _).trans (flt (hcB : ¬ (vB < (0 : Int32)))).1) ?_
    show Steps p.tables e below (s₁.setTop (mkF m 38 #[.val (.ref a1), .val (.double pp), .second, .val (.int (7 : Int32)), .val (.double ps), .second, .unset, .unset, .unset, .unset, .unset] [])) _
    refine XS.aloadN X0.here hx rfl (hb hby d_prog_53_method_6_code_38) rfl rfl ?_
    refine XS.iloadN X0.here hx rfl (hb hby d_prog_53_method_6_code_39) rfl ?_
    refine XS.iconst X0.here hx rfl (hb hby d_prog_53_method_6_code_40) ?_
    show Steps p.tables e below (s₁.setTop (mkF m 41 #[.val (.ref a1), .val (.double pp), .second, .val (.int (7 : Int32)), .val (.double ps), .second, .unset, .unset, .unset, .unset, .unset] [(.int (1 : Int32)), (.int (7 : Int32)), (.ref a1)])) _
    refine XS.isub X0.here hx rfl (hb hby d_prog_53_method_6_code_41) rfl ?_
    show Steps p.tables e below (s₁.setTop (mkF m 42 #[.val (.ref a1), .val (.double pp), .second, .val (.int (7 : Int32)), .val (.double ps), .second, .unset, .unset, .unset, .unset, .unset] [(.int ((7 : Int32) - (1 : Int32))), (.ref a1)])) _
    rw [show ((7 : Int32) - (1 : Int32)) = (6 : Int32) from (by decide)]
    show Steps p.tables e below (s₁.setTop (mkF m 42 #[.val (.ref a1), .val (.double pp), .second, .val (.int (7 : Int32)), .val (.double ps), .second, .unset, .unset, .unset, .unset, .unset] [(.int (6 : Int32)), (.ref a1)])) _
    refine X0.daload hx (j := (6 : Int32)) (v := (.double (FP.l2d s6))) (by rw [e0]; exact Ar2.1) (State.isArrayOf_alike hZ.alike Ar2.2.1) Ar2.2.2 hin2 hat2 (g := (mkF m 42 #[.val (.ref a1), .val (.double pp), .second, .val (.int (7 : Int32)), .val (.double ps), .second, .unset, .unset, .unset, .unset, .unset] [(.int (6 : Int32)), (.ref a1)])) rfl rfl (hb hby d_prog_53_method_6_code_42) _ ?_
    refine XS.dstore X0.here hx rfl (hb hby d_prog_53_method_6_code_43) rfl (l' := #[.val (.ref a1), .val (.double pp), .second, .val (.int (7 : Int32)), .val (.double ps), .second, .val (.double (FP.l2d s6)), .second, .unset, .unset, .unset]) rfl ?_
    refine XS.goto X0.here hx rfl (pc0 := 45) (pc' := 84) rfl (hb hby d_prog_53_method_6_code_45) (by decide) (by decide) ?_
    show Steps p.tables e below (s₁.setTop (mkF m 84 #[.val (.ref a1), .val (.double pp), .second, .val (.int (7 : Int32)), .val (.double ps), .second, .val (.double (FP.l2d s6)), .second, .unset, .unset, .unset] [])) _
    refine XS.dload X0.here hx rfl (hb hby d_prog_53_method_6_code_84) rfl ?_
    show Steps p.tables e below (s₁.setTop (mkF m 86 #[.val (.ref a1), .val (.double pp), .second, .val (.int (7 : Int32)), .val (.double ps), .second, .val (.double (FP.l2d s6)), .second, .unset, .unset, .unset] [(.double (FP.l2d s6))])) _
    exact retOut X0 hx (t := .double) Bd.returns rfl (Or.inr (Or.inr (Or.inl ⟨rfl, rfl, _, rfl⟩))) (hb hby d_prog_53_method_6_code_86) hr
  · show QD (FP.l2d s6) h0 n0 _ s₁.heap _
    rw [e0]
    exact ⟨rfl, N0, rfl⟩
set_option maxRecDepth 65536 in
set_option maxHeartbeats 40000000 in
theorem rmPc7 (l : Launch) (Z : State) (a0 : Array Value) (hw : ∀ d ∈ tables_1, d.before a0 Z = true) (ws : List Jvm.Cond) (a1 : Addr) (kA : ClassId) (s0 s1 s2 s3 s4 s5 s6 s7 s8 : Int64) (pp ps : UInt64) (fr : UInt64) (lo hi : Int64) (bb b1 : Int32) (h0 : Heap) (n0 : Nat) (Z0 : n0 ≤ h0.size) (V_a1 : Arv Z h0 a1 kA .double (7 : Int32) [(.double (FP.l2d s0)), (.double (FP.l2d s1)), (.double (FP.l2d s2)), (.double (FP.l2d s3)), (.double (FP.l2d s4)), (.double (FP.l2d s5)), (.double (FP.l2d s6))] (.double (0 : UInt64))) (hn8 : Jvm.Free.Fl.NoNaN64 (FP.dmul (FP.i2d ((7 : Int32) + (1 : Int32))) pp)) (hn12 : Jvm.Free.Fl.NoNaN64 (FP.ddiv (FP.dmul (FP.i2d ((7 : Int32) + (1 : Int32))) pp) (4636737291354636288 : UInt64))) (hv12 : FP.ddiv (FP.dmul (FP.i2d ((7 : Int32) + (1 : Int32))) pp) (4636737291354636288 : UInt64) = ps) (vA : Int32) (hvA : cmpValue (FP.dcmp ps (4607182418800017408 : UInt64)) .g = vA) (vB : Int32) (hvB : cmpValue (FP.dcmp ps (FP.i2d (7 : Int32))) .l = vB) (hcA : ¬ vA < (0 : Int32)) (hcB : vB < (0 : Int32)) (hbb : FP.d2i ps = bb) (hn58 : Jvm.Free.Fl.NoNaN64 (FP.dsub ps (FP.i2d bb))) (hfr : FP.dsub ps (FP.i2d bb) = fr) (hb1 : bb - (1 : Int32) = b1) (hi1 : ¬ b1 < 0 ∧ b1 < (7 : Int32)) (hi2 : ¬ bb < 0 ∧ bb < (7 : Int32)) (ht1 : ([(.double (FP.l2d s0)), (.double (FP.l2d s1)), (.double (FP.l2d s2)), (.double (FP.l2d s3)), (.double (FP.l2d s4)), (.double (FP.l2d s5)), (.double (FP.l2d s6))] : List Value).getD b1.toNatClampNeg (.double (0 : UInt64)) = (.double (FP.l2d lo))) (ht2 : ([(.double (FP.l2d s0)), (.double (FP.l2d s1)), (.double (FP.l2d s2)), (.double (FP.l2d s3)), (.double (FP.l2d s4)), (.double (FP.l2d s5)), (.double (FP.l2d s6))] : List Value).getD bb.toNatClampNeg (.double (0 : UInt64)) = (.double (FP.l2d hi))) (hn79 : Jvm.Free.Fl.NoNaN64 (FP.dsub (FP.l2d hi) (FP.l2d lo))) (hn80 : Jvm.Free.Fl.NoNaN64 (FP.dmul fr (FP.dsub (FP.l2d hi) (FP.l2d lo)))) (hn81 : Jvm.Free.Fl.NoNaN64 (FP.dadd (FP.l2d lo) (FP.dmul fr (FP.dsub (FP.l2d hi) (FP.l2d lo)))))  :
    MetFree l (⟨"com/example/bytegauge/bytegauge/stats/JsonTable", "percentile", "([DD)D"⟩ : MethodName) (head1 (Jvm.Cond.code (⟨"com/example/bytegauge/bytegauge/stats/JsonTable", "percentile", "([DD)D"⟩ : MethodName) prog_53_method_6_code 11 (some .double) :: ws) ({ frames := 0, cells := 0, slots := 0, locals := 0 } : Room)) (fun a U => a = #[(.ref a1), (.double pp)] ∧ Z.Warmed39 U.vm ∧ U.heap = h0) (fun _ _ _ _ _ => True) (fun _ U o U' => ∃ v L, o = .returned v ∧ QD (FP.dadd (FP.l2d lo) (FP.dmul fr (FP.dsub (FP.l2d hi) (FP.l2d lo)))) h0 n0 v U'.heap L ∧ FrameEnd U o U' L ({ frames := 0, cells := 0, slots := 0, locals := 0 } : Room).cells ({ frames := 0, cells := 0, slots := 0, locals := 0 } : Room).slots) := by
  refine MetFree.of_bodySF (plainFor_of_name pn_com_example_bytegauge_bytegauge_stats_JsonTable) hisR ?_
  intro p e s m args below meth c s₁ Bd hml0 hP hK
  obtain ⟨rfl, hZ, hh⟩ := hP
  have hx := Bd.exec
  have hby := Bd.bytes
  have hml : c.maxLocals = 11 := hml0
  have hown : s.vm.findClass "com/example/bytegauge/bytegauge/stats/JsonTable" = some m.cls := findClass_of_methodNamed Bd.named
  have hnm := (name_of_methodNamed Bd.named Bd.method).1
  have X0 : Stand p l e ({ frames := 0, cells := 0, slots := 0, locals := 0 } : Room) s m #[(.ref a1), (.double pp)] below meth c s₁ [] 0 0 := Stand.of_body Bd
  have e0 : s₁.heap = h0 := by rw [← hh, Bd.state]; rfl
  have N0 := Fr.nil n0
  have pre0 : ∀ t, Steps p.tables e below (s₁.setTop (mkF m 0 #[.val (.ref a1), .val (.double pp), .second, .unset, .unset, .unset, .unset, .unset, .unset, .unset, .unset] [])) t → Steps p.tables e below (s₁.setTop (entryFrame m #[(.ref a1), (.double pp)] 11)) t := fun t k => castTop (ef_prog_53_method_6_code m a1 pp) k
  obtain ⟨cl1, Ar1, -, S1, Nn1, -, -⟩ := id V_a1
  obtain ⟨cl2, Ar2, -, S2, Nn2, H2, -⟩ := id V_a1
  have hin2 : ¬ (b1 < 0 ∨ cl2.slots.size ≤ (b1).toNatClampNeg) := inb_of S2 hi1
  have hat2 : cl2.slots[(b1).toNatClampNeg]? = some (.double (FP.l2d lo)) := H2.at hin2 ht1
  obtain ⟨cl3, Ar3, -, S3, Nn3, H3, -⟩ := id V_a1
  have hin3 : ¬ (bb < 0 ∨ cl3.slots.size ≤ (bb).toNatClampNeg) := inb_of S3 hi2
  have hat3 : cl3.slots[(bb).toNatClampNeg]? = some (.double (FP.l2d hi)) := H3.at hin3 ht2
  obtain ⟨cl4, Ar4, -, S4, Nn4, H4, -⟩ := id V_a1
  have hin4 : ¬ (b1 < 0 ∨ cl4.slots.size ≤ (b1).toNatClampNeg) := inb_of S4 hi1
  have hat4 : cl4.slots[(b1).toNatClampNeg]? = some (.double (FP.l2d lo)) := H4.at hin4 ht1
  obtain ⟨fs, hr, hrun, hended, hW, hsame⟩ := X0.leave (v := some (.double (FP.dadd (FP.l2d lo) (FP.dmul fr (FP.dsub (FP.l2d hi) (FP.l2d lo)))))) (fun h => by rw [Bd.returns] at h; cases h)
  refine ⟨_, _, pre0 _ ?_, hrun, hended, _, _, rfl, ?_, ⟨_, rfl⟩, hW, hsame.mono (by decide) (by decide)⟩
  · show Steps p.tables e below (s₁.setTop (mkF m 0 #[.val (.ref a1), .val (.double pp), .second, .unset, .unset, .unset, .unset, .unset, .unset, .unset, .unset] [])) _
    refine XS.aloadN X0.here hx rfl (hb hby d_prog_53_method_6_code_0) rfl rfl ?_
    show Steps p.tables e below (s₁.setTop (mkF m 1 #[.val (.ref a1), .val (.double pp), .second, .unset, .unset, .unset, .unset, .unset, .unset, .unset, .unset] [(.ref a1)])) _
    refine X0.arraylength hx (by rw [e0]; exact Ar1.1) (State.isArrayOf_alike hZ.alike Ar1.2.1) (g := (mkF m 1 #[.val (.ref a1), .val (.double pp), .second, .unset, .unset, .unset, .unset, .unset, .unset, .unset, .unset] [(.ref a1)])) rfl rfl (hb hby d_prog_53_method_6_code_1) _ ?_
    rw [len_of S1 Nn1]
    refine XS.istoreN X0.here hx rfl (hb hby d_prog_53_method_6_code_2) rfl (l' := #[.val (.ref a1), .val (.double pp), .second, .val (.int (7 : Int32)), .unset, .unset, .unset, .unset, .unset, .unset, .unset]) rfl ?_
    refine XS.iloadN X0.here hx rfl (hb hby d_prog_53_method_6_code_3) rfl ?_
    show Steps p.tables e below (s₁.setTop (mkF m 4 #[.val (.ref a1), .val (.double pp), .second, .val (.int (7 : Int32)), .unset, .unset, .unset, .unset, .unset, .unset, .unset] [(.int (7 : Int32))])) _
    refine XS.iconst X0.here hx rfl (hb hby d_prog_53_method_6_code_4) ?_
    refine XS.iadd X0.here hx rfl (hb hby d_prog_53_method_6_code_5) rfl ?_
    refine XS.i2dS X0.here hx rfl (hb hby d_prog_53_method_6_code_6) rfl (v := (FP.i2d ((7 : Int32) + (1 : Int32)))) (rfl) ?_
    show Steps p.tables e below (s₁.setTop (mkF m 7 #[.val (.ref a1), .val (.double pp), .second, .val (.int (7 : Int32)), .unset, .unset, .unset, .unset, .unset, .unset, .unset] [(.double (FP.i2d ((7 : Int32) + (1 : Int32))))])) _
    refine XS.dloadN X0.here hx rfl (hb hby d_prog_53_method_6_code_7) rfl ?_
    refine XS.dmulS X0.here hx rfl (hb hby d_prog_53_method_6_code_8) rfl hn8 (v := (FP.dmul (FP.i2d ((7 : Int32) + (1 : Int32))) pp)) (rfl) ?_
    show Steps p.tables e below (s₁.setTop (mkF m 9 #[.val (.ref a1), .val (.double pp), .second, .val (.int (7 : Int32)), .unset, .unset, .unset, .unset, .unset, .unset, .unset] [(.double (FP.dmul (FP.i2d ((7 : Int32) + (1 : Int32))) pp))])) _
    refine X0.ldc2DoubleC hx hown (mvT hZ (hw _ (List.mem_of_getElem? (i := 13) rfl))) (g := (mkF m 9 #[.val (.ref a1), .val (.double pp), .second, .val (.int (7 : Int32)), .unset, .unset, .unset, .unset, .unset, .unset, .unset] [(.double (FP.dmul (FP.i2d ((7 : Int32) + (1 : Int32))) pp))])) rfl (hb hby d_prog_53_method_6_code_9) _ ?_
    refine XS.ddivS X0.here hx rfl (hb hby d_prog_53_method_6_code_12) rfl hn12 (v := ps) (hv12) ?_
    refine XS.dstore X0.here hx rfl (hb hby d_prog_53_method_6_code_13) rfl (l' := #[.val (.ref a1), .val (.double pp), .second, .val (.int (7 : Int32)), .val (.double ps), .second, .unset, .unset, .unset, .unset, .unset]) rfl ?_
    show Steps p.tables e below (s₁.setTop (mkF m 15 #[.val (.ref a1), .val (.double pp), .second, .val (.int (7 : Int32)), .val (.double ps), .second, .unset, .unset, .unset, .unset, .unset] [])) _
    refine XS.dload X0.here hx rfl (hb hby d_prog_53_method_6_code_15) rfl ?_
    refine XS.dconst1 X0.here hx rfl (hb hby d_prog_53_method_6_code_17) (v := (4607182418800017408 : UInt64)) rfl ?_
    refine XS.dcmpS X0.here hx rfl (hb hby d_prog_53_method_6_code_18) rfl (v := vA) (hvA) ?_
    show Steps p.tables e below (s₁.setTop (mkF m 19 #[.val (.ref a1), .val (.double pp), .second, .val (.int (7 : Int32)), .val (.double ps), .second, .unset, .unset, .unset, .unset, .unset] [(.int vA)])) _
    refine XS.ifYes X0.here hx rfl (pc0 := 19) (pc' := 30) rfl (hb hby d_prog_53_method_6_code_19) rfl ((if0 _ _).trans (flt (hcA : ¬ (vA < (0 : Int32)))).2.1) (by decide) (by decide) ?_
    refine XS.dload X0.here hx rfl (hb hby d_prog_53_method_6_code_30) rfl ?_
    refine XS.iloadN X0.here hx rfl (hb hby d_prog_53_method_6_code_32) rfl ?_
    show Steps p.tables e below (s₁.setTop (mkF m 33 #[.val (.ref a1), .val (.double pp), .second, .val (.int (7 : Int32)), .val (.double ps), .second, .unset, .unset, .unset, .unset, .unset] [(.int (7 : Int32)), (.double ps)])) _
    refine XS.i2dS X0.here hx rfl (hb hby d_prog_53_method_6_code_33) rfl (v := (FP.i2d (7 : Int32))) (rfl) ?_
    refine XS.dcmpS X0.here hx rfl (hb hby d_prog_53_method_6_code_34) rfl (v := vB) (hvB) ?_
    refine XS.ifYes X0.here hx rfl (pc0 := 35) (pc' := 48) rfl (hb hby d_prog_53_method_6_code_35) rfl ((if0 _ _).trans (tlt (hcB : vB < (0 : Int32))).1) (by decide) (by decide) ?_
    show Steps p.tables e below (s₁.setTop (mkF m 48 #[.val (.ref a1), .val (.double pp), .second, .val (.int (7 : Int32)), .val (.double ps), .second, .unset, .unset, .unset, .unset, .unset] [])) _
    refine XS.dload X0.here hx rfl (hb hby d_prog_53_method_6_code_48) rfl ?_
    refine XS.d2iS X0.here hx rfl (hb hby d_prog_53_method_6_code_50) rfl (v := bb) (hbb) ?_
    refine XS.istore X0.here hx rfl (hb hby d_prog_53_method_6_code_51) rfl (l' := #[.val (.ref a1), .val (.double pp), .second, .val (.int (7 : Int32)), .val (.double ps), .second, .unset, .unset, .val (.int bb), .unset, .unset]) rfl ?_
    show Steps p.tables e below (s₁.setTop (mkF m 53 #[.val (.ref a1), .val (.double pp), .second, .val (.int (7 : Int32)), .val (.double ps), .second, .unset, .unset, .val (.int bb), .unset, .unset] [])) _
    refine XS.dload X0.here hx rfl (hb hby d_prog_53_method_6_code_53) rfl ?_
    refine XS.iload X0.here hx rfl (hb hby d_prog_53_method_6_code_55) rfl ?_
    refine XS.i2dS X0.here hx rfl (hb hby d_prog_53_method_6_code_57) rfl (v := (FP.i2d bb)) (rfl) ?_
    show Steps p.tables e below (s₁.setTop (mkF m 58 #[.val (.ref a1), .val (.double pp), .second, .val (.int (7 : Int32)), .val (.double ps), .second, .unset, .unset, .val (.int bb), .unset, .unset] [(.double (FP.i2d bb)), (.double ps)])) _
    refine XS.dsubS X0.here hx rfl (hb hby d_prog_53_method_6_code_58) rfl hn58 (v := fr) (hfr) ?_
    refine XS.dstore X0.here hx rfl (hb hby d_prog_53_method_6_code_59) rfl (l' := #[.val (.ref a1), .val (.double pp), .second, .val (.int (7 : Int32)), .val (.double ps), .second, .unset, .unset, .val (.int bb), .val (.double fr), .second]) rfl ?_
    refine XS.aloadN X0.here hx rfl (hb hby d_prog_53_method_6_code_61) rfl rfl ?_
    show Steps p.tables e below (s₁.setTop (mkF m 62 #[.val (.ref a1), .val (.double pp), .second, .val (.int (7 : Int32)), .val (.double ps), .second, .unset, .unset, .val (.int bb), .val (.double fr), .second] [(.ref a1)])) _
    refine XS.iload X0.here hx rfl (hb hby d_prog_53_method_6_code_62) rfl ?_
    refine XS.iconst X0.here hx rfl (hb hby d_prog_53_method_6_code_64) ?_
    refine XS.isub X0.here hx rfl (hb hby d_prog_53_method_6_code_65) rfl ?_
    show Steps p.tables e below (s₁.setTop (mkF m 66 #[.val (.ref a1), .val (.double pp), .second, .val (.int (7 : Int32)), .val (.double ps), .second, .unset, .unset, .val (.int bb), .val (.double fr), .second] [(.int (bb - (1 : Int32))), (.ref a1)])) _
    rw [show (bb - (1 : Int32)) = b1 from hb1]
    show Steps p.tables e below (s₁.setTop (mkF m 66 #[.val (.ref a1), .val (.double pp), .second, .val (.int (7 : Int32)), .val (.double ps), .second, .unset, .unset, .val (.int bb), .val (.double fr), .second] [(.int b1), (.ref a1)])) _
    refine X0.daload hx (j := b1) (v := (.double (FP.l2d lo))) (by rw [e0]; exact Ar2.1) (State.isArrayOf_alike hZ.alike Ar2.2.1) Ar2.2.2 hin2 hat2 (g := (mkF m 66 #[.val (.ref a1), .val (.double pp), .second, .val (.int (7 : Int32)), .val (.double ps), .second, .unset, .unset, .val (.int bb), .val (.double fr), .second] [(.int b1), (.ref a1)])) rfl rfl (hb hby d_prog_53_method_6_code_66) _ ?_
    refine XS.dload X0.here hx rfl (hb hby d_prog_53_method_6_code_67) rfl ?_
    refine XS.aloadN X0.here hx rfl (hb hby d_prog_53_method_6_code_69) rfl rfl ?_
    show Steps p.tables e below (s₁.setTop (mkF m 70 #[.val (.ref a1), .val (.double pp), .second, .val (.int (7 : Int32)), .val (.double ps), .second, .unset, .unset, .val (.int bb), .val (.double fr), .second] [(.ref a1), (.double fr), (.double (FP.l2d lo))])) _
    refine XS.iload X0.here hx rfl (hb hby d_prog_53_method_6_code_70) rfl ?_
    show Steps p.tables e below (s₁.setTop (mkF m 72 #[.val (.ref a1), .val (.double pp), .second, .val (.int (7 : Int32)), .val (.double ps), .second, .unset, .unset, .val (.int bb), .val (.double fr), .second] [(.int bb), (.ref a1), (.double fr), (.double (FP.l2d lo))])) _
    refine X0.daload hx (j := bb) (v := (.double (FP.l2d hi))) (by rw [e0]; exact Ar3.1) (State.isArrayOf_alike hZ.alike Ar3.2.1) Ar3.2.2 hin3 hat3 (g := (mkF m 72 #[.val (.ref a1), .val (.double pp), .second, .val (.int (7 : Int32)), .val (.double ps), .second, .unset, .unset, .val (.int bb), .val (.double fr), .second] [(.int bb), (.ref a1), (.double fr), (.double (FP.l2d lo))])) rfl rfl (hb hby d_prog_53_method_6_code_72) _ ?_
    refine XS.aloadN X0.here hx rfl (hb hby d_prog_53_method_6_code_73) rfl rfl ?_
    refine XS.iload X0.here hx rfl (hb hby d_prog_53_method_6_code_74) rfl ?_
    show Steps p.tables e below (s₁.setTop (mkF m 76 #[.val (.ref a1), .val (.double pp), .second, .val (.int (7 : Int32)), .val (.double ps), .second, .unset, .unset, .val (.int bb), .val (.double fr), .second] [(.int bb), (.ref a1), (.double (FP.l2d hi)), (.double fr), (.double (FP.l2d lo))])) _
    refine XS.iconst X0.here hx rfl (hb hby d_prog_53_method_6_code_76) ?_
    refine XS.isub X0.here hx rfl (hb hby d_prog_53_method_6_code_77) rfl ?_
    show Steps p.tables e below (s₁.setTop (mkF m 78 #[.val (.ref a1), .val (.double pp), .second, .val (.int (7 : Int32)), .val (.double ps), .second, .unset, .unset, .val (.int bb), .val (.double fr), .second] [(.int (bb - (1 : Int32))), (.ref a1), (.double (FP.l2d hi)), (.double fr), (.double (FP.l2d lo))])) _
    rw [show (bb - (1 : Int32)) = b1 from hb1]
    show Steps p.tables e below (s₁.setTop (mkF m 78 #[.val (.ref a1), .val (.double pp), .second, .val (.int (7 : Int32)), .val (.double ps), .second, .unset, .unset, .val (.int bb), .val (.double fr), .second] [(.int b1), (.ref a1), (.double (FP.l2d hi)), (.double fr), (.double (FP.l2d lo))])) _
    refine X0.daload hx (j := b1) (v := (.double (FP.l2d lo))) (by rw [e0]; exact Ar4.1) (State.isArrayOf_alike hZ.alike Ar4.2.1) Ar4.2.2 hin4 hat4 (g := (mkF m 78 #[.val (.ref a1), .val (.double pp), .second, .val (.int (7 : Int32)), .val (.double ps), .second, .unset, .unset, .val (.int bb), .val (.double fr), .second] [(.int b1), (.ref a1), (.double (FP.l2d hi)), (.double fr), (.double (FP.l2d lo))])) rfl rfl (hb hby d_prog_53_method_6_code_78) _ ?_
    refine XS.dsubS X0.here hx rfl (hb hby d_prog_53_method_6_code_79) rfl hn79 (v := (FP.dsub (FP.l2d hi) (FP.l2d lo))) (rfl) ?_
    refine XS.dmulS X0.here hx rfl (hb hby d_prog_53_method_6_code_80) rfl hn80 (v := (FP.dmul fr (FP.dsub (FP.l2d hi) (FP.l2d lo)))) (rfl) ?_
    show Steps p.tables e below (s₁.setTop (mkF m 81 #[.val (.ref a1), .val (.double pp), .second, .val (.int (7 : Int32)), .val (.double ps), .second, .unset, .unset, .val (.int bb), .val (.double fr), .second] [(.double (FP.dmul fr (FP.dsub (FP.l2d hi) (FP.l2d lo)))), (.double (FP.l2d lo))])) _
    refine XS.daddS X0.here hx rfl (hb hby d_prog_53_method_6_code_81) rfl hn81 (v := (FP.dadd (FP.l2d lo) (FP.dmul fr (FP.dsub (FP.l2d hi) (FP.l2d lo))))) (rfl) ?_
    refine XS.dstore X0.here hx rfl (hb hby d_prog_53_method_6_code_82) rfl (l' := #[.val (.ref a1), .val (.double pp), .second, .val (.int (7 : Int32)), .val (.double ps), .second, .val (.double (FP.dadd (FP.l2d lo) (FP.dmul fr (FP.dsub (FP.l2d hi) (FP.l2d lo))))), .second, .val (.int bb), .val (.double fr), .second]) rfl ?_
    refine XS.dload X0.here hx rfl (hb hby d_prog_53_method_6_code_84) rfl ?_
    show Steps p.tables e below (s₁.setTop (mkF m 86 #[.val (.ref a1), .val (.double pp), .second, .val (.int (7 : Int32)), .val (.double ps), .second, .val (.double (FP.dadd (FP.l2d lo) (FP.dmul fr (FP.dsub (FP.l2d hi) (FP.l2d lo))))), .second, .val (.int bb), .val (.double fr), .second] [(.double (FP.dadd (FP.l2d lo) (FP.dmul fr (FP.dsub (FP.l2d hi) (FP.l2d lo)))))])) _
    exact retOut X0 hx (t := .double) Bd.returns rfl (Or.inr (Or.inr (Or.inl ⟨rfl, rfl, _, rfl⟩))) (hb hby d_prog_53_method_6_code_86) hr
  · show QD (FP.dadd (FP.l2d lo) (FP.dmul fr (FP.dsub (FP.l2d hi) (FP.l2d lo)))) h0 n0 _ s₁.heap _
    rw [e0]
    exact ⟨rfl, N0, rfl⟩
set_option maxRecDepth 65536 in
set_option maxHeartbeats 40000000 in
theorem rmPa9 (l : Launch) (Z : State) (a0 : Array Value) (hw : ∀ d ∈ tables_1, d.before a0 Z = true) (ws : List Jvm.Cond) (a1 : Addr) (kA : ClassId) (s0 s1 s2 s3 s4 s5 s6 s7 s8 : Int64) (pp ps : UInt64) (h0 : Heap) (n0 : Nat) (Z0 : n0 ≤ h0.size) (V_a1 : Arv Z h0 a1 kA .double (9 : Int32) [(.double (FP.l2d s0)), (.double (FP.l2d s1)), (.double (FP.l2d s2)), (.double (FP.l2d s3)), (.double (FP.l2d s4)), (.double (FP.l2d s5)), (.double (FP.l2d s6)), (.double (FP.l2d s7)), (.double (FP.l2d s8))] (.double (0 : UInt64))) (hn8 : Jvm.Free.Fl.NoNaN64 (FP.dmul (FP.i2d ((9 : Int32) + (1 : Int32))) pp)) (hn12 : Jvm.Free.Fl.NoNaN64 (FP.ddiv (FP.dmul (FP.i2d ((9 : Int32) + (1 : Int32))) pp) (4636737291354636288 : UInt64))) (hv12 : FP.ddiv (FP.dmul (FP.i2d ((9 : Int32) + (1 : Int32))) pp) (4636737291354636288 : UInt64) = ps) (vA : Int32) (hvA : cmpValue (FP.dcmp ps (4607182418800017408 : UInt64)) .g = vA) (hcA : vA < (0 : Int32))  :
    MetFree l (⟨"com/example/bytegauge/bytegauge/stats/JsonTable", "percentile", "([DD)D"⟩ : MethodName) (head1 (Jvm.Cond.code (⟨"com/example/bytegauge/bytegauge/stats/JsonTable", "percentile", "([DD)D"⟩ : MethodName) prog_53_method_6_code 11 (some .double) :: ws) ({ frames := 0, cells := 0, slots := 0, locals := 0 } : Room)) (fun a U => a = #[(.ref a1), (.double pp)] ∧ Z.Warmed39 U.vm ∧ U.heap = h0) (fun _ _ _ _ _ => True) (fun _ U o U' => ∃ v L, o = .returned v ∧ QD (FP.l2d s0) h0 n0 v U'.heap L ∧ FrameEnd U o U' L ({ frames := 0, cells := 0, slots := 0, locals := 0 } : Room).cells ({ frames := 0, cells := 0, slots := 0, locals := 0 } : Room).slots) := by
  refine MetFree.of_bodySF (plainFor_of_name pn_com_example_bytegauge_bytegauge_stats_JsonTable) hisR ?_
  intro p e s m args below meth c s₁ Bd hml0 hP hK
  obtain ⟨rfl, hZ, hh⟩ := hP
  have hx := Bd.exec
  have hby := Bd.bytes
  have hml : c.maxLocals = 11 := hml0
  have hown : s.vm.findClass "com/example/bytegauge/bytegauge/stats/JsonTable" = some m.cls := findClass_of_methodNamed Bd.named
  have hnm := (name_of_methodNamed Bd.named Bd.method).1
  have X0 : Stand p l e ({ frames := 0, cells := 0, slots := 0, locals := 0 } : Room) s m #[(.ref a1), (.double pp)] below meth c s₁ [] 0 0 := Stand.of_body Bd
  have e0 : s₁.heap = h0 := by rw [← hh, Bd.state]; rfl
  have N0 := Fr.nil n0
  have pre0 : ∀ t, Steps p.tables e below (s₁.setTop (mkF m 0 #[.val (.ref a1), .val (.double pp), .second, .unset, .unset, .unset, .unset, .unset, .unset, .unset, .unset] [])) t → Steps p.tables e below (s₁.setTop (entryFrame m #[(.ref a1), (.double pp)] 11)) t := fun t k => castTop (ef_prog_53_method_6_code m a1 pp) k
  obtain ⟨cl1, Ar1, -, S1, Nn1, -, -⟩ := id V_a1
  obtain ⟨cl2, Ar2, -, S2, Nn2, H2, -⟩ := id V_a1
  have hin2 : ¬ ((0 : Int32) < 0 ∨ cl2.slots.size ≤ ((0 : Int32)).toNatClampNeg) := inb_of S2 ⟨by decide, by decide⟩
  have hat2 : cl2.slots[((0 : Int32)).toNatClampNeg]? = some (.double (FP.l2d s0)) := H2.at hin2 rfl
  obtain ⟨fs, hr, hrun, hended, hW, hsame⟩ := X0.leave (v := some (.double (FP.l2d s0))) (fun h => by rw [Bd.returns] at h; cases h)
  refine ⟨_, _, pre0 _ ?_, hrun, hended, _, _, rfl, ?_, ⟨_, rfl⟩, hW, hsame.mono (by decide) (by decide)⟩
  · show Steps p.tables e below (s₁.setTop (mkF m 0 #[.val (.ref a1), .val (.double pp), .second, .unset, .unset, .unset, .unset, .unset, .unset, .unset, .unset] [])) _
    refine XS.aloadN X0.here hx rfl (hb hby d_prog_53_method_6_code_0) rfl rfl ?_
    show Steps p.tables e below (s₁.setTop (mkF m 1 #[.val (.ref a1), .val (.double pp), .second, .unset, .unset, .unset, .unset, .unset, .unset, .unset, .unset] [(.ref a1)])) _
    refine X0.arraylength hx (by rw [e0]; exact Ar1.1) (State.isArrayOf_alike hZ.alike Ar1.2.1) (g := (mkF m 1 #[.val (.ref a1), .val (.double pp), .second, .unset, .unset, .unset, .unset, .unset, .unset, .unset, .unset] [(.ref a1)])) rfl rfl (hb hby d_prog_53_method_6_code_1) _ ?_
    rw [len_of S1 Nn1]
    refine XS.istoreN X0.here hx rfl (hb hby d_prog_53_method_6_code_2) rfl (l' := #[.val (.ref a1), .val (.double pp), .second, .val (.int (9 : Int32)), .unset, .unset, .unset, .unset, .unset, .unset, .unset]) rfl ?_
    refine XS.iloadN X0.here hx rfl (hb hby d_prog_53_method_6_code_3) rfl ?_
    show Steps p.tables e below (s₁.setTop (mkF m 4 #[.val (.ref a1), .val (.double pp), .second, .val (.int (9 : Int32)), .unset, .unset, .unset, .unset, .unset, .unset, .unset] [(.int (9 : Int32))])) _
    refine XS.iconst X0.here hx rfl (hb hby d_prog_53_method_6_code_4) ?_
    refine XS.iadd X0.here hx rfl (hb hby d_prog_53_method_6_code_5) rfl ?_
    refine XS.i2dS X0.here hx rfl (hb hby d_prog_53_method_6_code_6) rfl (v := (FP.i2d ((9 : Int32) + (1 : Int32)))) (rfl) ?_
    show Steps p.tables e below (s₁.setTop (mkF m 7 #[.val (.ref a1), .val (.double pp), .second, .val (.int (9 : Int32)), .unset, .unset, .unset, .unset, .unset, .unset, .unset] [(.double (FP.i2d ((9 : Int32) + (1 : Int32))))])) _
    refine XS.dloadN X0.here hx rfl (hb hby d_prog_53_method_6_code_7) rfl ?_
    refine XS.dmulS X0.here hx rfl (hb hby d_prog_53_method_6_code_8) rfl hn8 (v := (FP.dmul (FP.i2d ((9 : Int32) + (1 : Int32))) pp)) (rfl) ?_
    show Steps p.tables e below (s₁.setTop (mkF m 9 #[.val (.ref a1), .val (.double pp), .second, .val (.int (9 : Int32)), .unset, .unset, .unset, .unset, .unset, .unset, .unset] [(.double (FP.dmul (FP.i2d ((9 : Int32) + (1 : Int32))) pp))])) _
    refine X0.ldc2DoubleC hx hown (mvT hZ (hw _ (List.mem_of_getElem? (i := 13) rfl))) (g := (mkF m 9 #[.val (.ref a1), .val (.double pp), .second, .val (.int (9 : Int32)), .unset, .unset, .unset, .unset, .unset, .unset, .unset] [(.double (FP.dmul (FP.i2d ((9 : Int32) + (1 : Int32))) pp))])) rfl (hb hby d_prog_53_method_6_code_9) _ ?_
    refine XS.ddivS X0.here hx rfl (hb hby d_prog_53_method_6_code_12) rfl hn12 (v := ps) (hv12) ?_
    refine XS.dstore X0.here hx rfl (hb hby d_prog_53_method_6_code_13) rfl (l' := #[.val (.ref a1), .val (.double pp), .second, .val (.int (9 : Int32)), .val (.double ps), .second, .unset, .unset, .unset, .unset, .unset]) rfl ?_
    show Steps p.tables e below (s₁.setTop (mkF m 15 #[.val (.ref a1), .val (.double pp), .second, .val (.int (9 : Int32)), .val (.double ps), .second, .unset, .unset, .unset, .unset, .unset] [])) _
    refine XS.dload X0.here hx rfl (hb hby d_prog_53_method_6_code_15) rfl ?_
    refine XS.dconst1 X0.here hx rfl (hb hby d_prog_53_method_6_code_17) (v := (4607182418800017408 : UInt64)) rfl ?_
    refine XS.dcmpS X0.here hx rfl (hb hby d_prog_53_method_6_code_18) rfl (v := vA) (hvA) ?_
    show Steps p.tables e below (s₁.setTop (mkF m 19 #[.val (.ref a1), .val (.double pp), .second, .val (.int (9 : Int32)), .val (.double ps), .second, .unset, .unset, .unset, .unset, .unset] [(.int vA)])) _
    refine XS.ifNo X0.here hx rfl (hb hby d_prog_53_method_6_code_19) rfl ((if0 _ _).trans (tlt (hcA : vA < (0 : Int32))).2.1) ?_
    refine XS.aloadN X0.here hx rfl (hb hby d_prog_53_method_6_code_22) rfl rfl ?_
    refine XS.iconst X0.here hx rfl (hb hby d_prog_53_method_6_code_23) ?_
    show Steps p.tables e below (s₁.setTop (mkF m 24 #[.val (.ref a1), .val (.double pp), .second, .val (.int (9 : Int32)), .val (.double ps), .second, .unset, .unset, .unset, .unset, .unset] [(.int (0 : Int32)), (.ref a1)])) _
    refine X0.daload hx (j := (0 : Int32)) (v := (.double (FP.l2d s0))) (by rw [e0]; exact Ar2.1) (State.isArrayOf_alike hZ.alike Ar2.2.1) Ar2.2.2 hin2 hat2 (g := (mkF m 24 #[.val (.ref a1), .val (.double pp), .second, .val (.int (9 : Int32)), .val (.double ps), .second, .unset, .unset, .unset, .unset, .unset] [(.int (0 : Int32)), (.ref a1)])) rfl rfl (hb hby d_prog_53_method_6_code_24) _ ?_
    refine XS.dstore X0.here hx rfl (hb hby d_prog_53_method_6_code_25) rfl (l' := #[.val (.ref a1), .val (.double pp), .second, .val (.int (9 : Int32)), .val (.double ps), .second, .val (.double (FP.l2d s0)), .second, .unset, .unset, .unset]) rfl ?_
    refine XS.goto X0.here hx rfl (pc0 := 27) (pc' := 84) rfl (hb hby d_prog_53_method_6_code_27) (by decide) (by decide) ?_
    show Steps p.tables e below (s₁.setTop (mkF m 84 #[.val (.ref a1), .val (.double pp), .second, .val (.int (9 : Int32)), .val (.double ps), .second, .val (.double (FP.l2d s0)), .second, .unset, .unset, .unset] [])) _
    refine XS.dload X0.here hx rfl (hb hby d_prog_53_method_6_code_84) rfl ?_
    show Steps p.tables e below (s₁.setTop (mkF m 86 #[.val (.ref a1), .val (.double pp), .second, .val (.int (9 : Int32)), .val (.double ps), .second, .val (.double (FP.l2d s0)), .second, .unset, .unset, .unset] [(.double (FP.l2d s0))])) _
    exact retOut X0 hx (t := .double) Bd.returns rfl (Or.inr (Or.inr (Or.inl ⟨rfl, rfl, _, rfl⟩))) (hb hby d_prog_53_method_6_code_86) hr
  · show QD (FP.l2d s0) h0 n0 _ s₁.heap _
    rw [e0]
    exact ⟨rfl, N0, rfl⟩
set_option maxRecDepth 65536 in
set_option maxHeartbeats 40000000 in
theorem rmPb9 (l : Launch) (Z : State) (a0 : Array Value) (hw : ∀ d ∈ tables_1, d.before a0 Z = true) (ws : List Jvm.Cond) (a1 : Addr) (kA : ClassId) (s0 s1 s2 s3 s4 s5 s6 s7 s8 : Int64) (pp ps : UInt64) (h0 : Heap) (n0 : Nat) (Z0 : n0 ≤ h0.size) (V_a1 : Arv Z h0 a1 kA .double (9 : Int32) [(.double (FP.l2d s0)), (.double (FP.l2d s1)), (.double (FP.l2d s2)), (.double (FP.l2d s3)), (.double (FP.l2d s4)), (.double (FP.l2d s5)), (.double (FP.l2d s6)), (.double (FP.l2d s7)), (.double (FP.l2d s8))] (.double (0 : UInt64))) (hn8 : Jvm.Free.Fl.NoNaN64 (FP.dmul (FP.i2d ((9 : Int32) + (1 : Int32))) pp)) (hn12 : Jvm.Free.Fl.NoNaN64 (FP.ddiv (FP.dmul (FP.i2d ((9 : Int32) + (1 : Int32))) pp) (4636737291354636288 : UInt64))) (hv12 : FP.ddiv (FP.dmul (FP.i2d ((9 : Int32) + (1 : Int32))) pp) (4636737291354636288 : UInt64) = ps) (vA : Int32) (hvA : cmpValue (FP.dcmp ps (4607182418800017408 : UInt64)) .g = vA) (vB : Int32) (hvB : cmpValue (FP.dcmp ps (FP.i2d (9 : Int32))) .l = vB) (hcA : ¬ vA < (0 : Int32)) (hcB : ¬ vB < (0 : Int32))  :
    MetFree l (⟨"com/example/bytegauge/bytegauge/stats/JsonTable", "percentile", "([DD)D"⟩ : MethodName) (head1 (Jvm.Cond.code (⟨"com/example/bytegauge/bytegauge/stats/JsonTable", "percentile", "([DD)D"⟩ : MethodName) prog_53_method_6_code 11 (some .double) :: ws) ({ frames := 0, cells := 0, slots := 0, locals := 0 } : Room)) (fun a U => a = #[(.ref a1), (.double pp)] ∧ Z.Warmed39 U.vm ∧ U.heap = h0) (fun _ _ _ _ _ => True) (fun _ U o U' => ∃ v L, o = .returned v ∧ QD (FP.l2d s8) h0 n0 v U'.heap L ∧ FrameEnd U o U' L ({ frames := 0, cells := 0, slots := 0, locals := 0 } : Room).cells ({ frames := 0, cells := 0, slots := 0, locals := 0 } : Room).slots) := by
  refine MetFree.of_bodySF (plainFor_of_name pn_com_example_bytegauge_bytegauge_stats_JsonTable) hisR ?_
  intro p e s m args below meth c s₁ Bd hml0 hP hK
  obtain ⟨rfl, hZ, hh⟩ := hP
  have hx := Bd.exec
  have hby := Bd.bytes
  have hml : c.maxLocals = 11 := hml0
  have hown : s.vm.findClass "com/example/bytegauge/bytegauge/stats/JsonTable" = some m.cls := findClass_of_methodNamed Bd.named
  have hnm := (name_of_methodNamed Bd.named Bd.method).1
  have X0 : Stand p l e ({ frames := 0, cells := 0, slots := 0, locals := 0 } : Room) s m #[(.ref a1), (.double pp)] below meth c s₁ [] 0 0 := Stand.of_body Bd
  have e0 : s₁.heap = h0 := by rw [← hh, Bd.state]; rfl
  have N0 := Fr.nil n0
  have pre0 : ∀ t, Steps p.tables e below (s₁.setTop (mkF m 0 #[.val (.ref a1), .val (.double pp), .second, .unset, .unset, .unset, .unset, .unset, .unset, .unset, .unset] [])) t → Steps p.tables e below (s₁.setTop (entryFrame m #[(.ref a1), (.double pp)] 11)) t := fun t k => castTop (ef_prog_53_method_6_code m a1 pp) k
  obtain ⟨cl1, Ar1, -, S1, Nn1, -, -⟩ := id V_a1
  obtain ⟨cl2, Ar2, -, S2, Nn2, H2, -⟩ := id V_a1
  have hin2 : ¬ ((8 : Int32) < 0 ∨ cl2.slots.size ≤ ((8 : Int32)).toNatClampNeg) := inb_of S2 ⟨by decide, by decide⟩
  have hat2 : cl2.slots[((8 : Int32)).toNatClampNeg]? = some (.double (FP.l2d s8)) := H2.at hin2 rfl
  obtain ⟨fs, hr, hrun, hended, hW, hsame⟩ := X0.leave (v := some (.double (FP.l2d s8))) (fun h => by rw [Bd.returns] at h; cases h)
  refine ⟨_, _, pre0 _ ?_, hrun, hended, _, _, rfl, ?_, ⟨_, rfl⟩, hW, hsame.mono (by decide) (by decide)⟩
  · show Steps p.tables e below (s₁.setTop (mkF m 0 #[.val (.ref a1), .val (.double pp), .second, .unset, .unset, .unset, .unset, .unset, .unset, .unset, .unset] [])) _
    refine XS.aloadN X0.here hx rfl (hb hby d_prog_53_method_6_code_0) rfl rfl ?_
    show Steps p.tables e below (s₁.setTop (mkF m 1 #[.val (.ref a1), .val (.double pp), .second, .unset, .unset, .unset, .unset, .unset, .unset, .unset, .unset] [(.ref a1)])) _
    refine X0.arraylength hx (by rw [e0]; exact Ar1.1) (State.isArrayOf_alike hZ.alike Ar1.2.1) (g := (mkF m 1 #[.val (.ref a1), .val (.double pp), .second, .unset, .unset, .unset, .unset, .unset, .unset, .unset, .unset] [(.ref a1)])) rfl rfl (hb hby d_prog_53_method_6_code_1) _ ?_
    rw [len_of S1 Nn1]
    refine XS.istoreN X0.here hx rfl (hb hby d_prog_53_method_6_code_2) rfl (l' := #[.val (.ref a1), .val (.double pp), .second, .val (.int (9 : Int32)), .unset, .unset, .unset, .unset, .unset, .unset, .unset]) rfl ?_
    refine XS.iloadN X0.here hx rfl (hb hby d_prog_53_method_6_code_3) rfl ?_
    show Steps p.tables e below (s₁.setTop (mkF m 4 #[.val (.ref a1), .val (.double pp), .second, .val (.int (9 : Int32)), .unset, .unset, .unset, .unset, .unset, .unset, .unset] [(.int (9 : Int32))])) _
    refine XS.iconst X0.here hx rfl (hb hby d_prog_53_method_6_code_4) ?_
    refine XS.iadd X0.here hx rfl (hb hby d_prog_53_method_6_code_5) rfl ?_
    refine XS.i2dS X0.here hx rfl (hb hby d_prog_53_method_6_code_6) rfl (v := (FP.i2d ((9 : Int32) + (1 : Int32)))) (rfl) ?_
    show Steps p.tables e below (s₁.setTop (mkF m 7 #[.val (.ref a1), .val (.double pp), .second, .val (.int (9 : Int32)), .unset, .unset, .unset, .unset, .unset, .unset, .unset] [(.double (FP.i2d ((9 : Int32) + (1 : Int32))))])) _
    refine XS.dloadN X0.here hx rfl (hb hby d_prog_53_method_6_code_7) rfl ?_
    refine XS.dmulS X0.here hx rfl (hb hby d_prog_53_method_6_code_8) rfl hn8 (v := (FP.dmul (FP.i2d ((9 : Int32) + (1 : Int32))) pp)) (rfl) ?_
    show Steps p.tables e below (s₁.setTop (mkF m 9 #[.val (.ref a1), .val (.double pp), .second, .val (.int (9 : Int32)), .unset, .unset, .unset, .unset, .unset, .unset, .unset] [(.double (FP.dmul (FP.i2d ((9 : Int32) + (1 : Int32))) pp))])) _
    refine X0.ldc2DoubleC hx hown (mvT hZ (hw _ (List.mem_of_getElem? (i := 13) rfl))) (g := (mkF m 9 #[.val (.ref a1), .val (.double pp), .second, .val (.int (9 : Int32)), .unset, .unset, .unset, .unset, .unset, .unset, .unset] [(.double (FP.dmul (FP.i2d ((9 : Int32) + (1 : Int32))) pp))])) rfl (hb hby d_prog_53_method_6_code_9) _ ?_
    refine XS.ddivS X0.here hx rfl (hb hby d_prog_53_method_6_code_12) rfl hn12 (v := ps) (hv12) ?_
    refine XS.dstore X0.here hx rfl (hb hby d_prog_53_method_6_code_13) rfl (l' := #[.val (.ref a1), .val (.double pp), .second, .val (.int (9 : Int32)), .val (.double ps), .second, .unset, .unset, .unset, .unset, .unset]) rfl ?_
    show Steps p.tables e below (s₁.setTop (mkF m 15 #[.val (.ref a1), .val (.double pp), .second, .val (.int (9 : Int32)), .val (.double ps), .second, .unset, .unset, .unset, .unset, .unset] [])) _
    refine XS.dload X0.here hx rfl (hb hby d_prog_53_method_6_code_15) rfl ?_
    refine XS.dconst1 X0.here hx rfl (hb hby d_prog_53_method_6_code_17) (v := (4607182418800017408 : UInt64)) rfl ?_
    refine XS.dcmpS X0.here hx rfl (hb hby d_prog_53_method_6_code_18) rfl (v := vA) (hvA) ?_
    show Steps p.tables e below (s₁.setTop (mkF m 19 #[.val (.ref a1), .val (.double pp), .second, .val (.int (9 : Int32)), .val (.double ps), .second, .unset, .unset, .unset, .unset, .unset] [(.int vA)])) _
    refine XS.ifYes X0.here hx rfl (pc0 := 19) (pc' := 30) rfl (hb hby d_prog_53_method_6_code_19) rfl ((if0 _ _).trans (flt (hcA : ¬ (vA < (0 : Int32)))).2.1) (by decide) (by decide) ?_
    refine XS.dload X0.here hx rfl (hb hby d_prog_53_method_6_code_30) rfl ?_
    refine XS.iloadN X0.here hx rfl (hb hby d_prog_53_method_6_code_32) rfl ?_
    show Steps p.tables e below (s₁.setTop (mkF m 33 #[.val (.ref a1), .val (.double pp), .second, .val (.int (9 : Int32)), .val (.double ps), .second, .unset, .unset, .unset, .unset, .unset] [(.int (9 : Int32)), (.double ps)])) _
    refine XS.i2dS X0.here hx rfl (hb hby d_prog_53_method_6_code_33) rfl (v := (FP.i2d (9 : Int32))) (rfl) ?_
    refine XS.dcmpS X0.here hx rfl (hb hby d_prog_53_method_6_code_34) rfl (v := vB) (hvB) ?_
    refine XS.ifNo X0.here hx rfl (hb hby d_prog_53_method_6_code_35) rfl ((if0 _ _).trans (flt (hcB : ¬ (vB < (0 : Int32)))).1) ?_
    show Steps p.tables e below (s₁.setTop (mkF m 38 #[.val (.ref a1), .val (.double pp), .second, .val (.int (9 : Int32)), .val (.double ps), .second, .unset, .unset, .unset, .unset, .unset] [])) _
    refine XS.aloadN X0.here hx rfl (hb hby d_prog_53_method_6_code_38) rfl rfl ?_
    refine XS.iloadN X0.here hx rfl (hb hby d_prog_53_method_6_code_39) rfl ?_
    refine XS.iconst X0.here hx rfl (hb hby d_prog_53_method_6_code_40) ?_
    show Steps p.tables e below (s₁.setTop (mkF m 41 #[.val (.ref a1), .val (.double pp), .second, .val (.int (9 : Int32)), .val (.double ps), .second, .unset, .unset, .unset, .unset, .unset] [(.int (1 : Int32)), (.int (9 : Int32)), (.ref a1)])) _
    refine XS.isub X0.here hx rfl (hb hby d_prog_53_method_6_code_41) rfl ?_
    show Steps p.tables e below (s₁.setTop (mkF m 42 #[.val (.ref a1), .val (.double pp), .second, .val (.int (9 : Int32)), .val (.double ps), .second, .unset, .unset, .unset, .unset, .unset] [(.int ((9 : Int32) - (1 : Int32))), (.ref a1)])) _
    rw [show ((9 : Int32) - (1 : Int32)) = (8 : Int32) from (by decide)]
    show Steps p.tables e below (s₁.setTop (mkF m 42 #[.val (.ref a1), .val (.double pp), .second, .val (.int (9 : Int32)), .val (.double ps), .second, .unset, .unset, .unset, .unset, .unset] [(.int (8 : Int32)), (.ref a1)])) _
    refine X0.daload hx (j := (8 : Int32)) (v := (.double (FP.l2d s8))) (by rw [e0]; exact Ar2.1) (State.isArrayOf_alike hZ.alike Ar2.2.1) Ar2.2.2 hin2 hat2 (g := (mkF m 42 #[.val (.ref a1), .val (.double pp), .second, .val (.int (9 : Int32)), .val (.double ps), .second, .unset, .unset, .unset, .unset, .unset] [(.int (8 : Int32)), (.ref a1)])) rfl rfl (hb hby d_prog_53_method_6_code_42) _ ?_
    refine XS.dstore X0.here hx rfl (hb hby d_prog_53_method_6_code_43) rfl (l' := #[.val (.ref a1), .val (.double pp), .second, .val (.int (9 : Int32)), .val (.double ps), .second, .val (.double (FP.l2d s8)), .second, .unset, .unset, .unset]) rfl ?_
    refine XS.goto X0.here hx rfl (pc0 := 45) (pc' := 84) rfl (hb hby d_prog_53_method_6_code_45) (by decide) (by decide) ?_
    show Steps p.tables e below (s₁.setTop (mkF m 84 #[.val (.ref a1), .val (.double pp), .second, .val (.int (9 : Int32)), .val (.double ps), .second, .val (.double (FP.l2d s8)), .second, .unset, .unset, .unset] [])) _
    refine XS.dload X0.here hx rfl (hb hby d_prog_53_method_6_code_84) rfl ?_
    show Steps p.tables e below (s₁.setTop (mkF m 86 #[.val (.ref a1), .val (.double pp), .second, .val (.int (9 : Int32)), .val (.double ps), .second, .val (.double (FP.l2d s8)), .second, .unset, .unset, .unset] [(.double (FP.l2d s8))])) _
    exact retOut X0 hx (t := .double) Bd.returns rfl (Or.inr (Or.inr (Or.inl ⟨rfl, rfl, _, rfl⟩))) (hb hby d_prog_53_method_6_code_86) hr
  · show QD (FP.l2d s8) h0 n0 _ s₁.heap _
    rw [e0]
    exact ⟨rfl, N0, rfl⟩
set_option maxRecDepth 65536 in
set_option maxHeartbeats 40000000 in
theorem rmPc9 (l : Launch) (Z : State) (a0 : Array Value) (hw : ∀ d ∈ tables_1, d.before a0 Z = true) (ws : List Jvm.Cond) (a1 : Addr) (kA : ClassId) (s0 s1 s2 s3 s4 s5 s6 s7 s8 : Int64) (pp ps : UInt64) (fr : UInt64) (lo hi : Int64) (bb b1 : Int32) (h0 : Heap) (n0 : Nat) (Z0 : n0 ≤ h0.size) (V_a1 : Arv Z h0 a1 kA .double (9 : Int32) [(.double (FP.l2d s0)), (.double (FP.l2d s1)), (.double (FP.l2d s2)), (.double (FP.l2d s3)), (.double (FP.l2d s4)), (.double (FP.l2d s5)), (.double (FP.l2d s6)), (.double (FP.l2d s7)), (.double (FP.l2d s8))] (.double (0 : UInt64))) (hn8 : Jvm.Free.Fl.NoNaN64 (FP.dmul (FP.i2d ((9 : Int32) + (1 : Int32))) pp)) (hn12 : Jvm.Free.Fl.NoNaN64 (FP.ddiv (FP.dmul (FP.i2d ((9 : Int32) + (1 : Int32))) pp) (4636737291354636288 : UInt64))) (hv12 : FP.ddiv (FP.dmul (FP.i2d ((9 : Int32) + (1 : Int32))) pp) (4636737291354636288 : UInt64) = ps) (vA : Int32) (hvA : cmpValue (FP.dcmp ps (4607182418800017408 : UInt64)) .g = vA) (vB : Int32) (hvB : cmpValue (FP.dcmp ps (FP.i2d (9 : Int32))) .l = vB) (hcA : ¬ vA < (0 : Int32)) (hcB : vB < (0 : Int32)) (hbb : FP.d2i ps = bb) (hn58 : Jvm.Free.Fl.NoNaN64 (FP.dsub ps (FP.i2d bb))) (hfr : FP.dsub ps (FP.i2d bb) = fr) (hb1 : bb - (1 : Int32) = b1) (hi1 : ¬ b1 < 0 ∧ b1 < (9 : Int32)) (hi2 : ¬ bb < 0 ∧ bb < (9 : Int32)) (ht1 : ([(.double (FP.l2d s0)), (.double (FP.l2d s1)), (.double (FP.l2d s2)), (.double (FP.l2d s3)), (.double (FP.l2d s4)), (.double (FP.l2d s5)), (.double (FP.l2d s6)), (.double (FP.l2d s7)), (.double (FP.l2d s8))] : List Value).getD b1.toNatClampNeg (.double (0 : UInt64)) = (.double (FP.l2d lo))) (ht2 : ([(.double (FP.l2d s0)), (.double (FP.l2d s1)), (.double (FP.l2d s2)), (.double (FP.l2d s3)), (.double (FP.l2d s4)), (.double (FP.l2d s5)), (.double (FP.l2d s6)), (.double (FP.l2d s7)), (.double (FP.l2d s8))] : List Value).getD bb.toNatClampNeg (.double (0 : UInt64)) = (.double (FP.l2d hi))) (hn79 : Jvm.Free.Fl.NoNaN64 (FP.dsub (FP.l2d hi) (FP.l2d lo))) (hn80 : Jvm.Free.Fl.NoNaN64 (FP.dmul fr (FP.dsub (FP.l2d hi) (FP.l2d lo)))) (hn81 : Jvm.Free.Fl.NoNaN64 (FP.dadd (FP.l2d lo) (FP.dmul fr (FP.dsub (FP.l2d hi) (FP.l2d lo)))))  :
    MetFree l (⟨"com/example/bytegauge/bytegauge/stats/JsonTable", "percentile", "([DD)D"⟩ : MethodName) (head1 (Jvm.Cond.code (⟨"com/example/bytegauge/bytegauge/stats/JsonTable", "percentile", "([DD)D"⟩ : MethodName) prog_53_method_6_code 11 (some .double) :: ws) ({ frames := 0, cells := 0, slots := 0, locals := 0 } : Room)) (fun a U => a = #[(.ref a1), (.double pp)] ∧ Z.Warmed39 U.vm ∧ U.heap = h0) (fun _ _ _ _ _ => True) (fun _ U o U' => ∃ v L, o = .returned v ∧ QD (FP.dadd (FP.l2d lo) (FP.dmul fr (FP.dsub (FP.l2d hi) (FP.l2d lo)))) h0 n0 v U'.heap L ∧ FrameEnd U o U' L ({ frames := 0, cells := 0, slots := 0, locals := 0 } : Room).cells ({ frames := 0, cells := 0, slots := 0, locals := 0 } : Room).slots) := by
  refine MetFree.of_bodySF (plainFor_of_name pn_com_example_bytegauge_bytegauge_stats_JsonTable) hisR ?_
  intro p e s m args below meth c s₁ Bd hml0 hP hK
  obtain ⟨rfl, hZ, hh⟩ := hP
  have hx := Bd.exec
  have hby := Bd.bytes
  have hml : c.maxLocals = 11 := hml0
  have hown : s.vm.findClass "com/example/bytegauge/bytegauge/stats/JsonTable" = some m.cls := findClass_of_methodNamed Bd.named
  have hnm := (name_of_methodNamed Bd.named Bd.method).1
  have X0 : Stand p l e ({ frames := 0, cells := 0, slots := 0, locals := 0 } : Room) s m #[(.ref a1), (.double pp)] below meth c s₁ [] 0 0 := Stand.of_body Bd
  have e0 : s₁.heap = h0 := by rw [← hh, Bd.state]; rfl
  have N0 := Fr.nil n0
  have pre0 : ∀ t, Steps p.tables e below (s₁.setTop (mkF m 0 #[.val (.ref a1), .val (.double pp), .second, .unset, .unset, .unset, .unset, .unset, .unset, .unset, .unset] [])) t → Steps p.tables e below (s₁.setTop (entryFrame m #[(.ref a1), (.double pp)] 11)) t := fun t k => castTop (ef_prog_53_method_6_code m a1 pp) k
  obtain ⟨cl1, Ar1, -, S1, Nn1, -, -⟩ := id V_a1
  obtain ⟨cl2, Ar2, -, S2, Nn2, H2, -⟩ := id V_a1
  have hin2 : ¬ (b1 < 0 ∨ cl2.slots.size ≤ (b1).toNatClampNeg) := inb_of S2 hi1
  have hat2 : cl2.slots[(b1).toNatClampNeg]? = some (.double (FP.l2d lo)) := H2.at hin2 ht1
  obtain ⟨cl3, Ar3, -, S3, Nn3, H3, -⟩ := id V_a1
  have hin3 : ¬ (bb < 0 ∨ cl3.slots.size ≤ (bb).toNatClampNeg) := inb_of S3 hi2
  have hat3 : cl3.slots[(bb).toNatClampNeg]? = some (.double (FP.l2d hi)) := H3.at hin3 ht2
  obtain ⟨cl4, Ar4, -, S4, Nn4, H4, -⟩ := id V_a1
  have hin4 : ¬ (b1 < 0 ∨ cl4.slots.size ≤ (b1).toNatClampNeg) := inb_of S4 hi1
  have hat4 : cl4.slots[(b1).toNatClampNeg]? = some (.double (FP.l2d lo)) := H4.at hin4 ht1
  obtain ⟨fs, hr, hrun, hended, hW, hsame⟩ := X0.leave (v := some (.double (FP.dadd (FP.l2d lo) (FP.dmul fr (FP.dsub (FP.l2d hi) (FP.l2d lo)))))) (fun h => by rw [Bd.returns] at h; cases h)
  refine ⟨_, _, pre0 _ ?_, hrun, hended, _, _, rfl, ?_, ⟨_, rfl⟩, hW, hsame.mono (by decide) (by decide)⟩
  · show Steps p.tables e below (s₁.setTop (mkF m 0 #[.val (.ref a1), .val (.double pp), .second, .unset, .unset, .unset, .unset, .unset, .unset, .unset, .unset] [])) _
    refine XS.aloadN X0.here hx rfl (hb hby d_prog_53_method_6_code_0) rfl rfl ?_
    show Steps p.tables e below (s₁.setTop (mkF m 1 #[.val (.ref a1), .val (.double pp), .second, .unset, .unset, .unset, .unset, .unset, .unset, .unset, .unset] [(.ref a1)])) _
    refine X0.arraylength hx (by rw [e0]; exact Ar1.1) (State.isArrayOf_alike hZ.alike Ar1.2.1) (g := (mkF m 1 #[.val (.ref a1), .val (.double pp), .second, .unset, .unset, .unset, .unset, .unset, .unset, .unset, .unset] [(.ref a1)])) rfl rfl (hb hby d_prog_53_method_6_code_1) _ ?_
    rw [len_of S1 Nn1]
    refine XS.istoreN X0.here hx rfl (hb hby d_prog_53_method_6_code_2) rfl (l' := #[.val (.ref a1), .val (.double pp), .second, .val (.int (9 : Int32)), .unset, .unset, .unset, .unset, .unset, .unset, .unset]) rfl ?_
    refine XS.iloadN X0.here hx rfl (hb hby d_prog_53_method_6_code_3) rfl ?_
    show Steps p.tables e below (s₁.setTop (mkF m 4 #[.val (.ref a1), .val (.double pp), .second, .val (.int (9 : Int32)), .unset, .unset, .unset, .unset, .unset, .unset, .unset] [(.int (9 : Int32))])) _
    refine XS.iconst X0.here hx rfl (hb hby d_prog_53_method_6_code_4) ?_
    refine XS.iadd X0.here hx rfl (hb hby d_prog_53_method_6_code_5) rfl ?_
    refine XS.i2dS X0.here hx rfl (hb hby d_prog_53_method_6_code_6) rfl (v := (FP.i2d ((9 : Int32) + (1 : Int32)))) (rfl) ?_
    show Steps p.tables e below (s₁.setTop (mkF m 7 #[.val (.ref a1), .val (.double pp), .second, .val (.int (9 : Int32)), .unset, .unset, .unset, .unset, .unset, .unset, .unset] [(.double (FP.i2d ((9 : Int32) + (1 : Int32))))])) _
    refine XS.dloadN X0.here hx rfl (hb hby d_prog_53_method_6_code_7) rfl ?_
    refine XS.dmulS X0.here hx rfl (hb hby d_prog_53_method_6_code_8) rfl hn8 (v := (FP.dmul (FP.i2d ((9 : Int32) + (1 : Int32))) pp)) (rfl) ?_
    show Steps p.tables e below (s₁.setTop (mkF m 9 #[.val (.ref a1), .val (.double pp), .second, .val (.int (9 : Int32)), .unset, .unset, .unset, .unset, .unset, .unset, .unset] [(.double (FP.dmul (FP.i2d ((9 : Int32) + (1 : Int32))) pp))])) _
    refine X0.ldc2DoubleC hx hown (mvT hZ (hw _ (List.mem_of_getElem? (i := 13) rfl))) (g := (mkF m 9 #[.val (.ref a1), .val (.double pp), .second, .val (.int (9 : Int32)), .unset, .unset, .unset, .unset, .unset, .unset, .unset] [(.double (FP.dmul (FP.i2d ((9 : Int32) + (1 : Int32))) pp))])) rfl (hb hby d_prog_53_method_6_code_9) _ ?_
    refine XS.ddivS X0.here hx rfl (hb hby d_prog_53_method_6_code_12) rfl hn12 (v := ps) (hv12) ?_
    refine XS.dstore X0.here hx rfl (hb hby d_prog_53_method_6_code_13) rfl (l' := #[.val (.ref a1), .val (.double pp), .second, .val (.int (9 : Int32)), .val (.double ps), .second, .unset, .unset, .unset, .unset, .unset]) rfl ?_
    show Steps p.tables e below (s₁.setTop (mkF m 15 #[.val (.ref a1), .val (.double pp), .second, .val (.int (9 : Int32)), .val (.double ps), .second, .unset, .unset, .unset, .unset, .unset] [])) _
    refine XS.dload X0.here hx rfl (hb hby d_prog_53_method_6_code_15) rfl ?_
    refine XS.dconst1 X0.here hx rfl (hb hby d_prog_53_method_6_code_17) (v := (4607182418800017408 : UInt64)) rfl ?_
    refine XS.dcmpS X0.here hx rfl (hb hby d_prog_53_method_6_code_18) rfl (v := vA) (hvA) ?_
    show Steps p.tables e below (s₁.setTop (mkF m 19 #[.val (.ref a1), .val (.double pp), .second, .val (.int (9 : Int32)), .val (.double ps), .second, .unset, .unset, .unset, .unset, .unset] [(.int vA)])) _
    refine XS.ifYes X0.here hx rfl (pc0 := 19) (pc' := 30) rfl (hb hby d_prog_53_method_6_code_19) rfl ((if0 _ _).trans (flt (hcA : ¬ (vA < (0 : Int32)))).2.1) (by decide) (by decide) ?_
    refine XS.dload X0.here hx rfl (hb hby d_prog_53_method_6_code_30) rfl ?_
    refine XS.iloadN X0.here hx rfl (hb hby d_prog_53_method_6_code_32) rfl ?_
    show Steps p.tables e below (s₁.setTop (mkF m 33 #[.val (.ref a1), .val (.double pp), .second, .val (.int (9 : Int32)), .val (.double ps), .second, .unset, .unset, .unset, .unset, .unset] [(.int (9 : Int32)), (.double ps)])) _
    refine XS.i2dS X0.here hx rfl (hb hby d_prog_53_method_6_code_33) rfl (v := (FP.i2d (9 : Int32))) (rfl) ?_
    refine XS.dcmpS X0.here hx rfl (hb hby d_prog_53_method_6_code_34) rfl (v := vB) (hvB) ?_
    refine XS.ifYes X0.here hx rfl (pc0 := 35) (pc' := 48) rfl (hb hby d_prog_53_method_6_code_35) rfl ((if0 _ _).trans (tlt (hcB : vB < (0 : Int32))).1) (by decide) (by decide) ?_
    show Steps p.tables e below (s₁.setTop (mkF m 48 #[.val (.ref a1), .val (.double pp), .second, .val (.int (9 : Int32)), .val (.double ps), .second, .unset, .unset, .unset, .unset, .unset] [])) _
    refine XS.dload X0.here hx rfl (hb hby d_prog_53_method_6_code_48) rfl ?_
    refine XS.d2iS X0.here hx rfl (hb hby d_prog_53_method_6_code_50) rfl (v := bb) (hbb) ?_
    refine XS.istore X0.here hx rfl (hb hby d_prog_53_method_6_code_51) rfl (l' := #[.val (.ref a1), .val (.double pp), .second, .val (.int (9 : Int32)), .val (.double ps), .second, .unset, .unset, .val (.int bb), .unset, .unset]) rfl ?_
    show Steps p.tables e below (s₁.setTop (mkF m 53 #[.val (.ref a1), .val (.double pp), .second, .val (.int (9 : Int32)), .val (.double ps), .second, .unset, .unset, .val (.int bb), .unset, .unset] [])) _
    refine XS.dload X0.here hx rfl (hb hby d_prog_53_method_6_code_53) rfl ?_
    refine XS.iload X0.here hx rfl (hb hby d_prog_53_method_6_code_55) rfl ?_
    refine XS.i2dS X0.here hx rfl (hb hby d_prog_53_method_6_code_57) rfl (v := (FP.i2d bb)) (rfl) ?_
    show Steps p.tables e below (s₁.setTop (mkF m 58 #[.val (.ref a1), .val (.double pp), .second, .val (.int (9 : Int32)), .val (.double ps), .second, .unset, .unset, .val (.int bb), .unset, .unset] [(.double (FP.i2d bb)), (.double ps)])) _
    refine XS.dsubS X0.here hx rfl (hb hby d_prog_53_method_6_code_58) rfl hn58 (v := fr) (hfr) ?_
    refine XS.dstore X0.here hx rfl (hb hby d_prog_53_method_6_code_59) rfl (l' := #[.val (.ref a1), .val (.double pp), .second, .val (.int (9 : Int32)), .val (.double ps), .second, .unset, .unset, .val (.int bb), .val (.double fr), .second]) rfl ?_
    refine XS.aloadN X0.here hx rfl (hb hby d_prog_53_method_6_code_61) rfl rfl ?_
    show Steps p.tables e below (s₁.setTop (mkF m 62 #[.val (.ref a1), .val (.double pp), .second, .val (.int (9 : Int32)), .val (.double ps), .second, .unset, .unset, .val (.int bb), .val (.double fr), .second] [(.ref a1)])) _
    refine XS.iload X0.here hx rfl (hb hby d_prog_53_method_6_code_62) rfl ?_
    refine XS.iconst X0.here hx rfl (hb hby d_prog_53_method_6_code_64) ?_
    refine XS.isub X0.here hx rfl (hb hby d_prog_53_method_6_code_65) rfl ?_
    show Steps p.tables e below (s₁.setTop (mkF m 66 #[.val (.ref a1), .val (.double pp), .second, .val (.int (9 : Int32)), .val (.double ps), .second, .unset, .unset, .val (.int bb), .val (.double fr), .second] [(.int (bb - (1 : Int32))), (.ref a1)])) _
    rw [show (bb - (1 : Int32)) = b1 from hb1]
    show Steps p.tables e below (s₁.setTop (mkF m 66 #[.val (.ref a1), .val (.double pp), .second, .val (.int (9 : Int32)), .val (.double ps), .second, .unset, .unset, .val (.int bb), .val (.double fr), .second] [(.int b1), (.ref a1)])) _
    refine X0.daload hx (j := b1) (v := (.double (FP.l2d lo))) (by rw [e0]; exact Ar2.1) (State.isArrayOf_alike hZ.alike Ar2.2.1) Ar2.2.2 hin2 hat2 (g := (mkF m 66 #[.val (.ref a1), .val (.double pp), .second, .val (.int (9 : Int32)), .val (.double ps), .second, .unset, .unset, .val (.int bb), .val (.double fr), .second] [(.int b1), (.ref a1)])) rfl rfl (hb hby d_prog_53_method_6_code_66) _ ?_
    refine XS.dload X0.here hx rfl (hb hby d_prog_53_method_6_code_67) rfl ?_
    refine XS.aloadN X0.here hx rfl (hb hby d_prog_53_method_6_code_69) rfl rfl ?_
    show Steps p.tables e below (s₁.setTop (mkF m 70 #[.val (.ref a1), .val (.double pp), .second, .val (.int (9 : Int32)), .val (.double ps), .second, .unset, .unset, .val (.int bb), .val (.double fr), .second] [(.ref a1), (.double fr), (.double (FP.l2d lo))])) _
    refine XS.iload X0.here hx rfl (hb hby d_prog_53_method_6_code_70) rfl ?_
    show Steps p.tables e below (s₁.setTop (mkF m 72 #[.val (.ref a1), .val (.double pp), .second, .val (.int (9 : Int32)), .val (.double ps), .second, .unset, .unset, .val (.int bb), .val (.double fr), .second] [(.int bb), (.ref a1), (.double fr), (.double (FP.l2d lo))])) _
    refine X0.daload hx (j := bb) (v := (.double (FP.l2d hi))) (by rw [e0]; exact Ar3.1) (State.isArrayOf_alike hZ.alike Ar3.2.1) Ar3.2.2 hin3 hat3 (g := (mkF m 72 #[.val (.ref a1), .val (.double pp), .second, .val (.int (9 : Int32)), .val (.double ps), .second, .unset, .unset, .val (.int bb), .val (.double fr), .second] [(.int bb), (.ref a1), (.double fr), (.double (FP.l2d lo))])) rfl rfl (hb hby d_prog_53_method_6_code_72) _ ?_
    refine XS.aloadN X0.here hx rfl (hb hby d_prog_53_method_6_code_73) rfl rfl ?_
    refine XS.iload X0.here hx rfl (hb hby d_prog_53_method_6_code_74) rfl ?_
    show Steps p.tables e below (s₁.setTop (mkF m 76 #[.val (.ref a1), .val (.double pp), .second, .val (.int (9 : Int32)), .val (.double ps), .second, .unset, .unset, .val (.int bb), .val (.double fr), .second] [(.int bb), (.ref a1), (.double (FP.l2d hi)), (.double fr), (.double (FP.l2d lo))])) _
    refine XS.iconst X0.here hx rfl (hb hby d_prog_53_method_6_code_76) ?_
    refine XS.isub X0.here hx rfl (hb hby d_prog_53_method_6_code_77) rfl ?_
    show Steps p.tables e below (s₁.setTop (mkF m 78 #[.val (.ref a1), .val (.double pp), .second, .val (.int (9 : Int32)), .val (.double ps), .second, .unset, .unset, .val (.int bb), .val (.double fr), .second] [(.int (bb - (1 : Int32))), (.ref a1), (.double (FP.l2d hi)), (.double fr), (.double (FP.l2d lo))])) _
    rw [show (bb - (1 : Int32)) = b1 from hb1]
    show Steps p.tables e below (s₁.setTop (mkF m 78 #[.val (.ref a1), .val (.double pp), .second, .val (.int (9 : Int32)), .val (.double ps), .second, .unset, .unset, .val (.int bb), .val (.double fr), .second] [(.int b1), (.ref a1), (.double (FP.l2d hi)), (.double fr), (.double (FP.l2d lo))])) _
    refine X0.daload hx (j := b1) (v := (.double (FP.l2d lo))) (by rw [e0]; exact Ar4.1) (State.isArrayOf_alike hZ.alike Ar4.2.1) Ar4.2.2 hin4 hat4 (g := (mkF m 78 #[.val (.ref a1), .val (.double pp), .second, .val (.int (9 : Int32)), .val (.double ps), .second, .unset, .unset, .val (.int bb), .val (.double fr), .second] [(.int b1), (.ref a1), (.double (FP.l2d hi)), (.double fr), (.double (FP.l2d lo))])) rfl rfl (hb hby d_prog_53_method_6_code_78) _ ?_
    refine XS.dsubS X0.here hx rfl (hb hby d_prog_53_method_6_code_79) rfl hn79 (v := (FP.dsub (FP.l2d hi) (FP.l2d lo))) (rfl) ?_
    refine XS.dmulS X0.here hx rfl (hb hby d_prog_53_method_6_code_80) rfl hn80 (v := (FP.dmul fr (FP.dsub (FP.l2d hi) (FP.l2d lo)))) (rfl) ?_
    show Steps p.tables e below (s₁.setTop (mkF m 81 #[.val (.ref a1), .val (.double pp), .second, .val (.int (9 : Int32)), .val (.double ps), .second, .unset, .unset, .val (.int bb), .val (.double fr), .second] [(.double (FP.dmul fr (FP.dsub (FP.l2d hi) (FP.l2d lo)))), (.double (FP.l2d lo))])) _
    refine XS.daddS X0.here hx rfl (hb hby d_prog_53_method_6_code_81) rfl hn81 (v := (FP.dadd (FP.l2d lo) (FP.dmul fr (FP.dsub (FP.l2d hi) (FP.l2d lo))))) (rfl) ?_
    refine XS.dstore X0.here hx rfl (hb hby d_prog_53_method_6_code_82) rfl (l' := #[.val (.ref a1), .val (.double pp), .second, .val (.int (9 : Int32)), .val (.double ps), .second, .val (.double (FP.dadd (FP.l2d lo) (FP.dmul fr (FP.dsub (FP.l2d hi) (FP.l2d lo))))), .second, .val (.int bb), .val (.double fr), .second]) rfl ?_
    refine XS.dload X0.here hx rfl (hb hby d_prog_53_method_6_code_84) rfl ?_
    show Steps p.tables e below (s₁.setTop (mkF m 86 #[.val (.ref a1), .val (.double pp), .second, .val (.int (9 : Int32)), .val (.double ps), .second, .val (.double (FP.dadd (FP.l2d lo) (FP.dmul fr (FP.dsub (FP.l2d hi) (FP.l2d lo))))), .second, .val (.int bb), .val (.double fr), .second] [(.double (FP.dadd (FP.l2d lo) (FP.dmul fr (FP.dsub (FP.l2d hi) (FP.l2d lo)))))])) _
    exact retOut X0 hx (t := .double) Bd.returns rfl (Or.inr (Or.inr (Or.inl ⟨rfl, rfl, _, rfl⟩))) (hb hby d_prog_53_method_6_code_86) hr
  · show QD (FP.dadd (FP.l2d lo) (FP.dmul fr (FP.dsub (FP.l2d hi) (FP.l2d lo)))) h0 n0 _ s₁.heap _
    rw [e0]
    exact ⟨rfl, N0, rfl⟩
def QL (n0 : Nat) (v : Option Value) (h : Heap) (L : List Loc) : Prop := v = some (.int 1) ∧ Fr n0 L
set_option maxRecDepth 65536 in
set_option maxHeartbeats 40000000 in
theorem segA {p : Program} {l : Launch} {e : Env} {s : State} {m : MethodId} {args : Array Value} {below : List Frame} {meth : Method} {c : Code} {T0 : State} {Z : State} {a0 : Array Value} (h0 : Heap) (n0 : Nat) (Z0 : n0 ≤ h0.size) (sel qr base : Int32) (gaps : Int64) (ch nn : Int32) (s0 s1 s2 s3 s4 s5 s6 s7 s8 : Int64)
    (X0 : Stand p l e room_1 s m args below meth c T0 [] 0 0) (hx : p.tables.exec = Jvm.exec) (hZ : Z.Warmed39 s.vm) (hw : ∀ d ∈ tables_1, d.before a0 Z = true) (hby : c.code = code) (hml : c.maxLocals = 18) (hown : s.vm.findClass "com/example/bytegauge/bytegauge/stats/JsonTablePercentilePinLaw" = some m.cls) (e0 : T0.heap = h0) (hs0 : (base.toInt64) = s0) (hs1 : s0 + (gaps &&& (255 : Int64)) = s1) (hs2 : s1 + (((gaps.toUInt64 >>> ((8 : Int32) &&& 0x3f).toInt64.toUInt64).toInt64) &&& (255 : Int64)) = s2) (hs3 : s2 + (((gaps.toUInt64 >>> ((16 : Int32) &&& 0x3f).toInt64.toUInt64).toInt64) &&& (255 : Int64)) = s3) (hs4 : s3 + (((gaps.toUInt64 >>> ((24 : Int32) &&& 0x3f).toInt64.toUInt64).toInt64) &&& (255 : Int64)) = s4) (hs5 : s4 + (((gaps.toUInt64 >>> ((32 : Int32) &&& 0x3f).toInt64.toUInt64).toInt64) &&& (255 : Int64)) = s5) (hs6 : s5 + (((gaps.toUInt64 >>> ((40 : Int32) &&& 0x3f).toInt64.toUInt64).toInt64) &&& (255 : Int64)) = s6) (hs7 : s6 + (((gaps.toUInt64 >>> ((48 : Int32) &&& 0x3f).toInt64.toUInt64).toInt64) &&& (255 : Int64)) = s7) (hs8 : s7 + (((gaps.toUInt64 >>> ((56 : Int32) &&& 0x3f).toInt64.toUInt64).toInt64) &&& (255 : Int64)) = s8)  :
    ∃ (T' : State) (h' : Heap) (locs' : List Loc) (b1 : Addr) (kb : ClassId), Stand p l e room_1 s m args below meth c T' locs' 1 9 ∧ T'.heap = h' ∧ Fr n0 locs' ∧ n0 ≤ h'.size ∧ n0 ≤ b1 ∧ Arv Z h' b1 kb .long (9 : Int32) [(.long s0), (.long s1), (.long s2), (.long s3), (.long s4), (.long s5), (.long s6), (.long s7), (.long s8)] (.long (0 : Int64)) ∧
      ∀ target, Steps p.tables e below (T'.setTop (mkF m 202 #[.val (.int sel), .val (.int qr), .val (.int base), .val (.long gaps), .second, .val (.int ch), .val (.int nn), .val (.ref b1), .unset, .unset, .unset, .unset, .unset, .unset, .unset, .unset, .unset, .unset] [])) target → Steps p.tables e below (T0.setTop (mkF m 52 #[.val (.int sel), .val (.int qr), .val (.int base), .val (.long gaps), .second, .val (.int ch), .val (.int nn), .unset, .unset, .unset, .unset, .unset, .unset, .unset, .unset, .unset, .unset, .unset] [])) target := by
  have N0 := Fr.nil n0
  obtain ⟨T1, h1, k1, X1, e1, E1, A1, st1⟩ := newP X0 hx hZ (hw _ (List.mem_of_getElem? (i := 1) rfl)) e0 (g := (mkF m 54 #[.val (.int sel), .val (.int qr), .val (.int base), .val (.long gaps), .second, .val (.int ch), .val (.int nn), .unset, .unset, .unset, .unset, .unset, .unset, .unset, .unset, .unset, .unset, .unset] [(.int (9 : Int32))])) rfl (hb hby at_54) rfl (by decide) (cap := 9) (by decide) (by decide) (by decide) (by decide)
  obtain ⟨b1, g1⟩ : ∃ z, z = h0.size := ⟨_, rfl⟩
  rw [← g1] at A1 st1
  have g_b1 : n0 ≤ b1 := Nat.le_trans Z0 (Nat.le_of_eq g1.symm)
  have SZ1 := Nat.le_trans Z0 E1.1
  have V1 : Arv Z h1 b1 k1 .long (9 : Int32) [(.long (0 : Int64)), (.long (0 : Int64)), (.long (0 : Int64)), (.long (0 : Int64)), (.long (0 : Int64)), (.long (0 : Int64)), (.long (0 : Int64)), (.long (0 : Int64)), (.long (0 : Int64))] (.long (0 : Int64)) := (Arv.new A1 (by decide)).pad (pad_rep [] (.long (0 : Int64)) 9)
  obtain ⟨cl2, Ar2, q2, S2, Nn2, H2, G2⟩ := id V1
  have hin2 : ¬ ((0 : Int32) < 0 ∨ cl2.slots.size ≤ ((0 : Int32)).toNatClampNeg) := inb_of S2 ⟨by decide, by decide⟩
  obtain ⟨T2, h2, X2, e2, W2, st2⟩ := stJ X1 hx hZ e1 Ar2 (j := (0 : Int32)) hin2 (g := (mkF m 63 #[.val (.int sel), .val (.int qr), .val (.int base), .val (.long gaps), .second, .val (.int ch), .val (.int nn), .val (.ref b1), .unset, .unset, .unset, .unset, .unset, .unset, .unset, .unset, .unset, .unset] [(.long s0), (.int (0 : Int32)), (.ref b1)])) rfl rfl (hb hby at_63)
  have V2 := Arv.set Ar2 q2 S2 Nn2 H2 G2 rfl W2 0 rfl (Nat.le_of_ble_eq_true rfl)
  replace V2 : Arv Z h2 b1 k1 .long (9 : Int32) [(.long s0), (.long (0 : Int64)), (.long (0 : Int64)), (.long (0 : Int64)), (.long (0 : Int64)), (.long (0 : Int64)), (.long (0 : Int64)), (.long (0 : Int64)), (.long (0 : Int64))] (.long (0 : Int64)) := V2
  have SZ2 := Nat.le_trans SZ1 (Keep.of_wr W2).1
  have N2 := Fr.snoc X2 N0 g_b1
  obtain ⟨cl3, Ar3, -, S3, Nn3, H3, -⟩ := id V2
  have hin3 : ¬ ((0 : Int32) < 0 ∨ cl3.slots.size ≤ ((0 : Int32)).toNatClampNeg) := inb_of S3 ⟨by decide, by decide⟩
  have hat3 : cl3.slots[((0 : Int32)).toNatClampNeg]? = some (.long s0) := H3.at hin3 rfl
  obtain ⟨cl4, Ar4, q4, S4, Nn4, H4, G4⟩ := id V2
  have hin4 : ¬ ((1 : Int32) < 0 ∨ cl4.slots.size ≤ ((1 : Int32)).toNatClampNeg) := inb_of S4 ⟨by decide, by decide⟩
  obtain ⟨T4, h4, X4, e4, W4, st4⟩ := stJ X2 hx hZ e2 Ar4 (j := (1 : Int32)) hin4 (g := (mkF m 77 #[.val (.int sel), .val (.int qr), .val (.int base), .val (.long gaps), .second, .val (.int ch), .val (.int nn), .val (.ref b1), .unset, .unset, .unset, .unset, .unset, .unset, .unset, .unset, .unset, .unset] [(.long s1), (.int (1 : Int32)), (.ref b1)])) rfl rfl (hb hby at_77)
  have V4 := Arv.set Ar4 q4 S4 Nn4 H4 G4 rfl W4 1 rfl (Nat.le_of_ble_eq_true rfl)
  replace V4 : Arv Z h4 b1 k1 .long (9 : Int32) [(.long s0), (.long s1), (.long (0 : Int64)), (.long (0 : Int64)), (.long (0 : Int64)), (.long (0 : Int64)), (.long (0 : Int64)), (.long (0 : Int64)), (.long (0 : Int64))] (.long (0 : Int64)) := V4
  have SZ4 := Nat.le_trans SZ2 (Keep.of_wr W4).1
  have N4 := Fr.snoc X4 N2 g_b1
  obtain ⟨cl5, Ar5, -, S5, Nn5, H5, -⟩ := id V4
  have hin5 : ¬ ((1 : Int32) < 0 ∨ cl5.slots.size ≤ ((1 : Int32)).toNatClampNeg) := inb_of S5 ⟨by decide, by decide⟩
  have hat5 : cl5.slots[((1 : Int32)).toNatClampNeg]? = some (.long s1) := H5.at hin5 rfl
  obtain ⟨cl6, Ar6, q6, S6, Nn6, H6, G6⟩ := id V4
  have hin6 : ¬ ((2 : Int32) < 0 ∨ cl6.slots.size ≤ ((2 : Int32)).toNatClampNeg) := inb_of S6 ⟨by decide, by decide⟩
  obtain ⟨T6, h6, X6, e6, W6, st6⟩ := stJ X4 hx hZ e4 Ar6 (j := (2 : Int32)) hin6 (g := (mkF m 94 #[.val (.int sel), .val (.int qr), .val (.int base), .val (.long gaps), .second, .val (.int ch), .val (.int nn), .val (.ref b1), .unset, .unset, .unset, .unset, .unset, .unset, .unset, .unset, .unset, .unset] [(.long s2), (.int (2 : Int32)), (.ref b1)])) rfl rfl (hb hby at_94)
  have V6 := Arv.set Ar6 q6 S6 Nn6 H6 G6 rfl W6 2 rfl (Nat.le_of_ble_eq_true rfl)
  replace V6 : Arv Z h6 b1 k1 .long (9 : Int32) [(.long s0), (.long s1), (.long s2), (.long (0 : Int64)), (.long (0 : Int64)), (.long (0 : Int64)), (.long (0 : Int64)), (.long (0 : Int64)), (.long (0 : Int64))] (.long (0 : Int64)) := V6
  have SZ6 := Nat.le_trans SZ4 (Keep.of_wr W6).1
  have N6 := Fr.snoc X6 N4 g_b1
  obtain ⟨cl7, Ar7, -, S7, Nn7, H7, -⟩ := id V6
  have hin7 : ¬ ((2 : Int32) < 0 ∨ cl7.slots.size ≤ ((2 : Int32)).toNatClampNeg) := inb_of S7 ⟨by decide, by decide⟩
  have hat7 : cl7.slots[((2 : Int32)).toNatClampNeg]? = some (.long s2) := H7.at hin7 rfl
  obtain ⟨cl8, Ar8, q8, S8, Nn8, H8, G8⟩ := id V6
  have hin8 : ¬ ((3 : Int32) < 0 ∨ cl8.slots.size ≤ ((3 : Int32)).toNatClampNeg) := inb_of S8 ⟨by decide, by decide⟩
  obtain ⟨T8, h8, X8, e8, W8, st8⟩ := stJ X6 hx hZ e6 Ar8 (j := (3 : Int32)) hin8 (g := (mkF m 111 #[.val (.int sel), .val (.int qr), .val (.int base), .val (.long gaps), .second, .val (.int ch), .val (.int nn), .val (.ref b1), .unset, .unset, .unset, .unset, .unset, .unset, .unset, .unset, .unset, .unset] [(.long s3), (.int (3 : Int32)), (.ref b1)])) rfl rfl (hb hby at_111)
  have V8 := Arv.set Ar8 q8 S8 Nn8 H8 G8 rfl W8 3 rfl (Nat.le_of_ble_eq_true rfl)
  replace V8 : Arv Z h8 b1 k1 .long (9 : Int32) [(.long s0), (.long s1), (.long s2), (.long s3), (.long (0 : Int64)), (.long (0 : Int64)), (.long (0 : Int64)), (.long (0 : Int64)), (.long (0 : Int64))] (.long (0 : Int64)) := V8
  have SZ8 := Nat.le_trans SZ6 (Keep.of_wr W8).1
  have N8 := Fr.snoc X8 N6 g_b1
  obtain ⟨cl9, Ar9, -, S9, Nn9, H9, -⟩ := id V8
  have hin9 : ¬ ((3 : Int32) < 0 ∨ cl9.slots.size ≤ ((3 : Int32)).toNatClampNeg) := inb_of S9 ⟨by decide, by decide⟩
  have hat9 : cl9.slots[((3 : Int32)).toNatClampNeg]? = some (.long s3) := H9.at hin9 rfl
  obtain ⟨cl10, Ar10, q10, S10, Nn10, H10, G10⟩ := id V8
  have hin10 : ¬ ((4 : Int32) < 0 ∨ cl10.slots.size ≤ ((4 : Int32)).toNatClampNeg) := inb_of S10 ⟨by decide, by decide⟩
  obtain ⟨T10, h10, X10, e10, W10, st10⟩ := stJ X8 hx hZ e8 Ar10 (j := (4 : Int32)) hin10 (g := (mkF m 128 #[.val (.int sel), .val (.int qr), .val (.int base), .val (.long gaps), .second, .val (.int ch), .val (.int nn), .val (.ref b1), .unset, .unset, .unset, .unset, .unset, .unset, .unset, .unset, .unset, .unset] [(.long s4), (.int (4 : Int32)), (.ref b1)])) rfl rfl (hb hby at_128)
  have V10 := Arv.set Ar10 q10 S10 Nn10 H10 G10 rfl W10 4 rfl (Nat.le_of_ble_eq_true rfl)
  replace V10 : Arv Z h10 b1 k1 .long (9 : Int32) [(.long s0), (.long s1), (.long s2), (.long s3), (.long s4), (.long (0 : Int64)), (.long (0 : Int64)), (.long (0 : Int64)), (.long (0 : Int64))] (.long (0 : Int64)) := V10
  have SZ10 := Nat.le_trans SZ8 (Keep.of_wr W10).1
  have N10 := Fr.snoc X10 N8 g_b1
  obtain ⟨cl11, Ar11, -, S11, Nn11, H11, -⟩ := id V10
  have hin11 : ¬ ((4 : Int32) < 0 ∨ cl11.slots.size ≤ ((4 : Int32)).toNatClampNeg) := inb_of S11 ⟨by decide, by decide⟩
  have hat11 : cl11.slots[((4 : Int32)).toNatClampNeg]? = some (.long s4) := H11.at hin11 rfl
  obtain ⟨cl12, Ar12, q12, S12, Nn12, H12, G12⟩ := id V10
  have hin12 : ¬ ((5 : Int32) < 0 ∨ cl12.slots.size ≤ ((5 : Int32)).toNatClampNeg) := inb_of S12 ⟨by decide, by decide⟩
  obtain ⟨T12, h12, X12, e12, W12, st12⟩ := stJ X10 hx hZ e10 Ar12 (j := (5 : Int32)) hin12 (g := (mkF m 145 #[.val (.int sel), .val (.int qr), .val (.int base), .val (.long gaps), .second, .val (.int ch), .val (.int nn), .val (.ref b1), .unset, .unset, .unset, .unset, .unset, .unset, .unset, .unset, .unset, .unset] [(.long s5), (.int (5 : Int32)), (.ref b1)])) rfl rfl (hb hby at_145)
  have V12 := Arv.set Ar12 q12 S12 Nn12 H12 G12 rfl W12 5 rfl (Nat.le_of_ble_eq_true rfl)
  replace V12 : Arv Z h12 b1 k1 .long (9 : Int32) [(.long s0), (.long s1), (.long s2), (.long s3), (.long s4), (.long s5), (.long (0 : Int64)), (.long (0 : Int64)), (.long (0 : Int64))] (.long (0 : Int64)) := V12
  have SZ12 := Nat.le_trans SZ10 (Keep.of_wr W12).1
  have N12 := Fr.snoc X12 N10 g_b1
  obtain ⟨cl13, Ar13, -, S13, Nn13, H13, -⟩ := id V12
  have hin13 : ¬ ((5 : Int32) < 0 ∨ cl13.slots.size ≤ ((5 : Int32)).toNatClampNeg) := inb_of S13 ⟨by decide, by decide⟩
  have hat13 : cl13.slots[((5 : Int32)).toNatClampNeg]? = some (.long s5) := H13.at hin13 rfl
  obtain ⟨cl14, Ar14, q14, S14, Nn14, H14, G14⟩ := id V12
  have hin14 : ¬ ((6 : Int32) < 0 ∨ cl14.slots.size ≤ ((6 : Int32)).toNatClampNeg) := inb_of S14 ⟨by decide, by decide⟩
  obtain ⟨T14, h14, X14, e14, W14, st14⟩ := stJ X12 hx hZ e12 Ar14 (j := (6 : Int32)) hin14 (g := (mkF m 163 #[.val (.int sel), .val (.int qr), .val (.int base), .val (.long gaps), .second, .val (.int ch), .val (.int nn), .val (.ref b1), .unset, .unset, .unset, .unset, .unset, .unset, .unset, .unset, .unset, .unset] [(.long s6), (.int (6 : Int32)), (.ref b1)])) rfl rfl (hb hby at_163)
  have V14 := Arv.set Ar14 q14 S14 Nn14 H14 G14 rfl W14 6 rfl (Nat.le_of_ble_eq_true rfl)
  replace V14 : Arv Z h14 b1 k1 .long (9 : Int32) [(.long s0), (.long s1), (.long s2), (.long s3), (.long s4), (.long s5), (.long s6), (.long (0 : Int64)), (.long (0 : Int64))] (.long (0 : Int64)) := V14
  have SZ14 := Nat.le_trans SZ12 (Keep.of_wr W14).1
  have N14 := Fr.snoc X14 N12 g_b1
  obtain ⟨cl15, Ar15, -, S15, Nn15, H15, -⟩ := id V14
  have hin15 : ¬ ((6 : Int32) < 0 ∨ cl15.slots.size ≤ ((6 : Int32)).toNatClampNeg) := inb_of S15 ⟨by decide, by decide⟩
  have hat15 : cl15.slots[((6 : Int32)).toNatClampNeg]? = some (.long s6) := H15.at hin15 rfl
  obtain ⟨cl16, Ar16, q16, S16, Nn16, H16, G16⟩ := id V14
  have hin16 : ¬ ((7 : Int32) < 0 ∨ cl16.slots.size ≤ ((7 : Int32)).toNatClampNeg) := inb_of S16 ⟨by decide, by decide⟩
  obtain ⟨T16, h16, X16, e16, W16, st16⟩ := stJ X14 hx hZ e14 Ar16 (j := (7 : Int32)) hin16 (g := (mkF m 182 #[.val (.int sel), .val (.int qr), .val (.int base), .val (.long gaps), .second, .val (.int ch), .val (.int nn), .val (.ref b1), .unset, .unset, .unset, .unset, .unset, .unset, .unset, .unset, .unset, .unset] [(.long s7), (.int (7 : Int32)), (.ref b1)])) rfl rfl (hb hby at_182)
  have V16 := Arv.set Ar16 q16 S16 Nn16 H16 G16 rfl W16 7 rfl (Nat.le_of_ble_eq_true rfl)
  replace V16 : Arv Z h16 b1 k1 .long (9 : Int32) [(.long s0), (.long s1), (.long s2), (.long s3), (.long s4), (.long s5), (.long s6), (.long s7), (.long (0 : Int64))] (.long (0 : Int64)) := V16
  have SZ16 := Nat.le_trans SZ14 (Keep.of_wr W16).1
  have N16 := Fr.snoc X16 N14 g_b1
  obtain ⟨cl17, Ar17, -, S17, Nn17, H17, -⟩ := id V16
  have hin17 : ¬ ((7 : Int32) < 0 ∨ cl17.slots.size ≤ ((7 : Int32)).toNatClampNeg) := inb_of S17 ⟨by decide, by decide⟩
  have hat17 : cl17.slots[((7 : Int32)).toNatClampNeg]? = some (.long s7) := H17.at hin17 rfl
  obtain ⟨cl18, Ar18, q18, S18, Nn18, H18, G18⟩ := id V16
  have hin18 : ¬ ((8 : Int32) < 0 ∨ cl18.slots.size ≤ ((8 : Int32)).toNatClampNeg) := inb_of S18 ⟨by decide, by decide⟩
  obtain ⟨T18, h18, X18, e18, W18, st18⟩ := stJ X16 hx hZ e16 Ar18 (j := (8 : Int32)) hin18 (g := (mkF m 201 #[.val (.int sel), .val (.int qr), .val (.int base), .val (.long gaps), .second, .val (.int ch), .val (.int nn), .val (.ref b1), .unset, .unset, .unset, .unset, .unset, .unset, .unset, .unset, .unset, .unset] [(.long s8), (.int (8 : Int32)), (.ref b1)])) rfl rfl (hb hby at_201)
  have V18 := Arv.set Ar18 q18 S18 Nn18 H18 G18 rfl W18 8 rfl (Nat.le_of_ble_eq_true rfl)
  replace V18 : Arv Z h18 b1 k1 .long (9 : Int32) [(.long s0), (.long s1), (.long s2), (.long s3), (.long s4), (.long s5), (.long s6), (.long s7), (.long s8)] (.long (0 : Int64)) := V18
  have SZ18 := Nat.le_trans SZ16 (Keep.of_wr W18).1
  have N18 := Fr.snoc X18 N16 g_b1
  refine ⟨T18, _, _, _, _, X18, e18, N18, SZ18, g_b1, V18, fun target kt => ?_⟩
  show Steps p.tables e below (T0.setTop (mkF m 52 #[.val (.int sel), .val (.int qr), .val (.int base), .val (.long gaps), .second, .val (.int ch), .val (.int nn), .unset, .unset, .unset, .unset, .unset, .unset, .unset, .unset, .unset, .unset, .unset] [])) _
  refine XS.bipush X0.here hx rfl (hb hby at_52) ?_
  show Steps p.tables e below (T0.setTop (mkF m 54 #[.val (.int sel), .val (.int qr), .val (.int base), .val (.long gaps), .second, .val (.int ch), .val (.int nn), .unset, .unset, .unset, .unset, .unset, .unset, .unset, .unset, .unset, .unset, .unset] [(.int (9 : Int32))])) _
  refine st1 _ ?_
  refine XS.astore X1.here hx rfl (hb hby at_56) rfl rfl (l' := #[.val (.int sel), .val (.int qr), .val (.int base), .val (.long gaps), .second, .val (.int ch), .val (.int nn), .val (.ref b1), .unset, .unset, .unset, .unset, .unset, .unset, .unset, .unset, .unset, .unset]) rfl ?_
  refine XS.aload X1.here hx rfl (hb hby at_58) rfl rfl ?_
  show Steps p.tables e below (T1.setTop (mkF m 60 #[.val (.int sel), .val (.int qr), .val (.int base), .val (.long gaps), .second, .val (.int ch), .val (.int nn), .val (.ref b1), .unset, .unset, .unset, .unset, .unset, .unset, .unset, .unset, .unset, .unset] [(.ref b1)])) _
  refine XS.iconst X1.here hx rfl (hb hby at_60) ?_
  refine XS.iloadN X1.here hx rfl (hb hby at_61) rfl ?_
  refine XS.i2l X1.here hx rfl (hb hby at_62) rfl ?_
  show Steps p.tables e below (T1.setTop (mkF m 63 #[.val (.int sel), .val (.int qr), .val (.int base), .val (.long gaps), .second, .val (.int ch), .val (.int nn), .val (.ref b1), .unset, .unset, .unset, .unset, .unset, .unset, .unset, .unset, .unset, .unset] [(.long (base.toInt64)), (.int (0 : Int32)), (.ref b1)])) _
  rw [show (base.toInt64) = s0 from hs0]
  show Steps p.tables e below (T1.setTop (mkF m 63 #[.val (.int sel), .val (.int qr), .val (.int base), .val (.long gaps), .second, .val (.int ch), .val (.int nn), .val (.ref b1), .unset, .unset, .unset, .unset, .unset, .unset, .unset, .unset, .unset, .unset] [(.long s0), (.int (0 : Int32)), (.ref b1)])) _
  refine st2 _ ?_
  refine XS.aload X2.here hx rfl (hb hby at_64) rfl rfl ?_
  refine XS.iconst X2.here hx rfl (hb hby at_66) ?_
  show Steps p.tables e below (T2.setTop (mkF m 67 #[.val (.int sel), .val (.int qr), .val (.int base), .val (.long gaps), .second, .val (.int ch), .val (.int nn), .val (.ref b1), .unset, .unset, .unset, .unset, .unset, .unset, .unset, .unset, .unset, .unset] [(.int (1 : Int32)), (.ref b1)])) _
  refine XS.aload X2.here hx rfl (hb hby at_67) rfl rfl ?_
  refine XS.iconst X2.here hx rfl (hb hby at_69) ?_
  show Steps p.tables e below (T2.setTop (mkF m 70 #[.val (.int sel), .val (.int qr), .val (.int base), .val (.long gaps), .second, .val (.int ch), .val (.int nn), .val (.ref b1), .unset, .unset, .unset, .unset, .unset, .unset, .unset, .unset, .unset, .unset] [(.int (0 : Int32)), (.ref b1), (.int (1 : Int32)), (.ref b1)])) _
  refine X2.laload hx (j := (0 : Int32)) (v := (.long s0)) (by rw [e2]; exact Ar3.1) (State.isArrayOf_alike hZ.alike Ar3.2.1) Ar3.2.2 hin3 hat3 (g := (mkF m 70 #[.val (.int sel), .val (.int qr), .val (.int base), .val (.long gaps), .second, .val (.int ch), .val (.int nn), .val (.ref b1), .unset, .unset, .unset, .unset, .unset, .unset, .unset, .unset, .unset, .unset] [(.int (0 : Int32)), (.ref b1), (.int (1 : Int32)), (.ref b1)])) rfl rfl (hb hby at_70) _ ?_
  refine XS.lloadN X2.here hx rfl (hb hby at_71) rfl ?_
  show Steps p.tables e below (T2.setTop (mkF m 72 #[.val (.int sel), .val (.int qr), .val (.int base), .val (.long gaps), .second, .val (.int ch), .val (.int nn), .val (.ref b1), .unset, .unset, .unset, .unset, .unset, .unset, .unset, .unset, .unset, .unset] [(.long gaps), (.long s0), (.int (1 : Int32)), (.ref b1)])) _
  refine X2.ldc2Long hx hown (mvT hZ (hw _ (List.mem_of_getElem? (i := 2) rfl))) (g := (mkF m 72 #[.val (.int sel), .val (.int qr), .val (.int base), .val (.long gaps), .second, .val (.int ch), .val (.int nn), .val (.ref b1), .unset, .unset, .unset, .unset, .unset, .unset, .unset, .unset, .unset, .unset] [(.long gaps), (.long s0), (.int (1 : Int32)), (.ref b1)])) rfl (hb hby at_72) _ ?_
  refine XS.land X2.here hx rfl (hb hby at_75) rfl ?_
  refine XS.ladd X2.here hx rfl (hb hby at_76) rfl ?_
  show Steps p.tables e below (T2.setTop (mkF m 77 #[.val (.int sel), .val (.int qr), .val (.int base), .val (.long gaps), .second, .val (.int ch), .val (.int nn), .val (.ref b1), .unset, .unset, .unset, .unset, .unset, .unset, .unset, .unset, .unset, .unset] [(.long (s0 + (gaps &&& (255 : Int64)))), (.int (1 : Int32)), (.ref b1)])) _
  rw [show (s0 + (gaps &&& (255 : Int64))) = s1 from hs1]
  show Steps p.tables e below (T2.setTop (mkF m 77 #[.val (.int sel), .val (.int qr), .val (.int base), .val (.long gaps), .second, .val (.int ch), .val (.int nn), .val (.ref b1), .unset, .unset, .unset, .unset, .unset, .unset, .unset, .unset, .unset, .unset] [(.long s1), (.int (1 : Int32)), (.ref b1)])) _
  refine st4 _ ?_
  refine XS.aload X4.here hx rfl (hb hby at_78) rfl rfl ?_
  refine XS.iconst X4.here hx rfl (hb hby at_80) ?_
  show Steps p.tables e below (T4.setTop (mkF m 81 #[.val (.int sel), .val (.int qr), .val (.int base), .val (.long gaps), .second, .val (.int ch), .val (.int nn), .val (.ref b1), .unset, .unset, .unset, .unset, .unset, .unset, .unset, .unset, .unset, .unset] [(.int (2 : Int32)), (.ref b1)])) _
  refine XS.aload X4.here hx rfl (hb hby at_81) rfl rfl ?_
  refine XS.iconst X4.here hx rfl (hb hby at_83) ?_
  show Steps p.tables e below (T4.setTop (mkF m 84 #[.val (.int sel), .val (.int qr), .val (.int base), .val (.long gaps), .second, .val (.int ch), .val (.int nn), .val (.ref b1), .unset, .unset, .unset, .unset, .unset, .unset, .unset, .unset, .unset, .unset] [(.int (1 : Int32)), (.ref b1), (.int (2 : Int32)), (.ref b1)])) _
  refine X4.laload hx (j := (1 : Int32)) (v := (.long s1)) (by rw [e4]; exact Ar5.1) (State.isArrayOf_alike hZ.alike Ar5.2.1) Ar5.2.2 hin5 hat5 (g := (mkF m 84 #[.val (.int sel), .val (.int qr), .val (.int base), .val (.long gaps), .second, .val (.int ch), .val (.int nn), .val (.ref b1), .unset, .unset, .unset, .unset, .unset, .unset, .unset, .unset, .unset, .unset] [(.int (1 : Int32)), (.ref b1), (.int (2 : Int32)), (.ref b1)])) rfl rfl (hb hby at_84) _ ?_
  refine XS.lloadN X4.here hx rfl (hb hby at_85) rfl ?_
  refine XS.bipush X4.here hx rfl (hb hby at_86) ?_
  show Steps p.tables e below (T4.setTop (mkF m 88 #[.val (.int sel), .val (.int qr), .val (.int base), .val (.long gaps), .second, .val (.int ch), .val (.int nn), .val (.ref b1), .unset, .unset, .unset, .unset, .unset, .unset, .unset, .unset, .unset, .unset] [(.int (8 : Int32)), (.long gaps), (.long s1), (.int (2 : Int32)), (.ref b1)])) _
  refine XS.lushr X4.here hx rfl (hb hby at_88) rfl ?_
  show Steps p.tables e below (T4.setTop (mkF m 89 #[.val (.int sel), .val (.int qr), .val (.int base), .val (.long gaps), .second, .val (.int ch), .val (.int nn), .val (.ref b1), .unset, .unset, .unset, .unset, .unset, .unset, .unset, .unset, .unset, .unset] [(.long ((gaps.toUInt64 >>> ((8 : Int32) &&& 0x3f).toInt64.toUInt64).toInt64)), (.long s1), (.int (2 : Int32)), (.ref b1)])) _
  refine X4.ldc2Long hx hown (mvT hZ (hw _ (List.mem_of_getElem? (i := 2) rfl))) (g := (mkF m 89 #[.val (.int sel), .val (.int qr), .val (.int base), .val (.long gaps), .second, .val (.int ch), .val (.int nn), .val (.ref b1), .unset, .unset, .unset, .unset, .unset, .unset, .unset, .unset, .unset, .unset] [(.long ((gaps.toUInt64 >>> ((8 : Int32) &&& 0x3f).toInt64.toUInt64).toInt64)), (.long s1), (.int (2 : Int32)), (.ref b1)])) rfl (hb hby at_89) _ ?_
  refine XS.land X4.here hx rfl (hb hby at_92) rfl ?_
  refine XS.ladd X4.here hx rfl (hb hby at_93) rfl ?_
  show Steps p.tables e below (T4.setTop (mkF m 94 #[.val (.int sel), .val (.int qr), .val (.int base), .val (.long gaps), .second, .val (.int ch), .val (.int nn), .val (.ref b1), .unset, .unset, .unset, .unset, .unset, .unset, .unset, .unset, .unset, .unset] [(.long (s1 + (((gaps.toUInt64 >>> ((8 : Int32) &&& 0x3f).toInt64.toUInt64).toInt64) &&& (255 : Int64)))), (.int (2 : Int32)), (.ref b1)])) _
  rw [show (s1 + (((gaps.toUInt64 >>> ((8 : Int32) &&& 0x3f).toInt64.toUInt64).toInt64) &&& (255 : Int64))) = s2 from hs2]
  show Steps p.tables e below (T4.setTop (mkF m 94 #[.val (.int sel), .val (.int qr), .val (.int base), .val (.long gaps), .second, .val (.int ch), .val (.int nn), .val (.ref b1), .unset, .unset, .unset, .unset, .unset, .unset, .unset, .unset, .unset, .unset] [(.long s2), (.int (2 : Int32)), (.ref b1)])) _
  refine st6 _ ?_
  refine XS.aload X6.here hx rfl (hb hby at_95) rfl rfl ?_
  refine XS.iconst X6.here hx rfl (hb hby at_97) ?_
  show Steps p.tables e below (T6.setTop (mkF m 98 #[.val (.int sel), .val (.int qr), .val (.int base), .val (.long gaps), .second, .val (.int ch), .val (.int nn), .val (.ref b1), .unset, .unset, .unset, .unset, .unset, .unset, .unset, .unset, .unset, .unset] [(.int (3 : Int32)), (.ref b1)])) _
  refine XS.aload X6.here hx rfl (hb hby at_98) rfl rfl ?_
  refine XS.iconst X6.here hx rfl (hb hby at_100) ?_
  show Steps p.tables e below (T6.setTop (mkF m 101 #[.val (.int sel), .val (.int qr), .val (.int base), .val (.long gaps), .second, .val (.int ch), .val (.int nn), .val (.ref b1), .unset, .unset, .unset, .unset, .unset, .unset, .unset, .unset, .unset, .unset] [(.int (2 : Int32)), (.ref b1), (.int (3 : Int32)), (.ref b1)])) _
  refine X6.laload hx (j := (2 : Int32)) (v := (.long s2)) (by rw [e6]; exact Ar7.1) (State.isArrayOf_alike hZ.alike Ar7.2.1) Ar7.2.2 hin7 hat7 (g := (mkF m 101 #[.val (.int sel), .val (.int qr), .val (.int base), .val (.long gaps), .second, .val (.int ch), .val (.int nn), .val (.ref b1), .unset, .unset, .unset, .unset, .unset, .unset, .unset, .unset, .unset, .unset] [(.int (2 : Int32)), (.ref b1), (.int (3 : Int32)), (.ref b1)])) rfl rfl (hb hby at_101) _ ?_
  refine XS.lloadN X6.here hx rfl (hb hby at_102) rfl ?_
  refine XS.bipush X6.here hx rfl (hb hby at_103) ?_
  show Steps p.tables e below (T6.setTop (mkF m 105 #[.val (.int sel), .val (.int qr), .val (.int base), .val (.long gaps), .second, .val (.int ch), .val (.int nn), .val (.ref b1), .unset, .unset, .unset, .unset, .unset, .unset, .unset, .unset, .unset, .unset] [(.int (16 : Int32)), (.long gaps), (.long s2), (.int (3 : Int32)), (.ref b1)])) _
  refine XS.lushr X6.here hx rfl (hb hby at_105) rfl ?_
  show Steps p.tables e below (T6.setTop (mkF m 106 #[.val (.int sel), .val (.int qr), .val (.int base), .val (.long gaps), .second, .val (.int ch), .val (.int nn), .val (.ref b1), .unset, .unset, .unset, .unset, .unset, .unset, .unset, .unset, .unset, .unset] [(.long ((gaps.toUInt64 >>> ((16 : Int32) &&& 0x3f).toInt64.toUInt64).toInt64)), (.long s2), (.int (3 : Int32)), (.ref b1)])) _
  refine X6.ldc2Long hx hown (mvT hZ (hw _ (List.mem_of_getElem? (i := 2) rfl))) (g := (mkF m 106 #[.val (.int sel), .val (.int qr), .val (.int base), .val (.long gaps), .second, .val (.int ch), .val (.int nn), .val (.ref b1), .unset, .unset, .unset, .unset, .unset, .unset, .unset, .unset, .unset, .unset] [(.long ((gaps.toUInt64 >>> ((16 : Int32) &&& 0x3f).toInt64.toUInt64).toInt64)), (.long s2), (.int (3 : Int32)), (.ref b1)])) rfl (hb hby at_106) _ ?_
  refine XS.land X6.here hx rfl (hb hby at_109) rfl ?_
  refine XS.ladd X6.here hx rfl (hb hby at_110) rfl ?_
  show Steps p.tables e below (T6.setTop (mkF m 111 #[.val (.int sel), .val (.int qr), .val (.int base), .val (.long gaps), .second, .val (.int ch), .val (.int nn), .val (.ref b1), .unset, .unset, .unset, .unset, .unset, .unset, .unset, .unset, .unset, .unset] [(.long (s2 + (((gaps.toUInt64 >>> ((16 : Int32) &&& 0x3f).toInt64.toUInt64).toInt64) &&& (255 : Int64)))), (.int (3 : Int32)), (.ref b1)])) _
  rw [show (s2 + (((gaps.toUInt64 >>> ((16 : Int32) &&& 0x3f).toInt64.toUInt64).toInt64) &&& (255 : Int64))) = s3 from hs3]
  show Steps p.tables e below (T6.setTop (mkF m 111 #[.val (.int sel), .val (.int qr), .val (.int base), .val (.long gaps), .second, .val (.int ch), .val (.int nn), .val (.ref b1), .unset, .unset, .unset, .unset, .unset, .unset, .unset, .unset, .unset, .unset] [(.long s3), (.int (3 : Int32)), (.ref b1)])) _
  refine st8 _ ?_
  refine XS.aload X8.here hx rfl (hb hby at_112) rfl rfl ?_
  refine XS.iconst X8.here hx rfl (hb hby at_114) ?_
  show Steps p.tables e below (T8.setTop (mkF m 115 #[.val (.int sel), .val (.int qr), .val (.int base), .val (.long gaps), .second, .val (.int ch), .val (.int nn), .val (.ref b1), .unset, .unset, .unset, .unset, .unset, .unset, .unset, .unset, .unset, .unset] [(.int (4 : Int32)), (.ref b1)])) _
  refine XS.aload X8.here hx rfl (hb hby at_115) rfl rfl ?_
  refine XS.iconst X8.here hx rfl (hb hby at_117) ?_
  show Steps p.tables e below (T8.setTop (mkF m 118 #[.val (.int sel), .val (.int qr), .val (.int base), .val (.long gaps), .second, .val (.int ch), .val (.int nn), .val (.ref b1), .unset, .unset, .unset, .unset, .unset, .unset, .unset, .unset, .unset, .unset] [(.int (3 : Int32)), (.ref b1), (.int (4 : Int32)), (.ref b1)])) _
  refine X8.laload hx (j := (3 : Int32)) (v := (.long s3)) (by rw [e8]; exact Ar9.1) (State.isArrayOf_alike hZ.alike Ar9.2.1) Ar9.2.2 hin9 hat9 (g := (mkF m 118 #[.val (.int sel), .val (.int qr), .val (.int base), .val (.long gaps), .second, .val (.int ch), .val (.int nn), .val (.ref b1), .unset, .unset, .unset, .unset, .unset, .unset, .unset, .unset, .unset, .unset] [(.int (3 : Int32)), (.ref b1), (.int (4 : Int32)), (.ref b1)])) rfl rfl (hb hby at_118) _ ?_
  refine XS.lloadN X8.here hx rfl (hb hby at_119) rfl ?_
  refine XS.bipush X8.here hx rfl (hb hby at_120) ?_
  show Steps p.tables e below (T8.setTop (mkF m 122 #[.val (.int sel), .val (.int qr), .val (.int base), .val (.long gaps), .second, .val (.int ch), .val (.int nn), .val (.ref b1), .unset, .unset, .unset, .unset, .unset, .unset, .unset, .unset, .unset, .unset] [(.int (24 : Int32)), (.long gaps), (.long s3), (.int (4 : Int32)), (.ref b1)])) _
  refine XS.lushr X8.here hx rfl (hb hby at_122) rfl ?_
  show Steps p.tables e below (T8.setTop (mkF m 123 #[.val (.int sel), .val (.int qr), .val (.int base), .val (.long gaps), .second, .val (.int ch), .val (.int nn), .val (.ref b1), .unset, .unset, .unset, .unset, .unset, .unset, .unset, .unset, .unset, .unset] [(.long ((gaps.toUInt64 >>> ((24 : Int32) &&& 0x3f).toInt64.toUInt64).toInt64)), (.long s3), (.int (4 : Int32)), (.ref b1)])) _
  refine X8.ldc2Long hx hown (mvT hZ (hw _ (List.mem_of_getElem? (i := 2) rfl))) (g := (mkF m 123 #[.val (.int sel), .val (.int qr), .val (.int base), .val (.long gaps), .second, .val (.int ch), .val (.int nn), .val (.ref b1), .unset, .unset, .unset, .unset, .unset, .unset, .unset, .unset, .unset, .unset] [(.long ((gaps.toUInt64 >>> ((24 : Int32) &&& 0x3f).toInt64.toUInt64).toInt64)), (.long s3), (.int (4 : Int32)), (.ref b1)])) rfl (hb hby at_123) _ ?_
  refine XS.land X8.here hx rfl (hb hby at_126) rfl ?_
  refine XS.ladd X8.here hx rfl (hb hby at_127) rfl ?_
  show Steps p.tables e below (T8.setTop (mkF m 128 #[.val (.int sel), .val (.int qr), .val (.int base), .val (.long gaps), .second, .val (.int ch), .val (.int nn), .val (.ref b1), .unset, .unset, .unset, .unset, .unset, .unset, .unset, .unset, .unset, .unset] [(.long (s3 + (((gaps.toUInt64 >>> ((24 : Int32) &&& 0x3f).toInt64.toUInt64).toInt64) &&& (255 : Int64)))), (.int (4 : Int32)), (.ref b1)])) _
  rw [show (s3 + (((gaps.toUInt64 >>> ((24 : Int32) &&& 0x3f).toInt64.toUInt64).toInt64) &&& (255 : Int64))) = s4 from hs4]
  show Steps p.tables e below (T8.setTop (mkF m 128 #[.val (.int sel), .val (.int qr), .val (.int base), .val (.long gaps), .second, .val (.int ch), .val (.int nn), .val (.ref b1), .unset, .unset, .unset, .unset, .unset, .unset, .unset, .unset, .unset, .unset] [(.long s4), (.int (4 : Int32)), (.ref b1)])) _
  refine st10 _ ?_
  refine XS.aload X10.here hx rfl (hb hby at_129) rfl rfl ?_
  refine XS.iconst X10.here hx rfl (hb hby at_131) ?_
  show Steps p.tables e below (T10.setTop (mkF m 132 #[.val (.int sel), .val (.int qr), .val (.int base), .val (.long gaps), .second, .val (.int ch), .val (.int nn), .val (.ref b1), .unset, .unset, .unset, .unset, .unset, .unset, .unset, .unset, .unset, .unset] [(.int (5 : Int32)), (.ref b1)])) _
  refine XS.aload X10.here hx rfl (hb hby at_132) rfl rfl ?_
  refine XS.iconst X10.here hx rfl (hb hby at_134) ?_
  show Steps p.tables e below (T10.setTop (mkF m 135 #[.val (.int sel), .val (.int qr), .val (.int base), .val (.long gaps), .second, .val (.int ch), .val (.int nn), .val (.ref b1), .unset, .unset, .unset, .unset, .unset, .unset, .unset, .unset, .unset, .unset] [(.int (4 : Int32)), (.ref b1), (.int (5 : Int32)), (.ref b1)])) _
  refine X10.laload hx (j := (4 : Int32)) (v := (.long s4)) (by rw [e10]; exact Ar11.1) (State.isArrayOf_alike hZ.alike Ar11.2.1) Ar11.2.2 hin11 hat11 (g := (mkF m 135 #[.val (.int sel), .val (.int qr), .val (.int base), .val (.long gaps), .second, .val (.int ch), .val (.int nn), .val (.ref b1), .unset, .unset, .unset, .unset, .unset, .unset, .unset, .unset, .unset, .unset] [(.int (4 : Int32)), (.ref b1), (.int (5 : Int32)), (.ref b1)])) rfl rfl (hb hby at_135) _ ?_
  refine XS.lloadN X10.here hx rfl (hb hby at_136) rfl ?_
  refine XS.bipush X10.here hx rfl (hb hby at_137) ?_
  show Steps p.tables e below (T10.setTop (mkF m 139 #[.val (.int sel), .val (.int qr), .val (.int base), .val (.long gaps), .second, .val (.int ch), .val (.int nn), .val (.ref b1), .unset, .unset, .unset, .unset, .unset, .unset, .unset, .unset, .unset, .unset] [(.int (32 : Int32)), (.long gaps), (.long s4), (.int (5 : Int32)), (.ref b1)])) _
  refine XS.lushr X10.here hx rfl (hb hby at_139) rfl ?_
  show Steps p.tables e below (T10.setTop (mkF m 140 #[.val (.int sel), .val (.int qr), .val (.int base), .val (.long gaps), .second, .val (.int ch), .val (.int nn), .val (.ref b1), .unset, .unset, .unset, .unset, .unset, .unset, .unset, .unset, .unset, .unset] [(.long ((gaps.toUInt64 >>> ((32 : Int32) &&& 0x3f).toInt64.toUInt64).toInt64)), (.long s4), (.int (5 : Int32)), (.ref b1)])) _
  refine X10.ldc2Long hx hown (mvT hZ (hw _ (List.mem_of_getElem? (i := 2) rfl))) (g := (mkF m 140 #[.val (.int sel), .val (.int qr), .val (.int base), .val (.long gaps), .second, .val (.int ch), .val (.int nn), .val (.ref b1), .unset, .unset, .unset, .unset, .unset, .unset, .unset, .unset, .unset, .unset] [(.long ((gaps.toUInt64 >>> ((32 : Int32) &&& 0x3f).toInt64.toUInt64).toInt64)), (.long s4), (.int (5 : Int32)), (.ref b1)])) rfl (hb hby at_140) _ ?_
  refine XS.land X10.here hx rfl (hb hby at_143) rfl ?_
  refine XS.ladd X10.here hx rfl (hb hby at_144) rfl ?_
  show Steps p.tables e below (T10.setTop (mkF m 145 #[.val (.int sel), .val (.int qr), .val (.int base), .val (.long gaps), .second, .val (.int ch), .val (.int nn), .val (.ref b1), .unset, .unset, .unset, .unset, .unset, .unset, .unset, .unset, .unset, .unset] [(.long (s4 + (((gaps.toUInt64 >>> ((32 : Int32) &&& 0x3f).toInt64.toUInt64).toInt64) &&& (255 : Int64)))), (.int (5 : Int32)), (.ref b1)])) _
  rw [show (s4 + (((gaps.toUInt64 >>> ((32 : Int32) &&& 0x3f).toInt64.toUInt64).toInt64) &&& (255 : Int64))) = s5 from hs5]
  show Steps p.tables e below (T10.setTop (mkF m 145 #[.val (.int sel), .val (.int qr), .val (.int base), .val (.long gaps), .second, .val (.int ch), .val (.int nn), .val (.ref b1), .unset, .unset, .unset, .unset, .unset, .unset, .unset, .unset, .unset, .unset] [(.long s5), (.int (5 : Int32)), (.ref b1)])) _
  refine st12 _ ?_
  refine XS.aload X12.here hx rfl (hb hby at_146) rfl rfl ?_
  refine XS.bipush X12.here hx rfl (hb hby at_148) ?_
  show Steps p.tables e below (T12.setTop (mkF m 150 #[.val (.int sel), .val (.int qr), .val (.int base), .val (.long gaps), .second, .val (.int ch), .val (.int nn), .val (.ref b1), .unset, .unset, .unset, .unset, .unset, .unset, .unset, .unset, .unset, .unset] [(.int (6 : Int32)), (.ref b1)])) _
  refine XS.aload X12.here hx rfl (hb hby at_150) rfl rfl ?_
  refine XS.iconst X12.here hx rfl (hb hby at_152) ?_
  show Steps p.tables e below (T12.setTop (mkF m 153 #[.val (.int sel), .val (.int qr), .val (.int base), .val (.long gaps), .second, .val (.int ch), .val (.int nn), .val (.ref b1), .unset, .unset, .unset, .unset, .unset, .unset, .unset, .unset, .unset, .unset] [(.int (5 : Int32)), (.ref b1), (.int (6 : Int32)), (.ref b1)])) _
  refine X12.laload hx (j := (5 : Int32)) (v := (.long s5)) (by rw [e12]; exact Ar13.1) (State.isArrayOf_alike hZ.alike Ar13.2.1) Ar13.2.2 hin13 hat13 (g := (mkF m 153 #[.val (.int sel), .val (.int qr), .val (.int base), .val (.long gaps), .second, .val (.int ch), .val (.int nn), .val (.ref b1), .unset, .unset, .unset, .unset, .unset, .unset, .unset, .unset, .unset, .unset] [(.int (5 : Int32)), (.ref b1), (.int (6 : Int32)), (.ref b1)])) rfl rfl (hb hby at_153) _ ?_
  refine XS.lloadN X12.here hx rfl (hb hby at_154) rfl ?_
  refine XS.bipush X12.here hx rfl (hb hby at_155) ?_
  show Steps p.tables e below (T12.setTop (mkF m 157 #[.val (.int sel), .val (.int qr), .val (.int base), .val (.long gaps), .second, .val (.int ch), .val (.int nn), .val (.ref b1), .unset, .unset, .unset, .unset, .unset, .unset, .unset, .unset, .unset, .unset] [(.int (40 : Int32)), (.long gaps), (.long s5), (.int (6 : Int32)), (.ref b1)])) _
  refine XS.lushr X12.here hx rfl (hb hby at_157) rfl ?_
  show Steps p.tables e below (T12.setTop (mkF m 158 #[.val (.int sel), .val (.int qr), .val (.int base), .val (.long gaps), .second, .val (.int ch), .val (.int nn), .val (.ref b1), .unset, .unset, .unset, .unset, .unset, .unset, .unset, .unset, .unset, .unset] [(.long ((gaps.toUInt64 >>> ((40 : Int32) &&& 0x3f).toInt64.toUInt64).toInt64)), (.long s5), (.int (6 : Int32)), (.ref b1)])) _
  refine X12.ldc2Long hx hown (mvT hZ (hw _ (List.mem_of_getElem? (i := 2) rfl))) (g := (mkF m 158 #[.val (.int sel), .val (.int qr), .val (.int base), .val (.long gaps), .second, .val (.int ch), .val (.int nn), .val (.ref b1), .unset, .unset, .unset, .unset, .unset, .unset, .unset, .unset, .unset, .unset] [(.long ((gaps.toUInt64 >>> ((40 : Int32) &&& 0x3f).toInt64.toUInt64).toInt64)), (.long s5), (.int (6 : Int32)), (.ref b1)])) rfl (hb hby at_158) _ ?_
  refine XS.land X12.here hx rfl (hb hby at_161) rfl ?_
  refine XS.ladd X12.here hx rfl (hb hby at_162) rfl ?_
  show Steps p.tables e below (T12.setTop (mkF m 163 #[.val (.int sel), .val (.int qr), .val (.int base), .val (.long gaps), .second, .val (.int ch), .val (.int nn), .val (.ref b1), .unset, .unset, .unset, .unset, .unset, .unset, .unset, .unset, .unset, .unset] [(.long (s5 + (((gaps.toUInt64 >>> ((40 : Int32) &&& 0x3f).toInt64.toUInt64).toInt64) &&& (255 : Int64)))), (.int (6 : Int32)), (.ref b1)])) _
  rw [show (s5 + (((gaps.toUInt64 >>> ((40 : Int32) &&& 0x3f).toInt64.toUInt64).toInt64) &&& (255 : Int64))) = s6 from hs6]
  show Steps p.tables e below (T12.setTop (mkF m 163 #[.val (.int sel), .val (.int qr), .val (.int base), .val (.long gaps), .second, .val (.int ch), .val (.int nn), .val (.ref b1), .unset, .unset, .unset, .unset, .unset, .unset, .unset, .unset, .unset, .unset] [(.long s6), (.int (6 : Int32)), (.ref b1)])) _
  refine st14 _ ?_
  refine XS.aload X14.here hx rfl (hb hby at_164) rfl rfl ?_
  refine XS.bipush X14.here hx rfl (hb hby at_166) ?_
  show Steps p.tables e below (T14.setTop (mkF m 168 #[.val (.int sel), .val (.int qr), .val (.int base), .val (.long gaps), .second, .val (.int ch), .val (.int nn), .val (.ref b1), .unset, .unset, .unset, .unset, .unset, .unset, .unset, .unset, .unset, .unset] [(.int (7 : Int32)), (.ref b1)])) _
  refine XS.aload X14.here hx rfl (hb hby at_168) rfl rfl ?_
  refine XS.bipush X14.here hx rfl (hb hby at_170) ?_
  show Steps p.tables e below (T14.setTop (mkF m 172 #[.val (.int sel), .val (.int qr), .val (.int base), .val (.long gaps), .second, .val (.int ch), .val (.int nn), .val (.ref b1), .unset, .unset, .unset, .unset, .unset, .unset, .unset, .unset, .unset, .unset] [(.int (6 : Int32)), (.ref b1), (.int (7 : Int32)), (.ref b1)])) _
  refine X14.laload hx (j := (6 : Int32)) (v := (.long s6)) (by rw [e14]; exact Ar15.1) (State.isArrayOf_alike hZ.alike Ar15.2.1) Ar15.2.2 hin15 hat15 (g := (mkF m 172 #[.val (.int sel), .val (.int qr), .val (.int base), .val (.long gaps), .second, .val (.int ch), .val (.int nn), .val (.ref b1), .unset, .unset, .unset, .unset, .unset, .unset, .unset, .unset, .unset, .unset] [(.int (6 : Int32)), (.ref b1), (.int (7 : Int32)), (.ref b1)])) rfl rfl (hb hby at_172) _ ?_
  refine XS.lloadN X14.here hx rfl (hb hby at_173) rfl ?_
  refine XS.bipush X14.here hx rfl (hb hby at_174) ?_
  show Steps p.tables e below (T14.setTop (mkF m 176 #[.val (.int sel), .val (.int qr), .val (.int base), .val (.long gaps), .second, .val (.int ch), .val (.int nn), .val (.ref b1), .unset, .unset, .unset, .unset, .unset, .unset, .unset, .unset, .unset, .unset] [(.int (48 : Int32)), (.long gaps), (.long s6), (.int (7 : Int32)), (.ref b1)])) _
  refine XS.lushr X14.here hx rfl (hb hby at_176) rfl ?_
  show Steps p.tables e below (T14.setTop (mkF m 177 #[.val (.int sel), .val (.int qr), .val (.int base), .val (.long gaps), .second, .val (.int ch), .val (.int nn), .val (.ref b1), .unset, .unset, .unset, .unset, .unset, .unset, .unset, .unset, .unset, .unset] [(.long ((gaps.toUInt64 >>> ((48 : Int32) &&& 0x3f).toInt64.toUInt64).toInt64)), (.long s6), (.int (7 : Int32)), (.ref b1)])) _
  refine X14.ldc2Long hx hown (mvT hZ (hw _ (List.mem_of_getElem? (i := 2) rfl))) (g := (mkF m 177 #[.val (.int sel), .val (.int qr), .val (.int base), .val (.long gaps), .second, .val (.int ch), .val (.int nn), .val (.ref b1), .unset, .unset, .unset, .unset, .unset, .unset, .unset, .unset, .unset, .unset] [(.long ((gaps.toUInt64 >>> ((48 : Int32) &&& 0x3f).toInt64.toUInt64).toInt64)), (.long s6), (.int (7 : Int32)), (.ref b1)])) rfl (hb hby at_177) _ ?_
  refine XS.land X14.here hx rfl (hb hby at_180) rfl ?_
  refine XS.ladd X14.here hx rfl (hb hby at_181) rfl ?_
  show Steps p.tables e below (T14.setTop (mkF m 182 #[.val (.int sel), .val (.int qr), .val (.int base), .val (.long gaps), .second, .val (.int ch), .val (.int nn), .val (.ref b1), .unset, .unset, .unset, .unset, .unset, .unset, .unset, .unset, .unset, .unset] [(.long (s6 + (((gaps.toUInt64 >>> ((48 : Int32) &&& 0x3f).toInt64.toUInt64).toInt64) &&& (255 : Int64)))), (.int (7 : Int32)), (.ref b1)])) _
  rw [show (s6 + (((gaps.toUInt64 >>> ((48 : Int32) &&& 0x3f).toInt64.toUInt64).toInt64) &&& (255 : Int64))) = s7 from hs7]
  show Steps p.tables e below (T14.setTop (mkF m 182 #[.val (.int sel), .val (.int qr), .val (.int base), .val (.long gaps), .second, .val (.int ch), .val (.int nn), .val (.ref b1), .unset, .unset, .unset, .unset, .unset, .unset, .unset, .unset, .unset, .unset] [(.long s7), (.int (7 : Int32)), (.ref b1)])) _
  refine st16 _ ?_
  refine XS.aload X16.here hx rfl (hb hby at_183) rfl rfl ?_
  refine XS.bipush X16.here hx rfl (hb hby at_185) ?_
  show Steps p.tables e below (T16.setTop (mkF m 187 #[.val (.int sel), .val (.int qr), .val (.int base), .val (.long gaps), .second, .val (.int ch), .val (.int nn), .val (.ref b1), .unset, .unset, .unset, .unset, .unset, .unset, .unset, .unset, .unset, .unset] [(.int (8 : Int32)), (.ref b1)])) _
  refine XS.aload X16.here hx rfl (hb hby at_187) rfl rfl ?_
  refine XS.bipush X16.here hx rfl (hb hby at_189) ?_
  show Steps p.tables e below (T16.setTop (mkF m 191 #[.val (.int sel), .val (.int qr), .val (.int base), .val (.long gaps), .second, .val (.int ch), .val (.int nn), .val (.ref b1), .unset, .unset, .unset, .unset, .unset, .unset, .unset, .unset, .unset, .unset] [(.int (7 : Int32)), (.ref b1), (.int (8 : Int32)), (.ref b1)])) _
  refine X16.laload hx (j := (7 : Int32)) (v := (.long s7)) (by rw [e16]; exact Ar17.1) (State.isArrayOf_alike hZ.alike Ar17.2.1) Ar17.2.2 hin17 hat17 (g := (mkF m 191 #[.val (.int sel), .val (.int qr), .val (.int base), .val (.long gaps), .second, .val (.int ch), .val (.int nn), .val (.ref b1), .unset, .unset, .unset, .unset, .unset, .unset, .unset, .unset, .unset, .unset] [(.int (7 : Int32)), (.ref b1), (.int (8 : Int32)), (.ref b1)])) rfl rfl (hb hby at_191) _ ?_
  refine XS.lloadN X16.here hx rfl (hb hby at_192) rfl ?_
  refine XS.bipush X16.here hx rfl (hb hby at_193) ?_
  show Steps p.tables e below (T16.setTop (mkF m 195 #[.val (.int sel), .val (.int qr), .val (.int base), .val (.long gaps), .second, .val (.int ch), .val (.int nn), .val (.ref b1), .unset, .unset, .unset, .unset, .unset, .unset, .unset, .unset, .unset, .unset] [(.int (56 : Int32)), (.long gaps), (.long s7), (.int (8 : Int32)), (.ref b1)])) _
  refine XS.lushr X16.here hx rfl (hb hby at_195) rfl ?_
  show Steps p.tables e below (T16.setTop (mkF m 196 #[.val (.int sel), .val (.int qr), .val (.int base), .val (.long gaps), .second, .val (.int ch), .val (.int nn), .val (.ref b1), .unset, .unset, .unset, .unset, .unset, .unset, .unset, .unset, .unset, .unset] [(.long ((gaps.toUInt64 >>> ((56 : Int32) &&& 0x3f).toInt64.toUInt64).toInt64)), (.long s7), (.int (8 : Int32)), (.ref b1)])) _
  refine X16.ldc2Long hx hown (mvT hZ (hw _ (List.mem_of_getElem? (i := 2) rfl))) (g := (mkF m 196 #[.val (.int sel), .val (.int qr), .val (.int base), .val (.long gaps), .second, .val (.int ch), .val (.int nn), .val (.ref b1), .unset, .unset, .unset, .unset, .unset, .unset, .unset, .unset, .unset, .unset] [(.long ((gaps.toUInt64 >>> ((56 : Int32) &&& 0x3f).toInt64.toUInt64).toInt64)), (.long s7), (.int (8 : Int32)), (.ref b1)])) rfl (hb hby at_196) _ ?_
  refine XS.land X16.here hx rfl (hb hby at_199) rfl ?_
  refine XS.ladd X16.here hx rfl (hb hby at_200) rfl ?_
  show Steps p.tables e below (T16.setTop (mkF m 201 #[.val (.int sel), .val (.int qr), .val (.int base), .val (.long gaps), .second, .val (.int ch), .val (.int nn), .val (.ref b1), .unset, .unset, .unset, .unset, .unset, .unset, .unset, .unset, .unset, .unset] [(.long (s7 + (((gaps.toUInt64 >>> ((56 : Int32) &&& 0x3f).toInt64.toUInt64).toInt64) &&& (255 : Int64)))), (.int (8 : Int32)), (.ref b1)])) _
  rw [show (s7 + (((gaps.toUInt64 >>> ((56 : Int32) &&& 0x3f).toInt64.toUInt64).toInt64) &&& (255 : Int64))) = s8 from hs8]
  show Steps p.tables e below (T16.setTop (mkF m 201 #[.val (.int sel), .val (.int qr), .val (.int base), .val (.long gaps), .second, .val (.int ch), .val (.int nn), .val (.ref b1), .unset, .unset, .unset, .unset, .unset, .unset, .unset, .unset, .unset, .unset] [(.long s8), (.int (8 : Int32)), (.ref b1)])) _
  refine st18 _ ?_
  show Steps p.tables e below (T18.setTop (mkF m 202 #[.val (.int sel), .val (.int qr), .val (.int base), .val (.long gaps), .second, .val (.int ch), .val (.int nn), .val (.ref b1), .unset, .unset, .unset, .unset, .unset, .unset, .unset, .unset, .unset, .unset] [])) _
  exact kt
theorem pd__I_J__D : parseMethodDescriptor "(I[J)[D" = some ⟨[.int, (.array .long)], some (.array .double)⟩ := by decide +kernel
theorem pd___DD_D : parseMethodDescriptor "([DD)D" = some ⟨[(.array .double), .double], some .double⟩ := by decide +kernel
theorem ef_code (m : MethodId) (x0 : Int32) (x1 : Int32) (x2 : Int32) (x3 : Int64) : entryFrame m #[(.int x0), (.int x1), (.int x2), (.long x3)] maxLocals = mkF m 0 #[.val (.int x0), .val (.int x1), .val (.int x2), .val (.long x3), .second, .unset, .unset, .unset, .unset, .unset, .unset, .unset, .unset, .unset, .unset, .unset, .unset, .unset] [] := by first | (simp [entryFrame, mkF, argsToLocals, Value.category, maxLocals]; done) | rfl
set_option maxRecDepth 65536 in
set_option maxHeartbeats 40000000 in
theorem rm0a1 (l : Launch) (Z : State) (a0 : Array Value) (hw : ∀ d ∈ tables_1, d.before a0 Z = true) (ws : List Jvm.Cond) (sel qr base : Int32) (gaps : Int64) (s0 s1 s2 s3 s4 s5 s6 s7 s8 : Int64) (q : Int32) (h0 : Heap) (n0 : Nat) (Z0 : n0 ≤ h0.size) (hch : ((sel &&& (2147483647 : Int32)) % (5 : Int32)) = (0 : Int32)) (hs0 : (base.toInt64) = s0) (hs1 : s0 + (gaps &&& (255 : Int64)) = s1) (hs2 : s1 + (((gaps.toUInt64 >>> ((8 : Int32) &&& 0x3f).toInt64.toUInt64).toInt64) &&& (255 : Int64)) = s2) (hs3 : s2 + (((gaps.toUInt64 >>> ((16 : Int32) &&& 0x3f).toInt64.toUInt64).toInt64) &&& (255 : Int64)) = s3) (hs4 : s3 + (((gaps.toUInt64 >>> ((24 : Int32) &&& 0x3f).toInt64.toUInt64).toInt64) &&& (255 : Int64)) = s4) (hs5 : s4 + (((gaps.toUInt64 >>> ((32 : Int32) &&& 0x3f).toInt64.toUInt64).toInt64) &&& (255 : Int64)) = s5) (hs6 : s5 + (((gaps.toUInt64 >>> ((40 : Int32) &&& 0x3f).toInt64.toUInt64).toInt64) &&& (255 : Int64)) = s6) (hs7 : s6 + (((gaps.toUInt64 >>> ((48 : Int32) &&& 0x3f).toInt64.toUInt64).toInt64) &&& (255 : Int64)) = s7) (hs8 : s7 + (((gaps.toUInt64 >>> ((56 : Int32) &&& 0x3f).toInt64.toUInt64).toInt64) &&& (255 : Int64)) = s8) (hqq : (((qr &&& (2147483647 : Int32)) % (((8 : Int32) * (1 : Int32)) + (33 : Int32))) - (16 : Int32)) = q) (hm1 : Jvm.Free.Fl.NoNaN64 (own_m q)) (hm2 : Jvm.Free.Fl.NoNaN64 (own_pct (1 : Int32) q)) (hp1 : Jvm.Free.Fl.NoNaN64 (own_pm (1 : Int32) q)) (hp2 : Jvm.Free.Fl.NoNaN64 (own_pos (1 : Int32) q)) (hn344 : Jvm.Free.Fl.NoNaN64 (FP.dmul (FP.l2d s0) (4620693217682128896 : UInt64))) (hv348 : cmpValue (FP.dcmp (FP.dmul (FP.l2d s0) (4620693217682128896 : UInt64)) (FP.l2d ((8 : Int64) * s0))) .l = (0 : Int32)) (hq8 : q < (8 : Int32)) (hcA : own_cA (1 : Int32) q < (0 : Int32))   :
    MetFree l x (head1 (Jvm.Cond.code x code maxLocals ret :: ws) room_1) (fun a U => a = #[(.int sel), (.int qr), (.int base), (.long gaps)] ∧ Z.Warmed39 U.vm ∧ U.heap = h0) (fun _ _ _ _ _ => True) (fun _ U o U' => ∃ v L, o = .returned v ∧ QL n0 v U'.heap L ∧ FrameEnd U o U' L 2 10) := by
  refine MetFree.of_bodySF (plainFor_of_name pn_com_example_bytegauge_bytegauge_stats_JsonTablePercentilePinLaw) hisR ?_
  intro p e s m args below meth c s₁ Bd hml0 hP hK
  obtain ⟨rfl, hZ, hh⟩ := hP
  have hx := Bd.exec
  have hby := Bd.bytes
  have hml : c.maxLocals = 18 := hml0
  have hown : s.vm.findClass "com/example/bytegauge/bytegauge/stats/JsonTablePercentilePinLaw" = some m.cls := findClass_of_methodNamed Bd.named
  have hnm := (name_of_methodNamed Bd.named Bd.method).1
  have X0 : Stand p l e room_1 s m #[(.int sel), (.int qr), (.int base), (.long gaps)] below meth c s₁ [] 0 0 := Stand.of_body Bd
  have e0 : s₁.heap = h0 := by rw [← hh, Bd.state]; rfl
  have N0 := Fr.nil n0
  have pre0 : ∀ t, Steps p.tables e below (s₁.setTop (mkF m 0 #[.val (.int sel), .val (.int qr), .val (.int base), .val (.long gaps), .second, .unset, .unset, .unset, .unset, .unset, .unset, .unset, .unset, .unset, .unset, .unset, .unset, .unset] [])) t → Steps p.tables e below (s₁.setTop (entryFrame m #[(.int sel), (.int qr), (.int base), (.long gaps)] maxLocals)) t := fun t k => castTop (ef_code m sel qr base gaps) k
  obtain ⟨TA, hA, LA, bA, kA, XA, eA, NA, SZA, g_bA, VA, stA⟩ := segA h0 n0 Z0 sel qr base gaps (0 : Int32) (1 : Int32) s0 s1 s2 s3 s4 s5 s6 s7 s8 X0 hx hZ hw hby hml hown e0 hs0 hs1 hs2 hs3 hs4 hs5 hs6 hs7 hs8
  obtain ⟨_, _, ⟨T1, L1, k1, n1⟩, -, X1, ⟨Lc1, hQ1, l1, y1, z1⟩, st1⟩ := Jvm.LawKit.callS XA hx (y := (⟨"com/example/bytegauge/bytegauge/stats/JsonTablePercentilePinLaw", "sortedOf", "(I[J)[D"⟩ : MethodName)) hown (mvT hZ (hw _ (List.mem_of_getElem? (i := 3) rfl))) (mvT hZ (hw _ (List.mem_of_getElem? (i := 4) rfl))) (mvT hZ (hw _ (List.mem_of_getElem? (i := 5) rfl))) (mvT hZ (hw _ (List.mem_of_getElem? (i := 6) rfl))) (by decide) (backOf (W := 0) (rmS1 l Z a0 hw [] bA kA s0 s1 s2 s3 s4 s5 s6 s7 s8 hA n0 SZA VA) hZ (hw _ (List.mem_of_getElem? (i := 6) rfl)) (hw _ (List.mem_of_getElem? (i := 5) rfl)) (by decide) (by decide)) (g := (mkF m 206 #[.val (.int sel), .val (.int qr), .val (.int base), .val (.long gaps), .second, .val (.int (0 : Int32)), .val (.int (1 : Int32)), .val (.ref bA), .unset, .unset, .unset, .unset, .unset, .unset, .unset, .unset, .unset, .unset] [(.ref bA), (.int (1 : Int32))])) rfl (by rw [hml]; rfl) (argsL := [(.int (1 : Int32)), (.ref bA)]) (rest := []) (lenOf pd__I_J__D rfl) rfl (by show 2 * 0 + _ ≤ _; exact Nat.le_of_eq rfl) (hb hby at_206) (fun _ _ => ⟨rfl, eA, (by decide : 1 + 1 ≤ _), (by decide : 9 + 1 ≤ _)⟩)
  dsimp only [Pt.U, Pt.locs, Pt.cells, Pt.slots] at X1 l1 y1 z1 st1 hQ1
  subst l1 y1 z1
  obtain ⟨d_1, kd1, rfl, N1q, g_d_1, sz_d_1, K1q, V1q⟩ := hQ1
  have c1_0 := VA.keep K1q List.not_mem_nil
  have SZ1 := Nat.le_trans SZA K1q.1
  have N1 := Fr.app NA N1q
  obtain ⟨_, _, ⟨T2, L2, k2, n2⟩, -, X2, ⟨Lc2, hQ2, l2, y2, z2⟩, st2⟩ := Jvm.LawKit.callS X1 hx (y := (⟨"com/example/bytegauge/bytegauge/stats/JsonTable", "percentile", "([DD)D"⟩ : MethodName)) hown (mvT hZ (hw _ (List.mem_of_getElem? (i := 9) rfl))) (mvT hZ (hw _ (List.mem_of_getElem? (i := 10) rfl))) (mvT hZ (hw _ (List.mem_of_getElem? (i := 11) rfl))) (mvT hZ (hw _ (List.mem_of_getElem? (i := 12) rfl))) (by decide) (backOf (W := 0) (rmPa1 l Z a0 hw [] d_1 kd1 s0 s1 s2 s3 s4 s5 s6 s7 s8 (own_pct (1 : Int32) q) (own_pos (1 : Int32) q) T1.heap n0 SZ1 V1q hp1 hp2 rfl _ rfl hcA) hZ (hw _ (List.mem_of_getElem? (i := 12) rfl)) (hw _ (List.mem_of_getElem? (i := 11) rfl)) (by decide) (by decide)) (g := (mkF m 248 #[.val (.int sel), .val (.int qr), .val (.int base), .val (.long gaps), .second, .val (.int (0 : Int32)), .val (.int (1 : Int32)), .val (.ref bA), .val (.ref d_1), .val (.int q), .val (.double (own_pct (1 : Int32) q)), .second, .unset, .unset, .unset, .unset, .unset, .unset] [(.double (own_pct (1 : Int32) q)), (.ref d_1)])) rfl (by rw [hml]; rfl) (argsL := [(.ref d_1), (.double (own_pct (1 : Int32) q))]) (rest := []) (lenOf pd___DD_D rfl) rfl (by show 2 * 0 + _ ≤ _; exact Nat.le_of_eq rfl) (hb hby at_248) (fun _ _ => ⟨rfl, rfl, (by decide : 2 + 0 ≤ _), (by decide : 10 + 0 ≤ _)⟩)
  dsimp only [Pt.U, Pt.locs, Pt.cells, Pt.slots] at X2 l2 y2 z2 st2 hQ2
  subst l2 y2 z2
  obtain ⟨rfl, N2q, eq2⟩ := hQ2
  have N2 := Fr.app N1 N2q
  obtain ⟨cl3, Ar3, -, S3, Nn3, H3, -⟩ := id c1_0
  have hin3 : ¬ ((0 : Int32) < 0 ∨ cl3.slots.size ≤ ((0 : Int32)).toNatClampNeg) := inb_of S3 ⟨by decide, by decide⟩
  have hat3 : cl3.slots[((0 : Int32)).toNatClampNeg]? = some (.long s0) := H3.at hin3 rfl
  obtain ⟨fs, hr, hrun, hended, hW, hsame⟩ := X2.leave (v := some (.int (1 : Int32))) (fun h => by rw [Bd.returns] at h; cases h)
  refine ⟨_, _, pre0 _ ?_, hrun, hended, _, _, rfl, ?_, ⟨_, rfl⟩, hW, hsame.mono (by decide) (by decide)⟩
  · show Steps p.tables e below (s₁.setTop (mkF m 0 #[.val (.int sel), .val (.int qr), .val (.int base), .val (.long gaps), .second, .unset, .unset, .unset, .unset, .unset, .unset, .unset, .unset, .unset, .unset, .unset, .unset, .unset] [])) _
    refine XS.iloadN X0.here hx rfl (hb hby at_0) rfl ?_
    show Steps p.tables e below (s₁.setTop (mkF m 1 #[.val (.int sel), .val (.int qr), .val (.int base), .val (.long gaps), .second, .unset, .unset, .unset, .unset, .unset, .unset, .unset, .unset, .unset, .unset, .unset, .unset, .unset] [(.int sel)])) _
    refine X0.ldcInt hx hown (mvT hZ (hw _ (List.mem_of_getElem? (i := 0) rfl))) (g := (mkF m 1 #[.val (.int sel), .val (.int qr), .val (.int base), .val (.long gaps), .second, .unset, .unset, .unset, .unset, .unset, .unset, .unset, .unset, .unset, .unset, .unset, .unset, .unset] [(.int sel)])) rfl (hb hby at_1) _ ?_
    refine XS.iand X0.here hx rfl (hb hby at_3) rfl ?_
    refine XS.iconst X0.here hx rfl (hb hby at_4) ?_
    show Steps p.tables e below (s₁.setTop (mkF m 5 #[.val (.int sel), .val (.int qr), .val (.int base), .val (.long gaps), .second, .unset, .unset, .unset, .unset, .unset, .unset, .unset, .unset, .unset, .unset, .unset, .unset, .unset] [(.int (5 : Int32)), (.int (sel &&& (2147483647 : Int32)))])) _
    refine iremM X0 hx rfl (hb hby at_5) rfl (by decide) ?_
    show Steps p.tables e below (s₁.setTop (mkF m 6 #[.val (.int sel), .val (.int qr), .val (.int base), .val (.long gaps), .second, .unset, .unset, .unset, .unset, .unset, .unset, .unset, .unset, .unset, .unset, .unset, .unset, .unset] [(.int ((sel &&& (2147483647 : Int32)) % (5 : Int32)))])) _
    rw [show ((sel &&& (2147483647 : Int32)) % (5 : Int32)) = (0 : Int32) from hch]
    refine XS.istore X0.here hx rfl (hb hby at_6) rfl (l' := #[.val (.int sel), .val (.int qr), .val (.int base), .val (.long gaps), .second, .val (.int (0 : Int32)), .unset, .unset, .unset, .unset, .unset, .unset, .unset, .unset, .unset, .unset, .unset, .unset]) rfl ?_
    refine XS.iload X0.here hx rfl (hb hby at_8) rfl ?_
    show Steps p.tables e below (s₁.setTop (mkF m 10 #[.val (.int sel), .val (.int qr), .val (.int base), .val (.long gaps), .second, .val (.int (0 : Int32)), .unset, .unset, .unset, .unset, .unset, .unset, .unset, .unset, .unset, .unset, .unset, .unset] [(.int (0 : Int32))])) _
    refine XS.ifNo X0.here hx rfl (hb hby at_10) rfl ((if0 _ _).trans (teq (by decide : (0 : Int32) = (0 : Int32))).2) ?_
    refine XS.iconst X0.here hx rfl (hb hby at_13) ?_
    refine XS.goto X0.here hx rfl (pc0 := 14) (pc' := 50) rfl (hb hby at_14) (by decide) (by decide) ?_
    show Steps p.tables e below (s₁.setTop (mkF m 50 #[.val (.int sel), .val (.int qr), .val (.int base), .val (.long gaps), .second, .val (.int (0 : Int32)), .unset, .unset, .unset, .unset, .unset, .unset, .unset, .unset, .unset, .unset, .unset, .unset] [(.int (1 : Int32))])) _
    refine XS.istore X0.here hx rfl (hb hby at_50) rfl (l' := #[.val (.int sel), .val (.int qr), .val (.int base), .val (.long gaps), .second, .val (.int (0 : Int32)), .val (.int (1 : Int32)), .unset, .unset, .unset, .unset, .unset, .unset, .unset, .unset, .unset, .unset, .unset]) rfl ?_
    show Steps p.tables e below (s₁.setTop (mkF m 52 #[.val (.int sel), .val (.int qr), .val (.int base), .val (.long gaps), .second, .val (.int (0 : Int32)), .val (.int (1 : Int32)), .unset, .unset, .unset, .unset, .unset, .unset, .unset, .unset, .unset, .unset, .unset] [])) _
    refine stA _ ?_
    show Steps p.tables e below (TA.setTop (mkF m 202 #[.val (.int sel), .val (.int qr), .val (.int base), .val (.long gaps), .second, .val (.int (0 : Int32)), .val (.int (1 : Int32)), .val (.ref bA), .unset, .unset, .unset, .unset, .unset, .unset, .unset, .unset, .unset, .unset] [])) _
    refine XS.iload XA.here hx rfl (hb hby at_202) rfl ?_
    refine XS.aload XA.here hx rfl (hb hby at_204) rfl rfl ?_
    show Steps p.tables e below (TA.setTop (mkF m 206 #[.val (.int sel), .val (.int qr), .val (.int base), .val (.long gaps), .second, .val (.int (0 : Int32)), .val (.int (1 : Int32)), .val (.ref bA), .unset, .unset, .unset, .unset, .unset, .unset, .unset, .unset, .unset, .unset] [(.ref bA), (.int (1 : Int32))])) _
    refine st1 _ ?_
    refine XS.astore X1.here hx rfl (hb hby at_209) rfl rfl (l' := #[.val (.int sel), .val (.int qr), .val (.int base), .val (.long gaps), .second, .val (.int (0 : Int32)), .val (.int (1 : Int32)), .val (.ref bA), .val (.ref d_1), .unset, .unset, .unset, .unset, .unset, .unset, .unset, .unset, .unset]) rfl ?_
    refine XS.iloadN X1.here hx rfl (hb hby at_211) rfl ?_
    show Steps p.tables e below (T1.setTop (mkF m 212 #[.val (.int sel), .val (.int qr), .val (.int base), .val (.long gaps), .second, .val (.int (0 : Int32)), .val (.int (1 : Int32)), .val (.ref bA), .val (.ref d_1), .unset, .unset, .unset, .unset, .unset, .unset, .unset, .unset, .unset] [(.int qr)])) _
    refine X1.ldcInt hx hown (mvT hZ (hw _ (List.mem_of_getElem? (i := 0) rfl))) (g := (mkF m 212 #[.val (.int sel), .val (.int qr), .val (.int base), .val (.long gaps), .second, .val (.int (0 : Int32)), .val (.int (1 : Int32)), .val (.ref bA), .val (.ref d_1), .unset, .unset, .unset, .unset, .unset, .unset, .unset, .unset, .unset] [(.int qr)])) rfl (hb hby at_212) _ ?_
    refine XS.iand X1.here hx rfl (hb hby at_214) rfl ?_
    refine XS.bipush X1.here hx rfl (hb hby at_215) ?_
    show Steps p.tables e below (T1.setTop (mkF m 217 #[.val (.int sel), .val (.int qr), .val (.int base), .val (.long gaps), .second, .val (.int (0 : Int32)), .val (.int (1 : Int32)), .val (.ref bA), .val (.ref d_1), .unset, .unset, .unset, .unset, .unset, .unset, .unset, .unset, .unset] [(.int (8 : Int32)), (.int (qr &&& (2147483647 : Int32)))])) _
    refine XS.iload X1.here hx rfl (hb hby at_217) rfl ?_
    refine XS.imul X1.here hx rfl (hb hby at_219) rfl ?_
    refine XS.bipush X1.here hx rfl (hb hby at_220) ?_
    show Steps p.tables e below (T1.setTop (mkF m 222 #[.val (.int sel), .val (.int qr), .val (.int base), .val (.long gaps), .second, .val (.int (0 : Int32)), .val (.int (1 : Int32)), .val (.ref bA), .val (.ref d_1), .unset, .unset, .unset, .unset, .unset, .unset, .unset, .unset, .unset] [(.int (33 : Int32)), (.int ((8 : Int32) * (1 : Int32))), (.int (qr &&& (2147483647 : Int32)))])) _
    refine XS.iadd X1.here hx rfl (hb hby at_222) rfl ?_
    refine iremM X1 hx rfl (hb hby at_223) rfl (by decide) ?_
    refine XS.bipush X1.here hx rfl (hb hby at_224) ?_
    show Steps p.tables e below (T1.setTop (mkF m 226 #[.val (.int sel), .val (.int qr), .val (.int base), .val (.long gaps), .second, .val (.int (0 : Int32)), .val (.int (1 : Int32)), .val (.ref bA), .val (.ref d_1), .unset, .unset, .unset, .unset, .unset, .unset, .unset, .unset, .unset] [(.int (16 : Int32)), (.int ((qr &&& (2147483647 : Int32)) % (((8 : Int32) * (1 : Int32)) + (33 : Int32))))])) _
    refine XS.isub X1.here hx rfl (hb hby at_226) rfl ?_
    show Steps p.tables e below (T1.setTop (mkF m 227 #[.val (.int sel), .val (.int qr), .val (.int base), .val (.long gaps), .second, .val (.int (0 : Int32)), .val (.int (1 : Int32)), .val (.ref bA), .val (.ref d_1), .unset, .unset, .unset, .unset, .unset, .unset, .unset, .unset, .unset] [(.int (((qr &&& (2147483647 : Int32)) % (((8 : Int32) * (1 : Int32)) + (33 : Int32))) - (16 : Int32)))])) _
    rw [show (((qr &&& (2147483647 : Int32)) % (((8 : Int32) * (1 : Int32)) + (33 : Int32))) - (16 : Int32)) = q from hqq]
    refine XS.istore X1.here hx rfl (hb hby at_227) rfl (l' := #[.val (.int sel), .val (.int qr), .val (.int base), .val (.long gaps), .second, .val (.int (0 : Int32)), .val (.int (1 : Int32)), .val (.ref bA), .val (.ref d_1), .val (.int q), .unset, .unset, .unset, .unset, .unset, .unset, .unset, .unset]) rfl ?_
    show Steps p.tables e below (T1.setTop (mkF m 229 #[.val (.int sel), .val (.int qr), .val (.int base), .val (.long gaps), .second, .val (.int (0 : Int32)), .val (.int (1 : Int32)), .val (.ref bA), .val (.ref d_1), .val (.int q), .unset, .unset, .unset, .unset, .unset, .unset, .unset, .unset] [])) _
    refine X1.ldc2DoubleC hx hown (mvT hZ (hw _ (List.mem_of_getElem? (i := 8) rfl))) (g := (mkF m 229 #[.val (.int sel), .val (.int qr), .val (.int base), .val (.long gaps), .second, .val (.int (0 : Int32)), .val (.int (1 : Int32)), .val (.ref bA), .val (.ref d_1), .val (.int q), .unset, .unset, .unset, .unset, .unset, .unset, .unset, .unset] [])) rfl (hb hby at_229) _ ?_
    refine XS.iload X1.here hx rfl (hb hby at_232) rfl ?_
    refine XS.i2dS X1.here hx rfl (hb hby at_234) rfl (v := (FP.i2d q)) (rfl) ?_
    show Steps p.tables e below (T1.setTop (mkF m 235 #[.val (.int sel), .val (.int qr), .val (.int base), .val (.long gaps), .second, .val (.int (0 : Int32)), .val (.int (1 : Int32)), .val (.ref bA), .val (.ref d_1), .val (.int q), .unset, .unset, .unset, .unset, .unset, .unset, .unset, .unset] [(.double (FP.i2d q)), (.double (4623226492472524800 : UInt64))])) _
    refine XS.dmulS X1.here hx rfl (hb hby at_235) rfl hm1 (v := (own_m q)) (rfl) ?_
    refine XS.iload X1.here hx rfl (hb hby at_236) rfl ?_
    refine XS.iconst X1.here hx rfl (hb hby at_238) ?_
    show Steps p.tables e below (T1.setTop (mkF m 239 #[.val (.int sel), .val (.int qr), .val (.int base), .val (.long gaps), .second, .val (.int (0 : Int32)), .val (.int (1 : Int32)), .val (.ref bA), .val (.ref d_1), .val (.int q), .unset, .unset, .unset, .unset, .unset, .unset, .unset, .unset] [(.int (1 : Int32)), (.int (1 : Int32)), (.double (own_m q))])) _
    refine XS.iadd X1.here hx rfl (hb hby at_239) rfl ?_
    refine XS.i2dS X1.here hx rfl (hb hby at_240) rfl (v := (FP.i2d ((1 : Int32) + (1 : Int32)))) (rfl) ?_
    refine XS.ddivS X1.here hx rfl (hb hby at_241) rfl hm2 (v := (own_pct (1 : Int32) q)) (rfl) ?_
    show Steps p.tables e below (T1.setTop (mkF m 242 #[.val (.int sel), .val (.int qr), .val (.int base), .val (.long gaps), .second, .val (.int (0 : Int32)), .val (.int (1 : Int32)), .val (.ref bA), .val (.ref d_1), .val (.int q), .unset, .unset, .unset, .unset, .unset, .unset, .unset, .unset] [(.double (own_pct (1 : Int32) q))])) _
    refine XS.dstore X1.here hx rfl (hb hby at_242) rfl (l' := #[.val (.int sel), .val (.int qr), .val (.int base), .val (.long gaps), .second, .val (.int (0 : Int32)), .val (.int (1 : Int32)), .val (.ref bA), .val (.ref d_1), .val (.int q), .val (.double (own_pct (1 : Int32) q)), .second, .unset, .unset, .unset, .unset, .unset, .unset]) rfl ?_
    refine XS.aload X1.here hx rfl (hb hby at_244) rfl rfl ?_
    refine XS.dload X1.here hx rfl (hb hby at_246) rfl ?_
    show Steps p.tables e below (T1.setTop (mkF m 248 #[.val (.int sel), .val (.int qr), .val (.int base), .val (.long gaps), .second, .val (.int (0 : Int32)), .val (.int (1 : Int32)), .val (.ref bA), .val (.ref d_1), .val (.int q), .val (.double (own_pct (1 : Int32) q)), .second, .unset, .unset, .unset, .unset, .unset, .unset] [(.double (own_pct (1 : Int32) q)), (.ref d_1)])) _
    refine st2 _ ?_
    refine XS.dstore X2.here hx rfl (hb hby at_251) rfl (l' := #[.val (.int sel), .val (.int qr), .val (.int base), .val (.long gaps), .second, .val (.int (0 : Int32)), .val (.int (1 : Int32)), .val (.ref bA), .val (.ref d_1), .val (.int q), .val (.double (own_pct (1 : Int32) q)), .second, .val (.double (FP.l2d s0)), .second, .unset, .unset, .unset, .unset]) rfl ?_
    refine XS.iload X2.here hx rfl (hb hby at_253) rfl ?_
    show Steps p.tables e below (T2.setTop (mkF m 255 #[.val (.int sel), .val (.int qr), .val (.int base), .val (.long gaps), .second, .val (.int (0 : Int32)), .val (.int (1 : Int32)), .val (.ref bA), .val (.ref d_1), .val (.int q), .val (.double (own_pct (1 : Int32) q)), .second, .val (.double (FP.l2d s0)), .second, .unset, .unset, .unset, .unset] [(.int q)])) _
    refine XS.bipush X2.here hx rfl (hb hby at_255) ?_
    refine XS.icmpNo X2.here hx rfl (hb hby at_257) rfl (tlt (hq8 : q < (8 : Int32))).2.1 ?_
    show Steps p.tables e below (T2.setTop (mkF m 260 #[.val (.int sel), .val (.int qr), .val (.int base), .val (.long gaps), .second, .val (.int (0 : Int32)), .val (.int (1 : Int32)), .val (.ref bA), .val (.ref d_1), .val (.int q), .val (.double (own_pct (1 : Int32) q)), .second, .val (.double (FP.l2d s0)), .second, .unset, .unset, .unset, .unset] [])) _
    refine X2.ldc2Long hx hown (mvT hZ (hw _ (List.mem_of_getElem? (i := 14) rfl))) (g := (mkF m 260 #[.val (.int sel), .val (.int qr), .val (.int base), .val (.long gaps), .second, .val (.int (0 : Int32)), .val (.int (1 : Int32)), .val (.ref bA), .val (.ref d_1), .val (.int q), .val (.double (own_pct (1 : Int32) q)), .second, .val (.double (FP.l2d s0)), .second, .unset, .unset, .unset, .unset] [])) rfl (hb hby at_260) _ ?_
    refine XS.aload X2.here hx rfl (hb hby at_263) rfl rfl ?_
    refine XS.iconst X2.here hx rfl (hb hby at_265) ?_
    show Steps p.tables e below (T2.setTop (mkF m 266 #[.val (.int sel), .val (.int qr), .val (.int base), .val (.long gaps), .second, .val (.int (0 : Int32)), .val (.int (1 : Int32)), .val (.ref bA), .val (.ref d_1), .val (.int q), .val (.double (own_pct (1 : Int32) q)), .second, .val (.double (FP.l2d s0)), .second, .unset, .unset, .unset, .unset] [(.int (0 : Int32)), (.ref bA), (.long (8 : Int64))])) _
    refine X2.laload hx (j := (0 : Int32)) (v := (.long s0)) (by rw [eq2]; exact Ar3.1) (State.isArrayOf_alike hZ.alike Ar3.2.1) Ar3.2.2 hin3 hat3 (g := (mkF m 266 #[.val (.int sel), .val (.int qr), .val (.int base), .val (.long gaps), .second, .val (.int (0 : Int32)), .val (.int (1 : Int32)), .val (.ref bA), .val (.ref d_1), .val (.int q), .val (.double (own_pct (1 : Int32) q)), .second, .val (.double (FP.l2d s0)), .second, .unset, .unset, .unset, .unset] [(.int (0 : Int32)), (.ref bA), (.long (8 : Int64))])) rfl rfl (hb hby at_266) _ ?_
    refine XS.lmul X2.here hx rfl (hb hby at_267) rfl ?_
    refine XS.lstore X2.here hx rfl (hb hby at_268) rfl (l' := #[.val (.int sel), .val (.int qr), .val (.int base), .val (.long gaps), .second, .val (.int (0 : Int32)), .val (.int (1 : Int32)), .val (.ref bA), .val (.ref d_1), .val (.int q), .val (.double (own_pct (1 : Int32) q)), .second, .val (.double (FP.l2d s0)), .second, .val (.long ((8 : Int64) * s0)), .second, .unset, .unset]) rfl ?_
    show Steps p.tables e below (T2.setTop (mkF m 270 #[.val (.int sel), .val (.int qr), .val (.int base), .val (.long gaps), .second, .val (.int (0 : Int32)), .val (.int (1 : Int32)), .val (.ref bA), .val (.ref d_1), .val (.int q), .val (.double (own_pct (1 : Int32) q)), .second, .val (.double (FP.l2d s0)), .second, .val (.long ((8 : Int64) * s0)), .second, .unset, .unset] [])) _
    refine XS.goto X2.here hx rfl (pc0 := 270) (pc' := 339) rfl (hb hby at_270) (by decide) (by decide) ?_
    refine XS.dload X2.here hx rfl (hb hby at_339) rfl ?_
    show Steps p.tables e below (T2.setTop (mkF m 341 #[.val (.int sel), .val (.int qr), .val (.int base), .val (.long gaps), .second, .val (.int (0 : Int32)), .val (.int (1 : Int32)), .val (.ref bA), .val (.ref d_1), .val (.int q), .val (.double (own_pct (1 : Int32) q)), .second, .val (.double (FP.l2d s0)), .second, .val (.long ((8 : Int64) * s0)), .second, .unset, .unset] [(.double (FP.l2d s0))])) _
    refine X2.ldc2DoubleC hx hown (mvT hZ (hw _ (List.mem_of_getElem? (i := 15) rfl))) (g := (mkF m 341 #[.val (.int sel), .val (.int qr), .val (.int base), .val (.long gaps), .second, .val (.int (0 : Int32)), .val (.int (1 : Int32)), .val (.ref bA), .val (.ref d_1), .val (.int q), .val (.double (own_pct (1 : Int32) q)), .second, .val (.double (FP.l2d s0)), .second, .val (.long ((8 : Int64) * s0)), .second, .unset, .unset] [(.double (FP.l2d s0))])) rfl (hb hby at_341) _ ?_
    refine XS.dmulS X2.here hx rfl (hb hby at_344) rfl hn344 (v := (FP.dmul (FP.l2d s0) (4620693217682128896 : UInt64))) (rfl) ?_
    refine XS.lload X2.here hx rfl (hb hby at_345) rfl ?_
    show Steps p.tables e below (T2.setTop (mkF m 347 #[.val (.int sel), .val (.int qr), .val (.int base), .val (.long gaps), .second, .val (.int (0 : Int32)), .val (.int (1 : Int32)), .val (.ref bA), .val (.ref d_1), .val (.int q), .val (.double (own_pct (1 : Int32) q)), .second, .val (.double (FP.l2d s0)), .second, .val (.long ((8 : Int64) * s0)), .second, .unset, .unset] [(.long ((8 : Int64) * s0)), (.double (FP.dmul (FP.l2d s0) (4620693217682128896 : UInt64)))])) _
    refine XS.l2dS X2.here hx rfl (hb hby at_347) rfl (v := (FP.l2d ((8 : Int64) * s0))) (rfl) ?_
    refine XS.dcmpS X2.here hx rfl (hb hby at_348) rfl (v := (0 : Int32)) (hv348) ?_
    refine XS.ifNo X2.here hx rfl (hb hby at_349) rfl ((if0 _ _).trans (teq (by decide : (0 : Int32) = (0 : Int32))).2) ?_
    show Steps p.tables e below (T2.setTop (mkF m 352 #[.val (.int sel), .val (.int qr), .val (.int base), .val (.long gaps), .second, .val (.int (0 : Int32)), .val (.int (1 : Int32)), .val (.ref bA), .val (.ref d_1), .val (.int q), .val (.double (own_pct (1 : Int32) q)), .second, .val (.double (FP.l2d s0)), .second, .val (.long ((8 : Int64) * s0)), .second, .unset, .unset] [])) _
    refine XS.iconst X2.here hx rfl (hb hby at_352) ?_
    refine XS.goto X2.here hx rfl (pc0 := 353) (pc' := 357) rfl (hb hby at_353) (by decide) (by decide) ?_
    show Steps p.tables e below (T2.setTop (mkF m 357 #[.val (.int sel), .val (.int qr), .val (.int base), .val (.long gaps), .second, .val (.int (0 : Int32)), .val (.int (1 : Int32)), .val (.ref bA), .val (.ref d_1), .val (.int q), .val (.double (own_pct (1 : Int32) q)), .second, .val (.double (FP.l2d s0)), .second, .val (.long ((8 : Int64) * s0)), .second, .unset, .unset] [(.int (1 : Int32))])) _
    exact retN X2 hx (t := .boolean) Bd.returns (by simp) (hb hby at_357) hr
  · show QL n0 _ T2.heap _
    rw [eq2]
    exact ⟨rfl, N2⟩
set_option maxRecDepth 65536 in
set_option maxHeartbeats 40000000 in
theorem rm0b1 (l : Launch) (Z : State) (a0 : Array Value) (hw : ∀ d ∈ tables_1, d.before a0 Z = true) (ws : List Jvm.Cond) (sel qr base : Int32) (gaps : Int64) (s0 s1 s2 s3 s4 s5 s6 s7 s8 : Int64) (q : Int32) (h0 : Heap) (n0 : Nat) (Z0 : n0 ≤ h0.size) (hch : ((sel &&& (2147483647 : Int32)) % (5 : Int32)) = (0 : Int32)) (hs0 : (base.toInt64) = s0) (hs1 : s0 + (gaps &&& (255 : Int64)) = s1) (hs2 : s1 + (((gaps.toUInt64 >>> ((8 : Int32) &&& 0x3f).toInt64.toUInt64).toInt64) &&& (255 : Int64)) = s2) (hs3 : s2 + (((gaps.toUInt64 >>> ((16 : Int32) &&& 0x3f).toInt64.toUInt64).toInt64) &&& (255 : Int64)) = s3) (hs4 : s3 + (((gaps.toUInt64 >>> ((24 : Int32) &&& 0x3f).toInt64.toUInt64).toInt64) &&& (255 : Int64)) = s4) (hs5 : s4 + (((gaps.toUInt64 >>> ((32 : Int32) &&& 0x3f).toInt64.toUInt64).toInt64) &&& (255 : Int64)) = s5) (hs6 : s5 + (((gaps.toUInt64 >>> ((40 : Int32) &&& 0x3f).toInt64.toUInt64).toInt64) &&& (255 : Int64)) = s6) (hs7 : s6 + (((gaps.toUInt64 >>> ((48 : Int32) &&& 0x3f).toInt64.toUInt64).toInt64) &&& (255 : Int64)) = s7) (hs8 : s7 + (((gaps.toUInt64 >>> ((56 : Int32) &&& 0x3f).toInt64.toUInt64).toInt64) &&& (255 : Int64)) = s8) (hqq : (((qr &&& (2147483647 : Int32)) % (((8 : Int32) * (1 : Int32)) + (33 : Int32))) - (16 : Int32)) = q) (hm1 : Jvm.Free.Fl.NoNaN64 (own_m q)) (hm2 : Jvm.Free.Fl.NoNaN64 (own_pct (1 : Int32) q)) (hp1 : Jvm.Free.Fl.NoNaN64 (own_pm (1 : Int32) q)) (hp2 : Jvm.Free.Fl.NoNaN64 (own_pos (1 : Int32) q)) (hn344 : Jvm.Free.Fl.NoNaN64 (FP.dmul (FP.l2d s0) (4620693217682128896 : UInt64))) (hv348 : cmpValue (FP.dcmp (FP.dmul (FP.l2d s0) (4620693217682128896 : UInt64)) (FP.l2d ((8 : Int64) * s0))) .l = (0 : Int32)) (hq8 : ¬ (q < (8 : Int32))) (hcA : ¬ own_cA (1 : Int32) q < (0 : Int32)) (hq8n : ¬ (q < ((8 : Int32) * (1 : Int32)))) (hcB : ¬ own_cB (1 : Int32) q < (0 : Int32))   :
    MetFree l x (head1 (Jvm.Cond.code x code maxLocals ret :: ws) room_1) (fun a U => a = #[(.int sel), (.int qr), (.int base), (.long gaps)] ∧ Z.Warmed39 U.vm ∧ U.heap = h0) (fun _ _ _ _ _ => True) (fun _ U o U' => ∃ v L, o = .returned v ∧ QL n0 v U'.heap L ∧ FrameEnd U o U' L 2 10) := by
  refine MetFree.of_bodySF (plainFor_of_name pn_com_example_bytegauge_bytegauge_stats_JsonTablePercentilePinLaw) hisR ?_
  intro p e s m args below meth c s₁ Bd hml0 hP hK
  obtain ⟨rfl, hZ, hh⟩ := hP
  have hx := Bd.exec
  have hby := Bd.bytes
  have hml : c.maxLocals = 18 := hml0
  have hown : s.vm.findClass "com/example/bytegauge/bytegauge/stats/JsonTablePercentilePinLaw" = some m.cls := findClass_of_methodNamed Bd.named
  have hnm := (name_of_methodNamed Bd.named Bd.method).1
  have X0 : Stand p l e room_1 s m #[(.int sel), (.int qr), (.int base), (.long gaps)] below meth c s₁ [] 0 0 := Stand.of_body Bd
  have e0 : s₁.heap = h0 := by rw [← hh, Bd.state]; rfl
  have N0 := Fr.nil n0
  have pre0 : ∀ t, Steps p.tables e below (s₁.setTop (mkF m 0 #[.val (.int sel), .val (.int qr), .val (.int base), .val (.long gaps), .second, .unset, .unset, .unset, .unset, .unset, .unset, .unset, .unset, .unset, .unset, .unset, .unset, .unset] [])) t → Steps p.tables e below (s₁.setTop (entryFrame m #[(.int sel), (.int qr), (.int base), (.long gaps)] maxLocals)) t := fun t k => castTop (ef_code m sel qr base gaps) k
  obtain ⟨TA, hA, LA, bA, kA, XA, eA, NA, SZA, g_bA, VA, stA⟩ := segA h0 n0 Z0 sel qr base gaps (0 : Int32) (1 : Int32) s0 s1 s2 s3 s4 s5 s6 s7 s8 X0 hx hZ hw hby hml hown e0 hs0 hs1 hs2 hs3 hs4 hs5 hs6 hs7 hs8
  obtain ⟨_, _, ⟨T1, L1, k1, n1⟩, -, X1, ⟨Lc1, hQ1, l1, y1, z1⟩, st1⟩ := Jvm.LawKit.callS XA hx (y := (⟨"com/example/bytegauge/bytegauge/stats/JsonTablePercentilePinLaw", "sortedOf", "(I[J)[D"⟩ : MethodName)) hown (mvT hZ (hw _ (List.mem_of_getElem? (i := 3) rfl))) (mvT hZ (hw _ (List.mem_of_getElem? (i := 4) rfl))) (mvT hZ (hw _ (List.mem_of_getElem? (i := 5) rfl))) (mvT hZ (hw _ (List.mem_of_getElem? (i := 6) rfl))) (by decide) (backOf (W := 0) (rmS1 l Z a0 hw [] bA kA s0 s1 s2 s3 s4 s5 s6 s7 s8 hA n0 SZA VA) hZ (hw _ (List.mem_of_getElem? (i := 6) rfl)) (hw _ (List.mem_of_getElem? (i := 5) rfl)) (by decide) (by decide)) (g := (mkF m 206 #[.val (.int sel), .val (.int qr), .val (.int base), .val (.long gaps), .second, .val (.int (0 : Int32)), .val (.int (1 : Int32)), .val (.ref bA), .unset, .unset, .unset, .unset, .unset, .unset, .unset, .unset, .unset, .unset] [(.ref bA), (.int (1 : Int32))])) rfl (by rw [hml]; rfl) (argsL := [(.int (1 : Int32)), (.ref bA)]) (rest := []) (lenOf pd__I_J__D rfl) rfl (by show 2 * 0 + _ ≤ _; exact Nat.le_of_eq rfl) (hb hby at_206) (fun _ _ => ⟨rfl, eA, (by decide : 1 + 1 ≤ _), (by decide : 9 + 1 ≤ _)⟩)
  dsimp only [Pt.U, Pt.locs, Pt.cells, Pt.slots] at X1 l1 y1 z1 st1 hQ1
  subst l1 y1 z1
  obtain ⟨d_1, kd1, rfl, N1q, g_d_1, sz_d_1, K1q, V1q⟩ := hQ1
  have c1_0 := VA.keep K1q List.not_mem_nil
  have SZ1 := Nat.le_trans SZA K1q.1
  have N1 := Fr.app NA N1q
  obtain ⟨_, _, ⟨T2, L2, k2, n2⟩, -, X2, ⟨Lc2, hQ2, l2, y2, z2⟩, st2⟩ := Jvm.LawKit.callS X1 hx (y := (⟨"com/example/bytegauge/bytegauge/stats/JsonTable", "percentile", "([DD)D"⟩ : MethodName)) hown (mvT hZ (hw _ (List.mem_of_getElem? (i := 9) rfl))) (mvT hZ (hw _ (List.mem_of_getElem? (i := 10) rfl))) (mvT hZ (hw _ (List.mem_of_getElem? (i := 11) rfl))) (mvT hZ (hw _ (List.mem_of_getElem? (i := 12) rfl))) (by decide) (backOf (W := 0) (rmPb1 l Z a0 hw [] d_1 kd1 s0 s1 s2 s3 s4 s5 s6 s7 s8 (own_pct (1 : Int32) q) (own_pos (1 : Int32) q) T1.heap n0 SZ1 V1q hp1 hp2 rfl _ rfl _ rfl hcA hcB) hZ (hw _ (List.mem_of_getElem? (i := 12) rfl)) (hw _ (List.mem_of_getElem? (i := 11) rfl)) (by decide) (by decide)) (g := (mkF m 248 #[.val (.int sel), .val (.int qr), .val (.int base), .val (.long gaps), .second, .val (.int (0 : Int32)), .val (.int (1 : Int32)), .val (.ref bA), .val (.ref d_1), .val (.int q), .val (.double (own_pct (1 : Int32) q)), .second, .unset, .unset, .unset, .unset, .unset, .unset] [(.double (own_pct (1 : Int32) q)), (.ref d_1)])) rfl (by rw [hml]; rfl) (argsL := [(.ref d_1), (.double (own_pct (1 : Int32) q))]) (rest := []) (lenOf pd___DD_D rfl) rfl (by show 2 * 0 + _ ≤ _; exact Nat.le_of_eq rfl) (hb hby at_248) (fun _ _ => ⟨rfl, rfl, (by decide : 2 + 0 ≤ _), (by decide : 10 + 0 ≤ _)⟩)
  dsimp only [Pt.U, Pt.locs, Pt.cells, Pt.slots] at X2 l2 y2 z2 st2 hQ2
  subst l2 y2 z2
  obtain ⟨rfl, N2q, eq2⟩ := hQ2
  have N2 := Fr.app N1 N2q
  obtain ⟨cl3, Ar3, -, S3, Nn3, H3, -⟩ := id c1_0
  have hin3 : ¬ ((0 : Int32) < 0 ∨ cl3.slots.size ≤ ((0 : Int32)).toNatClampNeg) := inb_of S3 ⟨by decide, by decide⟩
  have hat3 : cl3.slots[((0 : Int32)).toNatClampNeg]? = some (.long s0) := H3.at hin3 rfl
  obtain ⟨fs, hr, hrun, hended, hW, hsame⟩ := X2.leave (v := some (.int (1 : Int32))) (fun h => by rw [Bd.returns] at h; cases h)
  refine ⟨_, _, pre0 _ ?_, hrun, hended, _, _, rfl, ?_, ⟨_, rfl⟩, hW, hsame.mono (by decide) (by decide)⟩
  · show Steps p.tables e below (s₁.setTop (mkF m 0 #[.val (.int sel), .val (.int qr), .val (.int base), .val (.long gaps), .second, .unset, .unset, .unset, .unset, .unset, .unset, .unset, .unset, .unset, .unset, .unset, .unset, .unset] [])) _
    refine XS.iloadN X0.here hx rfl (hb hby at_0) rfl ?_
    show Steps p.tables e below (s₁.setTop (mkF m 1 #[.val (.int sel), .val (.int qr), .val (.int base), .val (.long gaps), .second, .unset, .unset, .unset, .unset, .unset, .unset, .unset, .unset, .unset, .unset, .unset, .unset, .unset] [(.int sel)])) _
    refine X0.ldcInt hx hown (mvT hZ (hw _ (List.mem_of_getElem? (i := 0) rfl))) (g := (mkF m 1 #[.val (.int sel), .val (.int qr), .val (.int base), .val (.long gaps), .second, .unset, .unset, .unset, .unset, .unset, .unset, .unset, .unset, .unset, .unset, .unset, .unset, .unset] [(.int sel)])) rfl (hb hby at_1) _ ?_
    refine XS.iand X0.here hx rfl (hb hby at_3) rfl ?_
    refine XS.iconst X0.here hx rfl (hb hby at_4) ?_
    show Steps p.tables e below (s₁.setTop (mkF m 5 #[.val (.int sel), .val (.int qr), .val (.int base), .val (.long gaps), .second, .unset, .unset, .unset, .unset, .unset, .unset, .unset, .unset, .unset, .unset, .unset, .unset, .unset] [(.int (5 : Int32)), (.int (sel &&& (2147483647 : Int32)))])) _
    refine iremM X0 hx rfl (hb hby at_5) rfl (by decide) ?_
    show Steps p.tables e below (s₁.setTop (mkF m 6 #[.val (.int sel), .val (.int qr), .val (.int base), .val (.long gaps), .second, .unset, .unset, .unset, .unset, .unset, .unset, .unset, .unset, .unset, .unset, .unset, .unset, .unset] [(.int ((sel &&& (2147483647 : Int32)) % (5 : Int32)))])) _
    rw [show ((sel &&& (2147483647 : Int32)) % (5 : Int32)) = (0 : Int32) from hch]
    refine XS.istore X0.here hx rfl (hb hby at_6) rfl (l' := #[.val (.int sel), .val (.int qr), .val (.int base), .val (.long gaps), .second, .val (.int (0 : Int32)), .unset, .unset, .unset, .unset, .unset, .unset, .unset, .unset, .unset, .unset, .unset, .unset]) rfl ?_
    refine XS.iload X0.here hx rfl (hb hby at_8) rfl ?_
    show Steps p.tables e below (s₁.setTop (mkF m 10 #[.val (.int sel), .val (.int qr), .val (.int base), .val (.long gaps), .second, .val (.int (0 : Int32)), .unset, .unset, .unset, .unset, .unset, .unset, .unset, .unset, .unset, .unset, .unset, .unset] [(.int (0 : Int32))])) _
    refine XS.ifNo X0.here hx rfl (hb hby at_10) rfl ((if0 _ _).trans (teq (by decide : (0 : Int32) = (0 : Int32))).2) ?_
    refine XS.iconst X0.here hx rfl (hb hby at_13) ?_
    refine XS.goto X0.here hx rfl (pc0 := 14) (pc' := 50) rfl (hb hby at_14) (by decide) (by decide) ?_
    show Steps p.tables e below (s₁.setTop (mkF m 50 #[.val (.int sel), .val (.int qr), .val (.int base), .val (.long gaps), .second, .val (.int (0 : Int32)), .unset, .unset, .unset, .unset, .unset, .unset, .unset, .unset, .unset, .unset, .unset, .unset] [(.int (1 : Int32))])) _
    refine XS.istore X0.here hx rfl (hb hby at_50) rfl (l' := #[.val (.int sel), .val (.int qr), .val (.int base), .val (.long gaps), .second, .val (.int (0 : Int32)), .val (.int (1 : Int32)), .unset, .unset, .unset, .unset, .unset, .unset, .unset, .unset, .unset, .unset, .unset]) rfl ?_
    show Steps p.tables e below (s₁.setTop (mkF m 52 #[.val (.int sel), .val (.int qr), .val (.int base), .val (.long gaps), .second, .val (.int (0 : Int32)), .val (.int (1 : Int32)), .unset, .unset, .unset, .unset, .unset, .unset, .unset, .unset, .unset, .unset, .unset] [])) _
    refine stA _ ?_
    show Steps p.tables e below (TA.setTop (mkF m 202 #[.val (.int sel), .val (.int qr), .val (.int base), .val (.long gaps), .second, .val (.int (0 : Int32)), .val (.int (1 : Int32)), .val (.ref bA), .unset, .unset, .unset, .unset, .unset, .unset, .unset, .unset, .unset, .unset] [])) _
    refine XS.iload XA.here hx rfl (hb hby at_202) rfl ?_
    refine XS.aload XA.here hx rfl (hb hby at_204) rfl rfl ?_
    show Steps p.tables e below (TA.setTop (mkF m 206 #[.val (.int sel), .val (.int qr), .val (.int base), .val (.long gaps), .second, .val (.int (0 : Int32)), .val (.int (1 : Int32)), .val (.ref bA), .unset, .unset, .unset, .unset, .unset, .unset, .unset, .unset, .unset, .unset] [(.ref bA), (.int (1 : Int32))])) _
    refine st1 _ ?_
    refine XS.astore X1.here hx rfl (hb hby at_209) rfl rfl (l' := #[.val (.int sel), .val (.int qr), .val (.int base), .val (.long gaps), .second, .val (.int (0 : Int32)), .val (.int (1 : Int32)), .val (.ref bA), .val (.ref d_1), .unset, .unset, .unset, .unset, .unset, .unset, .unset, .unset, .unset]) rfl ?_
    refine XS.iloadN X1.here hx rfl (hb hby at_211) rfl ?_
    show Steps p.tables e below (T1.setTop (mkF m 212 #[.val (.int sel), .val (.int qr), .val (.int base), .val (.long gaps), .second, .val (.int (0 : Int32)), .val (.int (1 : Int32)), .val (.ref bA), .val (.ref d_1), .unset, .unset, .unset, .unset, .unset, .unset, .unset, .unset, .unset] [(.int qr)])) _
    refine X1.ldcInt hx hown (mvT hZ (hw _ (List.mem_of_getElem? (i := 0) rfl))) (g := (mkF m 212 #[.val (.int sel), .val (.int qr), .val (.int base), .val (.long gaps), .second, .val (.int (0 : Int32)), .val (.int (1 : Int32)), .val (.ref bA), .val (.ref d_1), .unset, .unset, .unset, .unset, .unset, .unset, .unset, .unset, .unset] [(.int qr)])) rfl (hb hby at_212) _ ?_
    refine XS.iand X1.here hx rfl (hb hby at_214) rfl ?_
    refine XS.bipush X1.here hx rfl (hb hby at_215) ?_
    show Steps p.tables e below (T1.setTop (mkF m 217 #[.val (.int sel), .val (.int qr), .val (.int base), .val (.long gaps), .second, .val (.int (0 : Int32)), .val (.int (1 : Int32)), .val (.ref bA), .val (.ref d_1), .unset, .unset, .unset, .unset, .unset, .unset, .unset, .unset, .unset] [(.int (8 : Int32)), (.int (qr &&& (2147483647 : Int32)))])) _
    refine XS.iload X1.here hx rfl (hb hby at_217) rfl ?_
    refine XS.imul X1.here hx rfl (hb hby at_219) rfl ?_
    refine XS.bipush X1.here hx rfl (hb hby at_220) ?_
    show Steps p.tables e below (T1.setTop (mkF m 222 #[.val (.int sel), .val (.int qr), .val (.int base), .val (.long gaps), .second, .val (.int (0 : Int32)), .val (.int (1 : Int32)), .val (.ref bA), .val (.ref d_1), .unset, .unset, .unset, .unset, .unset, .unset, .unset, .unset, .unset] [(.int (33 : Int32)), (.int ((8 : Int32) * (1 : Int32))), (.int (qr &&& (2147483647 : Int32)))])) _
    refine XS.iadd X1.here hx rfl (hb hby at_222) rfl ?_
    refine iremM X1 hx rfl (hb hby at_223) rfl (by decide) ?_
    refine XS.bipush X1.here hx rfl (hb hby at_224) ?_
    show Steps p.tables e below (T1.setTop (mkF m 226 #[.val (.int sel), .val (.int qr), .val (.int base), .val (.long gaps), .second, .val (.int (0 : Int32)), .val (.int (1 : Int32)), .val (.ref bA), .val (.ref d_1), .unset, .unset, .unset, .unset, .unset, .unset, .unset, .unset, .unset] [(.int (16 : Int32)), (.int ((qr &&& (2147483647 : Int32)) % (((8 : Int32) * (1 : Int32)) + (33 : Int32))))])) _
    refine XS.isub X1.here hx rfl (hb hby at_226) rfl ?_
    show Steps p.tables e below (T1.setTop (mkF m 227 #[.val (.int sel), .val (.int qr), .val (.int base), .val (.long gaps), .second, .val (.int (0 : Int32)), .val (.int (1 : Int32)), .val (.ref bA), .val (.ref d_1), .unset, .unset, .unset, .unset, .unset, .unset, .unset, .unset, .unset] [(.int (((qr &&& (2147483647 : Int32)) % (((8 : Int32) * (1 : Int32)) + (33 : Int32))) - (16 : Int32)))])) _
    rw [show (((qr &&& (2147483647 : Int32)) % (((8 : Int32) * (1 : Int32)) + (33 : Int32))) - (16 : Int32)) = q from hqq]
    refine XS.istore X1.here hx rfl (hb hby at_227) rfl (l' := #[.val (.int sel), .val (.int qr), .val (.int base), .val (.long gaps), .second, .val (.int (0 : Int32)), .val (.int (1 : Int32)), .val (.ref bA), .val (.ref d_1), .val (.int q), .unset, .unset, .unset, .unset, .unset, .unset, .unset, .unset]) rfl ?_
    show Steps p.tables e below (T1.setTop (mkF m 229 #[.val (.int sel), .val (.int qr), .val (.int base), .val (.long gaps), .second, .val (.int (0 : Int32)), .val (.int (1 : Int32)), .val (.ref bA), .val (.ref d_1), .val (.int q), .unset, .unset, .unset, .unset, .unset, .unset, .unset, .unset] [])) _
    refine X1.ldc2DoubleC hx hown (mvT hZ (hw _ (List.mem_of_getElem? (i := 8) rfl))) (g := (mkF m 229 #[.val (.int sel), .val (.int qr), .val (.int base), .val (.long gaps), .second, .val (.int (0 : Int32)), .val (.int (1 : Int32)), .val (.ref bA), .val (.ref d_1), .val (.int q), .unset, .unset, .unset, .unset, .unset, .unset, .unset, .unset] [])) rfl (hb hby at_229) _ ?_
    refine XS.iload X1.here hx rfl (hb hby at_232) rfl ?_
    refine XS.i2dS X1.here hx rfl (hb hby at_234) rfl (v := (FP.i2d q)) (rfl) ?_
    show Steps p.tables e below (T1.setTop (mkF m 235 #[.val (.int sel), .val (.int qr), .val (.int base), .val (.long gaps), .second, .val (.int (0 : Int32)), .val (.int (1 : Int32)), .val (.ref bA), .val (.ref d_1), .val (.int q), .unset, .unset, .unset, .unset, .unset, .unset, .unset, .unset] [(.double (FP.i2d q)), (.double (4623226492472524800 : UInt64))])) _
    refine XS.dmulS X1.here hx rfl (hb hby at_235) rfl hm1 (v := (own_m q)) (rfl) ?_
    refine XS.iload X1.here hx rfl (hb hby at_236) rfl ?_
    refine XS.iconst X1.here hx rfl (hb hby at_238) ?_
    show Steps p.tables e below (T1.setTop (mkF m 239 #[.val (.int sel), .val (.int qr), .val (.int base), .val (.long gaps), .second, .val (.int (0 : Int32)), .val (.int (1 : Int32)), .val (.ref bA), .val (.ref d_1), .val (.int q), .unset, .unset, .unset, .unset, .unset, .unset, .unset, .unset] [(.int (1 : Int32)), (.int (1 : Int32)), (.double (own_m q))])) _
    refine XS.iadd X1.here hx rfl (hb hby at_239) rfl ?_
    refine XS.i2dS X1.here hx rfl (hb hby at_240) rfl (v := (FP.i2d ((1 : Int32) + (1 : Int32)))) (rfl) ?_
    refine XS.ddivS X1.here hx rfl (hb hby at_241) rfl hm2 (v := (own_pct (1 : Int32) q)) (rfl) ?_
    show Steps p.tables e below (T1.setTop (mkF m 242 #[.val (.int sel), .val (.int qr), .val (.int base), .val (.long gaps), .second, .val (.int (0 : Int32)), .val (.int (1 : Int32)), .val (.ref bA), .val (.ref d_1), .val (.int q), .unset, .unset, .unset, .unset, .unset, .unset, .unset, .unset] [(.double (own_pct (1 : Int32) q))])) _
    refine XS.dstore X1.here hx rfl (hb hby at_242) rfl (l' := #[.val (.int sel), .val (.int qr), .val (.int base), .val (.long gaps), .second, .val (.int (0 : Int32)), .val (.int (1 : Int32)), .val (.ref bA), .val (.ref d_1), .val (.int q), .val (.double (own_pct (1 : Int32) q)), .second, .unset, .unset, .unset, .unset, .unset, .unset]) rfl ?_
    refine XS.aload X1.here hx rfl (hb hby at_244) rfl rfl ?_
    refine XS.dload X1.here hx rfl (hb hby at_246) rfl ?_
    show Steps p.tables e below (T1.setTop (mkF m 248 #[.val (.int sel), .val (.int qr), .val (.int base), .val (.long gaps), .second, .val (.int (0 : Int32)), .val (.int (1 : Int32)), .val (.ref bA), .val (.ref d_1), .val (.int q), .val (.double (own_pct (1 : Int32) q)), .second, .unset, .unset, .unset, .unset, .unset, .unset] [(.double (own_pct (1 : Int32) q)), (.ref d_1)])) _
    refine st2 _ ?_
    refine XS.dstore X2.here hx rfl (hb hby at_251) rfl (l' := #[.val (.int sel), .val (.int qr), .val (.int base), .val (.long gaps), .second, .val (.int (0 : Int32)), .val (.int (1 : Int32)), .val (.ref bA), .val (.ref d_1), .val (.int q), .val (.double (own_pct (1 : Int32) q)), .second, .val (.double (FP.l2d s0)), .second, .unset, .unset, .unset, .unset]) rfl ?_
    refine XS.iload X2.here hx rfl (hb hby at_253) rfl ?_
    show Steps p.tables e below (T2.setTop (mkF m 255 #[.val (.int sel), .val (.int qr), .val (.int base), .val (.long gaps), .second, .val (.int (0 : Int32)), .val (.int (1 : Int32)), .val (.ref bA), .val (.ref d_1), .val (.int q), .val (.double (own_pct (1 : Int32) q)), .second, .val (.double (FP.l2d s0)), .second, .unset, .unset, .unset, .unset] [(.int q)])) _
    refine XS.bipush X2.here hx rfl (hb hby at_255) ?_
    refine XS.icmpYes X2.here hx rfl (pc0 := 257) (pc' := 273) rfl (hb hby at_257) rfl (flt (hq8 : ¬ (q < (8 : Int32)))).2.1 (by decide) (by decide) ?_
    refine XS.iload X2.here hx rfl (hb hby at_273) rfl ?_
    show Steps p.tables e below (T2.setTop (mkF m 275 #[.val (.int sel), .val (.int qr), .val (.int base), .val (.long gaps), .second, .val (.int (0 : Int32)), .val (.int (1 : Int32)), .val (.ref bA), .val (.ref d_1), .val (.int q), .val (.double (own_pct (1 : Int32) q)), .second, .val (.double (FP.l2d s0)), .second, .unset, .unset, .unset, .unset] [(.int q)])) _
    refine XS.bipush X2.here hx rfl (hb hby at_275) ?_
    refine XS.iload X2.here hx rfl (hb hby at_277) rfl ?_
    refine XS.imul X2.here hx rfl (hb hby at_279) rfl ?_
    show Steps p.tables e below (T2.setTop (mkF m 280 #[.val (.int sel), .val (.int qr), .val (.int base), .val (.long gaps), .second, .val (.int (0 : Int32)), .val (.int (1 : Int32)), .val (.ref bA), .val (.ref d_1), .val (.int q), .val (.double (own_pct (1 : Int32) q)), .second, .val (.double (FP.l2d s0)), .second, .unset, .unset, .unset, .unset] [(.int ((8 : Int32) * (1 : Int32))), (.int q)])) _
    refine XS.icmpNo X2.here hx rfl (hb hby at_280) rfl (flt (hq8n : ¬ (q < ((8 : Int32) * (1 : Int32))))).1 ?_
    show Steps p.tables e below (T2.setTop (mkF m 283 #[.val (.int sel), .val (.int qr), .val (.int base), .val (.long gaps), .second, .val (.int (0 : Int32)), .val (.int (1 : Int32)), .val (.ref bA), .val (.ref d_1), .val (.int q), .val (.double (own_pct (1 : Int32) q)), .second, .val (.double (FP.l2d s0)), .second, .unset, .unset, .unset, .unset] [])) _
    refine X2.ldc2Long hx hown (mvT hZ (hw _ (List.mem_of_getElem? (i := 14) rfl))) (g := (mkF m 283 #[.val (.int sel), .val (.int qr), .val (.int base), .val (.long gaps), .second, .val (.int (0 : Int32)), .val (.int (1 : Int32)), .val (.ref bA), .val (.ref d_1), .val (.int q), .val (.double (own_pct (1 : Int32) q)), .second, .val (.double (FP.l2d s0)), .second, .unset, .unset, .unset, .unset] [])) rfl (hb hby at_283) _ ?_
    refine XS.aload X2.here hx rfl (hb hby at_286) rfl rfl ?_
    refine XS.iload X2.here hx rfl (hb hby at_288) rfl ?_
    show Steps p.tables e below (T2.setTop (mkF m 290 #[.val (.int sel), .val (.int qr), .val (.int base), .val (.long gaps), .second, .val (.int (0 : Int32)), .val (.int (1 : Int32)), .val (.ref bA), .val (.ref d_1), .val (.int q), .val (.double (own_pct (1 : Int32) q)), .second, .val (.double (FP.l2d s0)), .second, .unset, .unset, .unset, .unset] [(.int (1 : Int32)), (.ref bA), (.long (8 : Int64))])) _
    refine XS.iconst X2.here hx rfl (hb hby at_290) ?_
    refine XS.isub X2.here hx rfl (hb hby at_291) rfl ?_
    show Steps p.tables e below (T2.setTop (mkF m 292 #[.val (.int sel), .val (.int qr), .val (.int base), .val (.long gaps), .second, .val (.int (0 : Int32)), .val (.int (1 : Int32)), .val (.ref bA), .val (.ref d_1), .val (.int q), .val (.double (own_pct (1 : Int32) q)), .second, .val (.double (FP.l2d s0)), .second, .unset, .unset, .unset, .unset] [(.int ((1 : Int32) - (1 : Int32))), (.ref bA), (.long (8 : Int64))])) _
    rw [show ((1 : Int32) - (1 : Int32)) = (0 : Int32) from (by decide)]
    show Steps p.tables e below (T2.setTop (mkF m 292 #[.val (.int sel), .val (.int qr), .val (.int base), .val (.long gaps), .second, .val (.int (0 : Int32)), .val (.int (1 : Int32)), .val (.ref bA), .val (.ref d_1), .val (.int q), .val (.double (own_pct (1 : Int32) q)), .second, .val (.double (FP.l2d s0)), .second, .unset, .unset, .unset, .unset] [(.int (0 : Int32)), (.ref bA), (.long (8 : Int64))])) _
    refine X2.laload hx (j := (0 : Int32)) (v := (.long s0)) (by rw [eq2]; exact Ar3.1) (State.isArrayOf_alike hZ.alike Ar3.2.1) Ar3.2.2 hin3 hat3 (g := (mkF m 292 #[.val (.int sel), .val (.int qr), .val (.int base), .val (.long gaps), .second, .val (.int (0 : Int32)), .val (.int (1 : Int32)), .val (.ref bA), .val (.ref d_1), .val (.int q), .val (.double (own_pct (1 : Int32) q)), .second, .val (.double (FP.l2d s0)), .second, .unset, .unset, .unset, .unset] [(.int (0 : Int32)), (.ref bA), (.long (8 : Int64))])) rfl rfl (hb hby at_292) _ ?_
    refine XS.lmul X2.here hx rfl (hb hby at_293) rfl ?_
    refine XS.lstore X2.here hx rfl (hb hby at_294) rfl (l' := #[.val (.int sel), .val (.int qr), .val (.int base), .val (.long gaps), .second, .val (.int (0 : Int32)), .val (.int (1 : Int32)), .val (.ref bA), .val (.ref d_1), .val (.int q), .val (.double (own_pct (1 : Int32) q)), .second, .val (.double (FP.l2d s0)), .second, .val (.long ((8 : Int64) * s0)), .second, .unset, .unset]) rfl ?_
    show Steps p.tables e below (T2.setTop (mkF m 296 #[.val (.int sel), .val (.int qr), .val (.int base), .val (.long gaps), .second, .val (.int (0 : Int32)), .val (.int (1 : Int32)), .val (.ref bA), .val (.ref d_1), .val (.int q), .val (.double (own_pct (1 : Int32) q)), .second, .val (.double (FP.l2d s0)), .second, .val (.long ((8 : Int64) * s0)), .second, .unset, .unset] [])) _
    refine XS.goto X2.here hx rfl (pc0 := 296) (pc' := 339) rfl (hb hby at_296) (by decide) (by decide) ?_
    refine XS.dload X2.here hx rfl (hb hby at_339) rfl ?_
    show Steps p.tables e below (T2.setTop (mkF m 341 #[.val (.int sel), .val (.int qr), .val (.int base), .val (.long gaps), .second, .val (.int (0 : Int32)), .val (.int (1 : Int32)), .val (.ref bA), .val (.ref d_1), .val (.int q), .val (.double (own_pct (1 : Int32) q)), .second, .val (.double (FP.l2d s0)), .second, .val (.long ((8 : Int64) * s0)), .second, .unset, .unset] [(.double (FP.l2d s0))])) _
    refine X2.ldc2DoubleC hx hown (mvT hZ (hw _ (List.mem_of_getElem? (i := 15) rfl))) (g := (mkF m 341 #[.val (.int sel), .val (.int qr), .val (.int base), .val (.long gaps), .second, .val (.int (0 : Int32)), .val (.int (1 : Int32)), .val (.ref bA), .val (.ref d_1), .val (.int q), .val (.double (own_pct (1 : Int32) q)), .second, .val (.double (FP.l2d s0)), .second, .val (.long ((8 : Int64) * s0)), .second, .unset, .unset] [(.double (FP.l2d s0))])) rfl (hb hby at_341) _ ?_
    refine XS.dmulS X2.here hx rfl (hb hby at_344) rfl hn344 (v := (FP.dmul (FP.l2d s0) (4620693217682128896 : UInt64))) (rfl) ?_
    refine XS.lload X2.here hx rfl (hb hby at_345) rfl ?_
    show Steps p.tables e below (T2.setTop (mkF m 347 #[.val (.int sel), .val (.int qr), .val (.int base), .val (.long gaps), .second, .val (.int (0 : Int32)), .val (.int (1 : Int32)), .val (.ref bA), .val (.ref d_1), .val (.int q), .val (.double (own_pct (1 : Int32) q)), .second, .val (.double (FP.l2d s0)), .second, .val (.long ((8 : Int64) * s0)), .second, .unset, .unset] [(.long ((8 : Int64) * s0)), (.double (FP.dmul (FP.l2d s0) (4620693217682128896 : UInt64)))])) _
    refine XS.l2dS X2.here hx rfl (hb hby at_347) rfl (v := (FP.l2d ((8 : Int64) * s0))) (rfl) ?_
    refine XS.dcmpS X2.here hx rfl (hb hby at_348) rfl (v := (0 : Int32)) (hv348) ?_
    refine XS.ifNo X2.here hx rfl (hb hby at_349) rfl ((if0 _ _).trans (teq (by decide : (0 : Int32) = (0 : Int32))).2) ?_
    show Steps p.tables e below (T2.setTop (mkF m 352 #[.val (.int sel), .val (.int qr), .val (.int base), .val (.long gaps), .second, .val (.int (0 : Int32)), .val (.int (1 : Int32)), .val (.ref bA), .val (.ref d_1), .val (.int q), .val (.double (own_pct (1 : Int32) q)), .second, .val (.double (FP.l2d s0)), .second, .val (.long ((8 : Int64) * s0)), .second, .unset, .unset] [])) _
    refine XS.iconst X2.here hx rfl (hb hby at_352) ?_
    refine XS.goto X2.here hx rfl (pc0 := 353) (pc' := 357) rfl (hb hby at_353) (by decide) (by decide) ?_
    show Steps p.tables e below (T2.setTop (mkF m 357 #[.val (.int sel), .val (.int qr), .val (.int base), .val (.long gaps), .second, .val (.int (0 : Int32)), .val (.int (1 : Int32)), .val (.ref bA), .val (.ref d_1), .val (.int q), .val (.double (own_pct (1 : Int32) q)), .second, .val (.double (FP.l2d s0)), .second, .val (.long ((8 : Int64) * s0)), .second, .unset, .unset] [(.int (1 : Int32))])) _
    exact retN X2 hx (t := .boolean) Bd.returns (by simp) (hb hby at_357) hr
  · show QL n0 _ T2.heap _
    rw [eq2]
    exact ⟨rfl, N2⟩
set_option maxRecDepth 65536 in
set_option maxHeartbeats 40000000 in
theorem rm0a3 (l : Launch) (Z : State) (a0 : Array Value) (hw : ∀ d ∈ tables_1, d.before a0 Z = true) (ws : List Jvm.Cond) (sel qr base : Int32) (gaps : Int64) (s0 s1 s2 s3 s4 s5 s6 s7 s8 : Int64) (q : Int32) (h0 : Heap) (n0 : Nat) (Z0 : n0 ≤ h0.size) (hch : ((sel &&& (2147483647 : Int32)) % (5 : Int32)) = (1 : Int32)) (hs0 : (base.toInt64) = s0) (hs1 : s0 + (gaps &&& (255 : Int64)) = s1) (hs2 : s1 + (((gaps.toUInt64 >>> ((8 : Int32) &&& 0x3f).toInt64.toUInt64).toInt64) &&& (255 : Int64)) = s2) (hs3 : s2 + (((gaps.toUInt64 >>> ((16 : Int32) &&& 0x3f).toInt64.toUInt64).toInt64) &&& (255 : Int64)) = s3) (hs4 : s3 + (((gaps.toUInt64 >>> ((24 : Int32) &&& 0x3f).toInt64.toUInt64).toInt64) &&& (255 : Int64)) = s4) (hs5 : s4 + (((gaps.toUInt64 >>> ((32 : Int32) &&& 0x3f).toInt64.toUInt64).toInt64) &&& (255 : Int64)) = s5) (hs6 : s5 + (((gaps.toUInt64 >>> ((40 : Int32) &&& 0x3f).toInt64.toUInt64).toInt64) &&& (255 : Int64)) = s6) (hs7 : s6 + (((gaps.toUInt64 >>> ((48 : Int32) &&& 0x3f).toInt64.toUInt64).toInt64) &&& (255 : Int64)) = s7) (hs8 : s7 + (((gaps.toUInt64 >>> ((56 : Int32) &&& 0x3f).toInt64.toUInt64).toInt64) &&& (255 : Int64)) = s8) (hqq : (((qr &&& (2147483647 : Int32)) % (((8 : Int32) * (3 : Int32)) + (33 : Int32))) - (16 : Int32)) = q) (hm1 : Jvm.Free.Fl.NoNaN64 (own_m q)) (hm2 : Jvm.Free.Fl.NoNaN64 (own_pct (3 : Int32) q)) (hp1 : Jvm.Free.Fl.NoNaN64 (own_pm (3 : Int32) q)) (hp2 : Jvm.Free.Fl.NoNaN64 (own_pos (3 : Int32) q)) (hn344 : Jvm.Free.Fl.NoNaN64 (FP.dmul (FP.l2d s0) (4620693217682128896 : UInt64))) (hv348 : cmpValue (FP.dcmp (FP.dmul (FP.l2d s0) (4620693217682128896 : UInt64)) (FP.l2d ((8 : Int64) * s0))) .l = (0 : Int32)) (hq8 : q < (8 : Int32)) (hcA : own_cA (3 : Int32) q < (0 : Int32))   :
    MetFree l x (head1 (Jvm.Cond.code x code maxLocals ret :: ws) room_1) (fun a U => a = #[(.int sel), (.int qr), (.int base), (.long gaps)] ∧ Z.Warmed39 U.vm ∧ U.heap = h0) (fun _ _ _ _ _ => True) (fun _ U o U' => ∃ v L, o = .returned v ∧ QL n0 v U'.heap L ∧ FrameEnd U o U' L 2 12) := by
  refine MetFree.of_bodySF (plainFor_of_name pn_com_example_bytegauge_bytegauge_stats_JsonTablePercentilePinLaw) hisR ?_
  intro p e s m args below meth c s₁ Bd hml0 hP hK
  obtain ⟨rfl, hZ, hh⟩ := hP
  have hx := Bd.exec
  have hby := Bd.bytes
  have hml : c.maxLocals = 18 := hml0
  have hown : s.vm.findClass "com/example/bytegauge/bytegauge/stats/JsonTablePercentilePinLaw" = some m.cls := findClass_of_methodNamed Bd.named
  have hnm := (name_of_methodNamed Bd.named Bd.method).1
  have X0 : Stand p l e room_1 s m #[(.int sel), (.int qr), (.int base), (.long gaps)] below meth c s₁ [] 0 0 := Stand.of_body Bd
  have e0 : s₁.heap = h0 := by rw [← hh, Bd.state]; rfl
  have N0 := Fr.nil n0
  have pre0 : ∀ t, Steps p.tables e below (s₁.setTop (mkF m 0 #[.val (.int sel), .val (.int qr), .val (.int base), .val (.long gaps), .second, .unset, .unset, .unset, .unset, .unset, .unset, .unset, .unset, .unset, .unset, .unset, .unset, .unset] [])) t → Steps p.tables e below (s₁.setTop (entryFrame m #[(.int sel), (.int qr), (.int base), (.long gaps)] maxLocals)) t := fun t k => castTop (ef_code m sel qr base gaps) k
  obtain ⟨TA, hA, LA, bA, kA, XA, eA, NA, SZA, g_bA, VA, stA⟩ := segA h0 n0 Z0 sel qr base gaps (1 : Int32) (3 : Int32) s0 s1 s2 s3 s4 s5 s6 s7 s8 X0 hx hZ hw hby hml hown e0 hs0 hs1 hs2 hs3 hs4 hs5 hs6 hs7 hs8
  obtain ⟨_, _, ⟨T1, L1, k1, n1⟩, -, X1, ⟨Lc1, hQ1, l1, y1, z1⟩, st1⟩ := Jvm.LawKit.callS XA hx (y := (⟨"com/example/bytegauge/bytegauge/stats/JsonTablePercentilePinLaw", "sortedOf", "(I[J)[D"⟩ : MethodName)) hown (mvT hZ (hw _ (List.mem_of_getElem? (i := 3) rfl))) (mvT hZ (hw _ (List.mem_of_getElem? (i := 4) rfl))) (mvT hZ (hw _ (List.mem_of_getElem? (i := 5) rfl))) (mvT hZ (hw _ (List.mem_of_getElem? (i := 6) rfl))) (by decide) (backOf (W := 0) (rmS3 l Z a0 hw [] bA kA s0 s1 s2 s3 s4 s5 s6 s7 s8 hA n0 SZA VA) hZ (hw _ (List.mem_of_getElem? (i := 6) rfl)) (hw _ (List.mem_of_getElem? (i := 5) rfl)) (by decide) (by decide)) (g := (mkF m 206 #[.val (.int sel), .val (.int qr), .val (.int base), .val (.long gaps), .second, .val (.int (1 : Int32)), .val (.int (3 : Int32)), .val (.ref bA), .unset, .unset, .unset, .unset, .unset, .unset, .unset, .unset, .unset, .unset] [(.ref bA), (.int (3 : Int32))])) rfl (by rw [hml]; rfl) (argsL := [(.int (3 : Int32)), (.ref bA)]) (rest := []) (lenOf pd__I_J__D rfl) rfl (by show 2 * 0 + _ ≤ _; exact Nat.le_of_eq rfl) (hb hby at_206) (fun _ _ => ⟨rfl, eA, (by decide : 1 + 1 ≤ _), (by decide : 9 + 3 ≤ _)⟩)
  dsimp only [Pt.U, Pt.locs, Pt.cells, Pt.slots] at X1 l1 y1 z1 st1 hQ1
  subst l1 y1 z1
  obtain ⟨d_1, kd1, rfl, N1q, g_d_1, sz_d_1, K1q, V1q⟩ := hQ1
  have c1_0 := VA.keep K1q List.not_mem_nil
  have SZ1 := Nat.le_trans SZA K1q.1
  have N1 := Fr.app NA N1q
  obtain ⟨_, _, ⟨T2, L2, k2, n2⟩, -, X2, ⟨Lc2, hQ2, l2, y2, z2⟩, st2⟩ := Jvm.LawKit.callS X1 hx (y := (⟨"com/example/bytegauge/bytegauge/stats/JsonTable", "percentile", "([DD)D"⟩ : MethodName)) hown (mvT hZ (hw _ (List.mem_of_getElem? (i := 9) rfl))) (mvT hZ (hw _ (List.mem_of_getElem? (i := 10) rfl))) (mvT hZ (hw _ (List.mem_of_getElem? (i := 11) rfl))) (mvT hZ (hw _ (List.mem_of_getElem? (i := 12) rfl))) (by decide) (backOf (W := 0) (rmPa3 l Z a0 hw [] d_1 kd1 s0 s1 s2 s3 s4 s5 s6 s7 s8 (own_pct (3 : Int32) q) (own_pos (3 : Int32) q) T1.heap n0 SZ1 V1q hp1 hp2 rfl _ rfl hcA) hZ (hw _ (List.mem_of_getElem? (i := 12) rfl)) (hw _ (List.mem_of_getElem? (i := 11) rfl)) (by decide) (by decide)) (g := (mkF m 248 #[.val (.int sel), .val (.int qr), .val (.int base), .val (.long gaps), .second, .val (.int (1 : Int32)), .val (.int (3 : Int32)), .val (.ref bA), .val (.ref d_1), .val (.int q), .val (.double (own_pct (3 : Int32) q)), .second, .unset, .unset, .unset, .unset, .unset, .unset] [(.double (own_pct (3 : Int32) q)), (.ref d_1)])) rfl (by rw [hml]; rfl) (argsL := [(.ref d_1), (.double (own_pct (3 : Int32) q))]) (rest := []) (lenOf pd___DD_D rfl) rfl (by show 2 * 0 + _ ≤ _; exact Nat.le_of_eq rfl) (hb hby at_248) (fun _ _ => ⟨rfl, rfl, (by decide : 2 + 0 ≤ _), (by decide : 12 + 0 ≤ _)⟩)
  dsimp only [Pt.U, Pt.locs, Pt.cells, Pt.slots] at X2 l2 y2 z2 st2 hQ2
  subst l2 y2 z2
  obtain ⟨rfl, N2q, eq2⟩ := hQ2
  have N2 := Fr.app N1 N2q
  obtain ⟨cl3, Ar3, -, S3, Nn3, H3, -⟩ := id c1_0
  have hin3 : ¬ ((0 : Int32) < 0 ∨ cl3.slots.size ≤ ((0 : Int32)).toNatClampNeg) := inb_of S3 ⟨by decide, by decide⟩
  have hat3 : cl3.slots[((0 : Int32)).toNatClampNeg]? = some (.long s0) := H3.at hin3 rfl
  obtain ⟨fs, hr, hrun, hended, hW, hsame⟩ := X2.leave (v := some (.int (1 : Int32))) (fun h => by rw [Bd.returns] at h; cases h)
  refine ⟨_, _, pre0 _ ?_, hrun, hended, _, _, rfl, ?_, ⟨_, rfl⟩, hW, hsame.mono (by decide) (by decide)⟩
  · show Steps p.tables e below (s₁.setTop (mkF m 0 #[.val (.int sel), .val (.int qr), .val (.int base), .val (.long gaps), .second, .unset, .unset, .unset, .unset, .unset, .unset, .unset, .unset, .unset, .unset, .unset, .unset, .unset] [])) _
    refine XS.iloadN X0.here hx rfl (hb hby at_0) rfl ?_
    show Steps p.tables e below (s₁.setTop (mkF m 1 #[.val (.int sel), .val (.int qr), .val (.int base), .val (.long gaps), .second, .unset, .unset, .unset, .unset, .unset, .unset, .unset, .unset, .unset, .unset, .unset, .unset, .unset] [(.int sel)])) _
    refine X0.ldcInt hx hown (mvT hZ (hw _ (List.mem_of_getElem? (i := 0) rfl))) (g := (mkF m 1 #[.val (.int sel), .val (.int qr), .val (.int base), .val (.long gaps), .second, .unset, .unset, .unset, .unset, .unset, .unset, .unset, .unset, .unset, .unset, .unset, .unset, .unset] [(.int sel)])) rfl (hb hby at_1) _ ?_
    refine XS.iand X0.here hx rfl (hb hby at_3) rfl ?_
    refine XS.iconst X0.here hx rfl (hb hby at_4) ?_
    show Steps p.tables e below (s₁.setTop (mkF m 5 #[.val (.int sel), .val (.int qr), .val (.int base), .val (.long gaps), .second, .unset, .unset, .unset, .unset, .unset, .unset, .unset, .unset, .unset, .unset, .unset, .unset, .unset] [(.int (5 : Int32)), (.int (sel &&& (2147483647 : Int32)))])) _
    refine iremM X0 hx rfl (hb hby at_5) rfl (by decide) ?_
    show Steps p.tables e below (s₁.setTop (mkF m 6 #[.val (.int sel), .val (.int qr), .val (.int base), .val (.long gaps), .second, .unset, .unset, .unset, .unset, .unset, .unset, .unset, .unset, .unset, .unset, .unset, .unset, .unset] [(.int ((sel &&& (2147483647 : Int32)) % (5 : Int32)))])) _
    rw [show ((sel &&& (2147483647 : Int32)) % (5 : Int32)) = (1 : Int32) from hch]
    refine XS.istore X0.here hx rfl (hb hby at_6) rfl (l' := #[.val (.int sel), .val (.int qr), .val (.int base), .val (.long gaps), .second, .val (.int (1 : Int32)), .unset, .unset, .unset, .unset, .unset, .unset, .unset, .unset, .unset, .unset, .unset, .unset]) rfl ?_
    refine XS.iload X0.here hx rfl (hb hby at_8) rfl ?_
    show Steps p.tables e below (s₁.setTop (mkF m 10 #[.val (.int sel), .val (.int qr), .val (.int base), .val (.long gaps), .second, .val (.int (1 : Int32)), .unset, .unset, .unset, .unset, .unset, .unset, .unset, .unset, .unset, .unset, .unset, .unset] [(.int (1 : Int32))])) _
    refine XS.ifYes X0.here hx rfl (pc0 := 10) (pc' := 17) rfl (hb hby at_10) rfl ((if0 _ _).trans (feq (by decide : ¬ ((1 : Int32) = (0 : Int32)))).2) (by decide) (by decide) ?_
    refine XS.iload X0.here hx rfl (hb hby at_17) rfl ?_
    refine XS.iconst X0.here hx rfl (hb hby at_19) ?_
    show Steps p.tables e below (s₁.setTop (mkF m 20 #[.val (.int sel), .val (.int qr), .val (.int base), .val (.long gaps), .second, .val (.int (1 : Int32)), .unset, .unset, .unset, .unset, .unset, .unset, .unset, .unset, .unset, .unset, .unset, .unset] [(.int (1 : Int32)), (.int (1 : Int32))])) _
    refine XS.icmpNo X0.here hx rfl (hb hby at_20) rfl (teq (by decide : (1 : Int32) = (1 : Int32))).2 ?_
    refine XS.iconst X0.here hx rfl (hb hby at_23) ?_
    refine XS.goto X0.here hx rfl (pc0 := 24) (pc' := 50) rfl (hb hby at_24) (by decide) (by decide) ?_
    show Steps p.tables e below (s₁.setTop (mkF m 50 #[.val (.int sel), .val (.int qr), .val (.int base), .val (.long gaps), .second, .val (.int (1 : Int32)), .unset, .unset, .unset, .unset, .unset, .unset, .unset, .unset, .unset, .unset, .unset, .unset] [(.int (3 : Int32))])) _
    refine XS.istore X0.here hx rfl (hb hby at_50) rfl (l' := #[.val (.int sel), .val (.int qr), .val (.int base), .val (.long gaps), .second, .val (.int (1 : Int32)), .val (.int (3 : Int32)), .unset, .unset, .unset, .unset, .unset, .unset, .unset, .unset, .unset, .unset, .unset]) rfl ?_
    show Steps p.tables e below (s₁.setTop (mkF m 52 #[.val (.int sel), .val (.int qr), .val (.int base), .val (.long gaps), .second, .val (.int (1 : Int32)), .val (.int (3 : Int32)), .unset, .unset, .unset, .unset, .unset, .unset, .unset, .unset, .unset, .unset, .unset] [])) _
    refine stA _ ?_
    show Steps p.tables e below (TA.setTop (mkF m 202 #[.val (.int sel), .val (.int qr), .val (.int base), .val (.long gaps), .second, .val (.int (1 : Int32)), .val (.int (3 : Int32)), .val (.ref bA), .unset, .unset, .unset, .unset, .unset, .unset, .unset, .unset, .unset, .unset] [])) _
    refine XS.iload XA.here hx rfl (hb hby at_202) rfl ?_
    refine XS.aload XA.here hx rfl (hb hby at_204) rfl rfl ?_
    show Steps p.tables e below (TA.setTop (mkF m 206 #[.val (.int sel), .val (.int qr), .val (.int base), .val (.long gaps), .second, .val (.int (1 : Int32)), .val (.int (3 : Int32)), .val (.ref bA), .unset, .unset, .unset, .unset, .unset, .unset, .unset, .unset, .unset, .unset] [(.ref bA), (.int (3 : Int32))])) _
    refine st1 _ ?_
    refine XS.astore X1.here hx rfl (hb hby at_209) rfl rfl (l' := #[.val (.int sel), .val (.int qr), .val (.int base), .val (.long gaps), .second, .val (.int (1 : Int32)), .val (.int (3 : Int32)), .val (.ref bA), .val (.ref d_1), .unset, .unset, .unset, .unset, .unset, .unset, .unset, .unset, .unset]) rfl ?_
    refine XS.iloadN X1.here hx rfl (hb hby at_211) rfl ?_
    show Steps p.tables e below (T1.setTop (mkF m 212 #[.val (.int sel), .val (.int qr), .val (.int base), .val (.long gaps), .second, .val (.int (1 : Int32)), .val (.int (3 : Int32)), .val (.ref bA), .val (.ref d_1), .unset, .unset, .unset, .unset, .unset, .unset, .unset, .unset, .unset] [(.int qr)])) _
    refine X1.ldcInt hx hown (mvT hZ (hw _ (List.mem_of_getElem? (i := 0) rfl))) (g := (mkF m 212 #[.val (.int sel), .val (.int qr), .val (.int base), .val (.long gaps), .second, .val (.int (1 : Int32)), .val (.int (3 : Int32)), .val (.ref bA), .val (.ref d_1), .unset, .unset, .unset, .unset, .unset, .unset, .unset, .unset, .unset] [(.int qr)])) rfl (hb hby at_212) _ ?_
    refine XS.iand X1.here hx rfl (hb hby at_214) rfl ?_
    refine XS.bipush X1.here hx rfl (hb hby at_215) ?_
    show Steps p.tables e below (T1.setTop (mkF m 217 #[.val (.int sel), .val (.int qr), .val (.int base), .val (.long gaps), .second, .val (.int (1 : Int32)), .val (.int (3 : Int32)), .val (.ref bA), .val (.ref d_1), .unset, .unset, .unset, .unset, .unset, .unset, .unset, .unset, .unset] [(.int (8 : Int32)), (.int (qr &&& (2147483647 : Int32)))])) _
    refine XS.iload X1.here hx rfl (hb hby at_217) rfl ?_
    refine XS.imul X1.here hx rfl (hb hby at_219) rfl ?_
    refine XS.bipush X1.here hx rfl (hb hby at_220) ?_
    show Steps p.tables e below (T1.setTop (mkF m 222 #[.val (.int sel), .val (.int qr), .val (.int base), .val (.long gaps), .second, .val (.int (1 : Int32)), .val (.int (3 : Int32)), .val (.ref bA), .val (.ref d_1), .unset, .unset, .unset, .unset, .unset, .unset, .unset, .unset, .unset] [(.int (33 : Int32)), (.int ((8 : Int32) * (3 : Int32))), (.int (qr &&& (2147483647 : Int32)))])) _
    refine XS.iadd X1.here hx rfl (hb hby at_222) rfl ?_
    refine iremM X1 hx rfl (hb hby at_223) rfl (by decide) ?_
    refine XS.bipush X1.here hx rfl (hb hby at_224) ?_
    show Steps p.tables e below (T1.setTop (mkF m 226 #[.val (.int sel), .val (.int qr), .val (.int base), .val (.long gaps), .second, .val (.int (1 : Int32)), .val (.int (3 : Int32)), .val (.ref bA), .val (.ref d_1), .unset, .unset, .unset, .unset, .unset, .unset, .unset, .unset, .unset] [(.int (16 : Int32)), (.int ((qr &&& (2147483647 : Int32)) % (((8 : Int32) * (3 : Int32)) + (33 : Int32))))])) _
    refine XS.isub X1.here hx rfl (hb hby at_226) rfl ?_
    show Steps p.tables e below (T1.setTop (mkF m 227 #[.val (.int sel), .val (.int qr), .val (.int base), .val (.long gaps), .second, .val (.int (1 : Int32)), .val (.int (3 : Int32)), .val (.ref bA), .val (.ref d_1), .unset, .unset, .unset, .unset, .unset, .unset, .unset, .unset, .unset] [(.int (((qr &&& (2147483647 : Int32)) % (((8 : Int32) * (3 : Int32)) + (33 : Int32))) - (16 : Int32)))])) _
    rw [show (((qr &&& (2147483647 : Int32)) % (((8 : Int32) * (3 : Int32)) + (33 : Int32))) - (16 : Int32)) = q from hqq]
    refine XS.istore X1.here hx rfl (hb hby at_227) rfl (l' := #[.val (.int sel), .val (.int qr), .val (.int base), .val (.long gaps), .second, .val (.int (1 : Int32)), .val (.int (3 : Int32)), .val (.ref bA), .val (.ref d_1), .val (.int q), .unset, .unset, .unset, .unset, .unset, .unset, .unset, .unset]) rfl ?_
    show Steps p.tables e below (T1.setTop (mkF m 229 #[.val (.int sel), .val (.int qr), .val (.int base), .val (.long gaps), .second, .val (.int (1 : Int32)), .val (.int (3 : Int32)), .val (.ref bA), .val (.ref d_1), .val (.int q), .unset, .unset, .unset, .unset, .unset, .unset, .unset, .unset] [])) _
    refine X1.ldc2DoubleC hx hown (mvT hZ (hw _ (List.mem_of_getElem? (i := 8) rfl))) (g := (mkF m 229 #[.val (.int sel), .val (.int qr), .val (.int base), .val (.long gaps), .second, .val (.int (1 : Int32)), .val (.int (3 : Int32)), .val (.ref bA), .val (.ref d_1), .val (.int q), .unset, .unset, .unset, .unset, .unset, .unset, .unset, .unset] [])) rfl (hb hby at_229) _ ?_
    refine XS.iload X1.here hx rfl (hb hby at_232) rfl ?_
    refine XS.i2dS X1.here hx rfl (hb hby at_234) rfl (v := (FP.i2d q)) (rfl) ?_
    show Steps p.tables e below (T1.setTop (mkF m 235 #[.val (.int sel), .val (.int qr), .val (.int base), .val (.long gaps), .second, .val (.int (1 : Int32)), .val (.int (3 : Int32)), .val (.ref bA), .val (.ref d_1), .val (.int q), .unset, .unset, .unset, .unset, .unset, .unset, .unset, .unset] [(.double (FP.i2d q)), (.double (4623226492472524800 : UInt64))])) _
    refine XS.dmulS X1.here hx rfl (hb hby at_235) rfl hm1 (v := (own_m q)) (rfl) ?_
    refine XS.iload X1.here hx rfl (hb hby at_236) rfl ?_
    refine XS.iconst X1.here hx rfl (hb hby at_238) ?_
    show Steps p.tables e below (T1.setTop (mkF m 239 #[.val (.int sel), .val (.int qr), .val (.int base), .val (.long gaps), .second, .val (.int (1 : Int32)), .val (.int (3 : Int32)), .val (.ref bA), .val (.ref d_1), .val (.int q), .unset, .unset, .unset, .unset, .unset, .unset, .unset, .unset] [(.int (1 : Int32)), (.int (3 : Int32)), (.double (own_m q))])) _
    refine XS.iadd X1.here hx rfl (hb hby at_239) rfl ?_
    refine XS.i2dS X1.here hx rfl (hb hby at_240) rfl (v := (FP.i2d ((3 : Int32) + (1 : Int32)))) (rfl) ?_
    refine XS.ddivS X1.here hx rfl (hb hby at_241) rfl hm2 (v := (own_pct (3 : Int32) q)) (rfl) ?_
    show Steps p.tables e below (T1.setTop (mkF m 242 #[.val (.int sel), .val (.int qr), .val (.int base), .val (.long gaps), .second, .val (.int (1 : Int32)), .val (.int (3 : Int32)), .val (.ref bA), .val (.ref d_1), .val (.int q), .unset, .unset, .unset, .unset, .unset, .unset, .unset, .unset] [(.double (own_pct (3 : Int32) q))])) _
    refine XS.dstore X1.here hx rfl (hb hby at_242) rfl (l' := #[.val (.int sel), .val (.int qr), .val (.int base), .val (.long gaps), .second, .val (.int (1 : Int32)), .val (.int (3 : Int32)), .val (.ref bA), .val (.ref d_1), .val (.int q), .val (.double (own_pct (3 : Int32) q)), .second, .unset, .unset, .unset, .unset, .unset, .unset]) rfl ?_
    refine XS.aload X1.here hx rfl (hb hby at_244) rfl rfl ?_
    refine XS.dload X1.here hx rfl (hb hby at_246) rfl ?_
    show Steps p.tables e below (T1.setTop (mkF m 248 #[.val (.int sel), .val (.int qr), .val (.int base), .val (.long gaps), .second, .val (.int (1 : Int32)), .val (.int (3 : Int32)), .val (.ref bA), .val (.ref d_1), .val (.int q), .val (.double (own_pct (3 : Int32) q)), .second, .unset, .unset, .unset, .unset, .unset, .unset] [(.double (own_pct (3 : Int32) q)), (.ref d_1)])) _
    refine st2 _ ?_
    refine XS.dstore X2.here hx rfl (hb hby at_251) rfl (l' := #[.val (.int sel), .val (.int qr), .val (.int base), .val (.long gaps), .second, .val (.int (1 : Int32)), .val (.int (3 : Int32)), .val (.ref bA), .val (.ref d_1), .val (.int q), .val (.double (own_pct (3 : Int32) q)), .second, .val (.double (FP.l2d s0)), .second, .unset, .unset, .unset, .unset]) rfl ?_
    refine XS.iload X2.here hx rfl (hb hby at_253) rfl ?_
    show Steps p.tables e below (T2.setTop (mkF m 255 #[.val (.int sel), .val (.int qr), .val (.int base), .val (.long gaps), .second, .val (.int (1 : Int32)), .val (.int (3 : Int32)), .val (.ref bA), .val (.ref d_1), .val (.int q), .val (.double (own_pct (3 : Int32) q)), .second, .val (.double (FP.l2d s0)), .second, .unset, .unset, .unset, .unset] [(.int q)])) _
    refine XS.bipush X2.here hx rfl (hb hby at_255) ?_
    refine XS.icmpNo X2.here hx rfl (hb hby at_257) rfl (tlt (hq8 : q < (8 : Int32))).2.1 ?_
    show Steps p.tables e below (T2.setTop (mkF m 260 #[.val (.int sel), .val (.int qr), .val (.int base), .val (.long gaps), .second, .val (.int (1 : Int32)), .val (.int (3 : Int32)), .val (.ref bA), .val (.ref d_1), .val (.int q), .val (.double (own_pct (3 : Int32) q)), .second, .val (.double (FP.l2d s0)), .second, .unset, .unset, .unset, .unset] [])) _
    refine X2.ldc2Long hx hown (mvT hZ (hw _ (List.mem_of_getElem? (i := 14) rfl))) (g := (mkF m 260 #[.val (.int sel), .val (.int qr), .val (.int base), .val (.long gaps), .second, .val (.int (1 : Int32)), .val (.int (3 : Int32)), .val (.ref bA), .val (.ref d_1), .val (.int q), .val (.double (own_pct (3 : Int32) q)), .second, .val (.double (FP.l2d s0)), .second, .unset, .unset, .unset, .unset] [])) rfl (hb hby at_260) _ ?_
    refine XS.aload X2.here hx rfl (hb hby at_263) rfl rfl ?_
    refine XS.iconst X2.here hx rfl (hb hby at_265) ?_
    show Steps p.tables e below (T2.setTop (mkF m 266 #[.val (.int sel), .val (.int qr), .val (.int base), .val (.long gaps), .second, .val (.int (1 : Int32)), .val (.int (3 : Int32)), .val (.ref bA), .val (.ref d_1), .val (.int q), .val (.double (own_pct (3 : Int32) q)), .second, .val (.double (FP.l2d s0)), .second, .unset, .unset, .unset, .unset] [(.int (0 : Int32)), (.ref bA), (.long (8 : Int64))])) _
    refine X2.laload hx (j := (0 : Int32)) (v := (.long s0)) (by rw [eq2]; exact Ar3.1) (State.isArrayOf_alike hZ.alike Ar3.2.1) Ar3.2.2 hin3 hat3 (g := (mkF m 266 #[.val (.int sel), .val (.int qr), .val (.int base), .val (.long gaps), .second, .val (.int (1 : Int32)), .val (.int (3 : Int32)), .val (.ref bA), .val (.ref d_1), .val (.int q), .val (.double (own_pct (3 : Int32) q)), .second, .val (.double (FP.l2d s0)), .second, .unset, .unset, .unset, .unset] [(.int (0 : Int32)), (.ref bA), (.long (8 : Int64))])) rfl rfl (hb hby at_266) _ ?_
    refine XS.lmul X2.here hx rfl (hb hby at_267) rfl ?_
    refine XS.lstore X2.here hx rfl (hb hby at_268) rfl (l' := #[.val (.int sel), .val (.int qr), .val (.int base), .val (.long gaps), .second, .val (.int (1 : Int32)), .val (.int (3 : Int32)), .val (.ref bA), .val (.ref d_1), .val (.int q), .val (.double (own_pct (3 : Int32) q)), .second, .val (.double (FP.l2d s0)), .second, .val (.long ((8 : Int64) * s0)), .second, .unset, .unset]) rfl ?_
    show Steps p.tables e below (T2.setTop (mkF m 270 #[.val (.int sel), .val (.int qr), .val (.int base), .val (.long gaps), .second, .val (.int (1 : Int32)), .val (.int (3 : Int32)), .val (.ref bA), .val (.ref d_1), .val (.int q), .val (.double (own_pct (3 : Int32) q)), .second, .val (.double (FP.l2d s0)), .second, .val (.long ((8 : Int64) * s0)), .second, .unset, .unset] [])) _
    refine XS.goto X2.here hx rfl (pc0 := 270) (pc' := 339) rfl (hb hby at_270) (by decide) (by decide) ?_
    refine XS.dload X2.here hx rfl (hb hby at_339) rfl ?_
    show Steps p.tables e below (T2.setTop (mkF m 341 #[.val (.int sel), .val (.int qr), .val (.int base), .val (.long gaps), .second, .val (.int (1 : Int32)), .val (.int (3 : Int32)), .val (.ref bA), .val (.ref d_1), .val (.int q), .val (.double (own_pct (3 : Int32) q)), .second, .val (.double (FP.l2d s0)), .second, .val (.long ((8 : Int64) * s0)), .second, .unset, .unset] [(.double (FP.l2d s0))])) _
    refine X2.ldc2DoubleC hx hown (mvT hZ (hw _ (List.mem_of_getElem? (i := 15) rfl))) (g := (mkF m 341 #[.val (.int sel), .val (.int qr), .val (.int base), .val (.long gaps), .second, .val (.int (1 : Int32)), .val (.int (3 : Int32)), .val (.ref bA), .val (.ref d_1), .val (.int q), .val (.double (own_pct (3 : Int32) q)), .second, .val (.double (FP.l2d s0)), .second, .val (.long ((8 : Int64) * s0)), .second, .unset, .unset] [(.double (FP.l2d s0))])) rfl (hb hby at_341) _ ?_
    refine XS.dmulS X2.here hx rfl (hb hby at_344) rfl hn344 (v := (FP.dmul (FP.l2d s0) (4620693217682128896 : UInt64))) (rfl) ?_
    refine XS.lload X2.here hx rfl (hb hby at_345) rfl ?_
    show Steps p.tables e below (T2.setTop (mkF m 347 #[.val (.int sel), .val (.int qr), .val (.int base), .val (.long gaps), .second, .val (.int (1 : Int32)), .val (.int (3 : Int32)), .val (.ref bA), .val (.ref d_1), .val (.int q), .val (.double (own_pct (3 : Int32) q)), .second, .val (.double (FP.l2d s0)), .second, .val (.long ((8 : Int64) * s0)), .second, .unset, .unset] [(.long ((8 : Int64) * s0)), (.double (FP.dmul (FP.l2d s0) (4620693217682128896 : UInt64)))])) _
    refine XS.l2dS X2.here hx rfl (hb hby at_347) rfl (v := (FP.l2d ((8 : Int64) * s0))) (rfl) ?_
    refine XS.dcmpS X2.here hx rfl (hb hby at_348) rfl (v := (0 : Int32)) (hv348) ?_
    refine XS.ifNo X2.here hx rfl (hb hby at_349) rfl ((if0 _ _).trans (teq (by decide : (0 : Int32) = (0 : Int32))).2) ?_
    show Steps p.tables e below (T2.setTop (mkF m 352 #[.val (.int sel), .val (.int qr), .val (.int base), .val (.long gaps), .second, .val (.int (1 : Int32)), .val (.int (3 : Int32)), .val (.ref bA), .val (.ref d_1), .val (.int q), .val (.double (own_pct (3 : Int32) q)), .second, .val (.double (FP.l2d s0)), .second, .val (.long ((8 : Int64) * s0)), .second, .unset, .unset] [])) _
    refine XS.iconst X2.here hx rfl (hb hby at_352) ?_
    refine XS.goto X2.here hx rfl (pc0 := 353) (pc' := 357) rfl (hb hby at_353) (by decide) (by decide) ?_
    show Steps p.tables e below (T2.setTop (mkF m 357 #[.val (.int sel), .val (.int qr), .val (.int base), .val (.long gaps), .second, .val (.int (1 : Int32)), .val (.int (3 : Int32)), .val (.ref bA), .val (.ref d_1), .val (.int q), .val (.double (own_pct (3 : Int32) q)), .second, .val (.double (FP.l2d s0)), .second, .val (.long ((8 : Int64) * s0)), .second, .unset, .unset] [(.int (1 : Int32))])) _
    exact retN X2 hx (t := .boolean) Bd.returns (by simp) (hb hby at_357) hr
  · show QL n0 _ T2.heap _
    rw [eq2]
    exact ⟨rfl, N2⟩
set_option maxRecDepth 65536 in
set_option maxHeartbeats 40000000 in
theorem rm0b3 (l : Launch) (Z : State) (a0 : Array Value) (hw : ∀ d ∈ tables_1, d.before a0 Z = true) (ws : List Jvm.Cond) (sel qr base : Int32) (gaps : Int64) (s0 s1 s2 s3 s4 s5 s6 s7 s8 : Int64) (q : Int32) (h0 : Heap) (n0 : Nat) (Z0 : n0 ≤ h0.size) (hch : ((sel &&& (2147483647 : Int32)) % (5 : Int32)) = (1 : Int32)) (hs0 : (base.toInt64) = s0) (hs1 : s0 + (gaps &&& (255 : Int64)) = s1) (hs2 : s1 + (((gaps.toUInt64 >>> ((8 : Int32) &&& 0x3f).toInt64.toUInt64).toInt64) &&& (255 : Int64)) = s2) (hs3 : s2 + (((gaps.toUInt64 >>> ((16 : Int32) &&& 0x3f).toInt64.toUInt64).toInt64) &&& (255 : Int64)) = s3) (hs4 : s3 + (((gaps.toUInt64 >>> ((24 : Int32) &&& 0x3f).toInt64.toUInt64).toInt64) &&& (255 : Int64)) = s4) (hs5 : s4 + (((gaps.toUInt64 >>> ((32 : Int32) &&& 0x3f).toInt64.toUInt64).toInt64) &&& (255 : Int64)) = s5) (hs6 : s5 + (((gaps.toUInt64 >>> ((40 : Int32) &&& 0x3f).toInt64.toUInt64).toInt64) &&& (255 : Int64)) = s6) (hs7 : s6 + (((gaps.toUInt64 >>> ((48 : Int32) &&& 0x3f).toInt64.toUInt64).toInt64) &&& (255 : Int64)) = s7) (hs8 : s7 + (((gaps.toUInt64 >>> ((56 : Int32) &&& 0x3f).toInt64.toUInt64).toInt64) &&& (255 : Int64)) = s8) (hqq : (((qr &&& (2147483647 : Int32)) % (((8 : Int32) * (3 : Int32)) + (33 : Int32))) - (16 : Int32)) = q) (hm1 : Jvm.Free.Fl.NoNaN64 (own_m q)) (hm2 : Jvm.Free.Fl.NoNaN64 (own_pct (3 : Int32) q)) (hp1 : Jvm.Free.Fl.NoNaN64 (own_pm (3 : Int32) q)) (hp2 : Jvm.Free.Fl.NoNaN64 (own_pos (3 : Int32) q)) (hn344 : Jvm.Free.Fl.NoNaN64 (FP.dmul (FP.l2d s2) (4620693217682128896 : UInt64))) (hv348 : cmpValue (FP.dcmp (FP.dmul (FP.l2d s2) (4620693217682128896 : UInt64)) (FP.l2d ((8 : Int64) * s2))) .l = (0 : Int32)) (hq8 : ¬ (q < (8 : Int32))) (hcA : ¬ own_cA (3 : Int32) q < (0 : Int32)) (hq8n : ¬ (q < ((8 : Int32) * (3 : Int32)))) (hcB : ¬ own_cB (3 : Int32) q < (0 : Int32))   :
    MetFree l x (head1 (Jvm.Cond.code x code maxLocals ret :: ws) room_1) (fun a U => a = #[(.int sel), (.int qr), (.int base), (.long gaps)] ∧ Z.Warmed39 U.vm ∧ U.heap = h0) (fun _ _ _ _ _ => True) (fun _ U o U' => ∃ v L, o = .returned v ∧ QL n0 v U'.heap L ∧ FrameEnd U o U' L 2 12) := by
  refine MetFree.of_bodySF (plainFor_of_name pn_com_example_bytegauge_bytegauge_stats_JsonTablePercentilePinLaw) hisR ?_
  intro p e s m args below meth c s₁ Bd hml0 hP hK
  obtain ⟨rfl, hZ, hh⟩ := hP
  have hx := Bd.exec
  have hby := Bd.bytes
  have hml : c.maxLocals = 18 := hml0
  have hown : s.vm.findClass "com/example/bytegauge/bytegauge/stats/JsonTablePercentilePinLaw" = some m.cls := findClass_of_methodNamed Bd.named
  have hnm := (name_of_methodNamed Bd.named Bd.method).1
  have X0 : Stand p l e room_1 s m #[(.int sel), (.int qr), (.int base), (.long gaps)] below meth c s₁ [] 0 0 := Stand.of_body Bd
  have e0 : s₁.heap = h0 := by rw [← hh, Bd.state]; rfl
  have N0 := Fr.nil n0
  have pre0 : ∀ t, Steps p.tables e below (s₁.setTop (mkF m 0 #[.val (.int sel), .val (.int qr), .val (.int base), .val (.long gaps), .second, .unset, .unset, .unset, .unset, .unset, .unset, .unset, .unset, .unset, .unset, .unset, .unset, .unset] [])) t → Steps p.tables e below (s₁.setTop (entryFrame m #[(.int sel), (.int qr), (.int base), (.long gaps)] maxLocals)) t := fun t k => castTop (ef_code m sel qr base gaps) k
  obtain ⟨TA, hA, LA, bA, kA, XA, eA, NA, SZA, g_bA, VA, stA⟩ := segA h0 n0 Z0 sel qr base gaps (1 : Int32) (3 : Int32) s0 s1 s2 s3 s4 s5 s6 s7 s8 X0 hx hZ hw hby hml hown e0 hs0 hs1 hs2 hs3 hs4 hs5 hs6 hs7 hs8
  obtain ⟨_, _, ⟨T1, L1, k1, n1⟩, -, X1, ⟨Lc1, hQ1, l1, y1, z1⟩, st1⟩ := Jvm.LawKit.callS XA hx (y := (⟨"com/example/bytegauge/bytegauge/stats/JsonTablePercentilePinLaw", "sortedOf", "(I[J)[D"⟩ : MethodName)) hown (mvT hZ (hw _ (List.mem_of_getElem? (i := 3) rfl))) (mvT hZ (hw _ (List.mem_of_getElem? (i := 4) rfl))) (mvT hZ (hw _ (List.mem_of_getElem? (i := 5) rfl))) (mvT hZ (hw _ (List.mem_of_getElem? (i := 6) rfl))) (by decide) (backOf (W := 0) (rmS3 l Z a0 hw [] bA kA s0 s1 s2 s3 s4 s5 s6 s7 s8 hA n0 SZA VA) hZ (hw _ (List.mem_of_getElem? (i := 6) rfl)) (hw _ (List.mem_of_getElem? (i := 5) rfl)) (by decide) (by decide)) (g := (mkF m 206 #[.val (.int sel), .val (.int qr), .val (.int base), .val (.long gaps), .second, .val (.int (1 : Int32)), .val (.int (3 : Int32)), .val (.ref bA), .unset, .unset, .unset, .unset, .unset, .unset, .unset, .unset, .unset, .unset] [(.ref bA), (.int (3 : Int32))])) rfl (by rw [hml]; rfl) (argsL := [(.int (3 : Int32)), (.ref bA)]) (rest := []) (lenOf pd__I_J__D rfl) rfl (by show 2 * 0 + _ ≤ _; exact Nat.le_of_eq rfl) (hb hby at_206) (fun _ _ => ⟨rfl, eA, (by decide : 1 + 1 ≤ _), (by decide : 9 + 3 ≤ _)⟩)
  dsimp only [Pt.U, Pt.locs, Pt.cells, Pt.slots] at X1 l1 y1 z1 st1 hQ1
  subst l1 y1 z1
  obtain ⟨d_1, kd1, rfl, N1q, g_d_1, sz_d_1, K1q, V1q⟩ := hQ1
  have c1_0 := VA.keep K1q List.not_mem_nil
  have SZ1 := Nat.le_trans SZA K1q.1
  have N1 := Fr.app NA N1q
  obtain ⟨_, _, ⟨T2, L2, k2, n2⟩, -, X2, ⟨Lc2, hQ2, l2, y2, z2⟩, st2⟩ := Jvm.LawKit.callS X1 hx (y := (⟨"com/example/bytegauge/bytegauge/stats/JsonTable", "percentile", "([DD)D"⟩ : MethodName)) hown (mvT hZ (hw _ (List.mem_of_getElem? (i := 9) rfl))) (mvT hZ (hw _ (List.mem_of_getElem? (i := 10) rfl))) (mvT hZ (hw _ (List.mem_of_getElem? (i := 11) rfl))) (mvT hZ (hw _ (List.mem_of_getElem? (i := 12) rfl))) (by decide) (backOf (W := 0) (rmPb3 l Z a0 hw [] d_1 kd1 s0 s1 s2 s3 s4 s5 s6 s7 s8 (own_pct (3 : Int32) q) (own_pos (3 : Int32) q) T1.heap n0 SZ1 V1q hp1 hp2 rfl _ rfl _ rfl hcA hcB) hZ (hw _ (List.mem_of_getElem? (i := 12) rfl)) (hw _ (List.mem_of_getElem? (i := 11) rfl)) (by decide) (by decide)) (g := (mkF m 248 #[.val (.int sel), .val (.int qr), .val (.int base), .val (.long gaps), .second, .val (.int (1 : Int32)), .val (.int (3 : Int32)), .val (.ref bA), .val (.ref d_1), .val (.int q), .val (.double (own_pct (3 : Int32) q)), .second, .unset, .unset, .unset, .unset, .unset, .unset] [(.double (own_pct (3 : Int32) q)), (.ref d_1)])) rfl (by rw [hml]; rfl) (argsL := [(.ref d_1), (.double (own_pct (3 : Int32) q))]) (rest := []) (lenOf pd___DD_D rfl) rfl (by show 2 * 0 + _ ≤ _; exact Nat.le_of_eq rfl) (hb hby at_248) (fun _ _ => ⟨rfl, rfl, (by decide : 2 + 0 ≤ _), (by decide : 12 + 0 ≤ _)⟩)
  dsimp only [Pt.U, Pt.locs, Pt.cells, Pt.slots] at X2 l2 y2 z2 st2 hQ2
  subst l2 y2 z2
  obtain ⟨rfl, N2q, eq2⟩ := hQ2
  have N2 := Fr.app N1 N2q
  obtain ⟨cl3, Ar3, -, S3, Nn3, H3, -⟩ := id c1_0
  have hin3 : ¬ ((2 : Int32) < 0 ∨ cl3.slots.size ≤ ((2 : Int32)).toNatClampNeg) := inb_of S3 ⟨by decide, by decide⟩
  have hat3 : cl3.slots[((2 : Int32)).toNatClampNeg]? = some (.long s2) := H3.at hin3 rfl
  obtain ⟨fs, hr, hrun, hended, hW, hsame⟩ := X2.leave (v := some (.int (1 : Int32))) (fun h => by rw [Bd.returns] at h; cases h)
  refine ⟨_, _, pre0 _ ?_, hrun, hended, _, _, rfl, ?_, ⟨_, rfl⟩, hW, hsame.mono (by decide) (by decide)⟩
  · show Steps p.tables e below (s₁.setTop (mkF m 0 #[.val (.int sel), .val (.int qr), .val (.int base), .val (.long gaps), .second, .unset, .unset, .unset, .unset, .unset, .unset, .unset, .unset, .unset, .unset, .unset, .unset, .unset] [])) _
    refine XS.iloadN X0.here hx rfl (hb hby at_0) rfl ?_
    show Steps p.tables e below (s₁.setTop (mkF m 1 #[.val (.int sel), .val (.int qr), .val (.int base), .val (.long gaps), .second, .unset, .unset, .unset, .unset, .unset, .unset, .unset, .unset, .unset, .unset, .unset, .unset, .unset] [(.int sel)])) _
    refine X0.ldcInt hx hown (mvT hZ (hw _ (List.mem_of_getElem? (i := 0) rfl))) (g := (mkF m 1 #[.val (.int sel), .val (.int qr), .val (.int base), .val (.long gaps), .second, .unset, .unset, .unset, .unset, .unset, .unset, .unset, .unset, .unset, .unset, .unset, .unset, .unset] [(.int sel)])) rfl (hb hby at_1) _ ?_
    refine XS.iand X0.here hx rfl (hb hby at_3) rfl ?_
    refine XS.iconst X0.here hx rfl (hb hby at_4) ?_
    show Steps p.tables e below (s₁.setTop (mkF m 5 #[.val (.int sel), .val (.int qr), .val (.int base), .val (.long gaps), .second, .unset, .unset, .unset, .unset, .unset, .unset, .unset, .unset, .unset, .unset, .unset, .unset, .unset] [(.int (5 : Int32)), (.int (sel &&& (2147483647 : Int32)))])) _
    refine iremM X0 hx rfl (hb hby at_5) rfl (by decide) ?_
    show Steps p.tables e below (s₁.setTop (mkF m 6 #[.val (.int sel), .val (.int qr), .val (.int base), .val (.long gaps), .second, .unset, .unset, .unset, .unset, .unset, .unset, .unset, .unset, .unset, .unset, .unset, .unset, .unset] [(.int ((sel &&& (2147483647 : Int32)) % (5 : Int32)))])) _
    rw [show ((sel &&& (2147483647 : Int32)) % (5 : Int32)) = (1 : Int32) from hch]
    refine XS.istore X0.here hx rfl (hb hby at_6) rfl (l' := #[.val (.int sel), .val (.int qr), .val (.int base), .val (.long gaps), .second, .val (.int (1 : Int32)), .unset, .unset, .unset, .unset, .unset, .unset, .unset, .unset, .unset, .unset, .unset, .unset]) rfl ?_
    refine XS.iload X0.here hx rfl (hb hby at_8) rfl ?_
    show Steps p.tables e below (s₁.setTop (mkF m 10 #[.val (.int sel), .val (.int qr), .val (.int base), .val (.long gaps), .second, .val (.int (1 : Int32)), .unset, .unset, .unset, .unset, .unset, .unset, .unset, .unset, .unset, .unset, .unset, .unset] [(.int (1 : Int32))])) _
    refine XS.ifYes X0.here hx rfl (pc0 := 10) (pc' := 17) rfl (hb hby at_10) rfl ((if0 _ _).trans (feq (by decide : ¬ ((1 : Int32) = (0 : Int32)))).2) (by decide) (by decide) ?_
    refine XS.iload X0.here hx rfl (hb hby at_17) rfl ?_
    refine XS.iconst X0.here hx rfl (hb hby at_19) ?_
    show Steps p.tables e below (s₁.setTop (mkF m 20 #[.val (.int sel), .val (.int qr), .val (.int base), .val (.long gaps), .second, .val (.int (1 : Int32)), .unset, .unset, .unset, .unset, .unset, .unset, .unset, .unset, .unset, .unset, .unset, .unset] [(.int (1 : Int32)), (.int (1 : Int32))])) _
    refine XS.icmpNo X0.here hx rfl (hb hby at_20) rfl (teq (by decide : (1 : Int32) = (1 : Int32))).2 ?_
    refine XS.iconst X0.here hx rfl (hb hby at_23) ?_
    refine XS.goto X0.here hx rfl (pc0 := 24) (pc' := 50) rfl (hb hby at_24) (by decide) (by decide) ?_
    show Steps p.tables e below (s₁.setTop (mkF m 50 #[.val (.int sel), .val (.int qr), .val (.int base), .val (.long gaps), .second, .val (.int (1 : Int32)), .unset, .unset, .unset, .unset, .unset, .unset, .unset, .unset, .unset, .unset, .unset, .unset] [(.int (3 : Int32))])) _
    refine XS.istore X0.here hx rfl (hb hby at_50) rfl (l' := #[.val (.int sel), .val (.int qr), .val (.int base), .val (.long gaps), .second, .val (.int (1 : Int32)), .val (.int (3 : Int32)), .unset, .unset, .unset, .unset, .unset, .unset, .unset, .unset, .unset, .unset, .unset]) rfl ?_
    show Steps p.tables e below (s₁.setTop (mkF m 52 #[.val (.int sel), .val (.int qr), .val (.int base), .val (.long gaps), .second, .val (.int (1 : Int32)), .val (.int (3 : Int32)), .unset, .unset, .unset, .unset, .unset, .unset, .unset, .unset, .unset, .unset, .unset] [])) _
    refine stA _ ?_
    show Steps p.tables e below (TA.setTop (mkF m 202 #[.val (.int sel), .val (.int qr), .val (.int base), .val (.long gaps), .second, .val (.int (1 : Int32)), .val (.int (3 : Int32)), .val (.ref bA), .unset, .unset, .unset, .unset, .unset, .unset, .unset, .unset, .unset, .unset] [])) _
    refine XS.iload XA.here hx rfl (hb hby at_202) rfl ?_
    refine XS.aload XA.here hx rfl (hb hby at_204) rfl rfl ?_
    show Steps p.tables e below (TA.setTop (mkF m 206 #[.val (.int sel), .val (.int qr), .val (.int base), .val (.long gaps), .second, .val (.int (1 : Int32)), .val (.int (3 : Int32)), .val (.ref bA), .unset, .unset, .unset, .unset, .unset, .unset, .unset, .unset, .unset, .unset] [(.ref bA), (.int (3 : Int32))])) _
    refine st1 _ ?_
    refine XS.astore X1.here hx rfl (hb hby at_209) rfl rfl (l' := #[.val (.int sel), .val (.int qr), .val (.int base), .val (.long gaps), .second, .val (.int (1 : Int32)), .val (.int (3 : Int32)), .val (.ref bA), .val (.ref d_1), .unset, .unset, .unset, .unset, .unset, .unset, .unset, .unset, .unset]) rfl ?_
    refine XS.iloadN X1.here hx rfl (hb hby at_211) rfl ?_
    show Steps p.tables e below (T1.setTop (mkF m 212 #[.val (.int sel), .val (.int qr), .val (.int base), .val (.long gaps), .second, .val (.int (1 : Int32)), .val (.int (3 : Int32)), .val (.ref bA), .val (.ref d_1), .unset, .unset, .unset, .unset, .unset, .unset, .unset, .unset, .unset] [(.int qr)])) _
    refine X1.ldcInt hx hown (mvT hZ (hw _ (List.mem_of_getElem? (i := 0) rfl))) (g := (mkF m 212 #[.val (.int sel), .val (.int qr), .val (.int base), .val (.long gaps), .second, .val (.int (1 : Int32)), .val (.int (3 : Int32)), .val (.ref bA), .val (.ref d_1), .unset, .unset, .unset, .unset, .unset, .unset, .unset, .unset, .unset] [(.int qr)])) rfl (hb hby at_212) _ ?_
    refine XS.iand X1.here hx rfl (hb hby at_214) rfl ?_
    refine XS.bipush X1.here hx rfl (hb hby at_215) ?_
    show Steps p.tables e below (T1.setTop (mkF m 217 #[.val (.int sel), .val (.int qr), .val (.int base), .val (.long gaps), .second, .val (.int (1 : Int32)), .val (.int (3 : Int32)), .val (.ref bA), .val (.ref d_1), .unset, .unset, .unset, .unset, .unset, .unset, .unset, .unset, .unset] [(.int (8 : Int32)), (.int (qr &&& (2147483647 : Int32)))])) _
    refine XS.iload X1.here hx rfl (hb hby at_217) rfl ?_
    refine XS.imul X1.here hx rfl (hb hby at_219) rfl ?_
    refine XS.bipush X1.here hx rfl (hb hby at_220) ?_
    show Steps p.tables e below (T1.setTop (mkF m 222 #[.val (.int sel), .val (.int qr), .val (.int base), .val (.long gaps), .second, .val (.int (1 : Int32)), .val (.int (3 : Int32)), .val (.ref bA), .val (.ref d_1), .unset, .unset, .unset, .unset, .unset, .unset, .unset, .unset, .unset] [(.int (33 : Int32)), (.int ((8 : Int32) * (3 : Int32))), (.int (qr &&& (2147483647 : Int32)))])) _
    refine XS.iadd X1.here hx rfl (hb hby at_222) rfl ?_
    refine iremM X1 hx rfl (hb hby at_223) rfl (by decide) ?_
    refine XS.bipush X1.here hx rfl (hb hby at_224) ?_
    show Steps p.tables e below (T1.setTop (mkF m 226 #[.val (.int sel), .val (.int qr), .val (.int base), .val (.long gaps), .second, .val (.int (1 : Int32)), .val (.int (3 : Int32)), .val (.ref bA), .val (.ref d_1), .unset, .unset, .unset, .unset, .unset, .unset, .unset, .unset, .unset] [(.int (16 : Int32)), (.int ((qr &&& (2147483647 : Int32)) % (((8 : Int32) * (3 : Int32)) + (33 : Int32))))])) _
    refine XS.isub X1.here hx rfl (hb hby at_226) rfl ?_
    show Steps p.tables e below (T1.setTop (mkF m 227 #[.val (.int sel), .val (.int qr), .val (.int base), .val (.long gaps), .second, .val (.int (1 : Int32)), .val (.int (3 : Int32)), .val (.ref bA), .val (.ref d_1), .unset, .unset, .unset, .unset, .unset, .unset, .unset, .unset, .unset] [(.int (((qr &&& (2147483647 : Int32)) % (((8 : Int32) * (3 : Int32)) + (33 : Int32))) - (16 : Int32)))])) _
    rw [show (((qr &&& (2147483647 : Int32)) % (((8 : Int32) * (3 : Int32)) + (33 : Int32))) - (16 : Int32)) = q from hqq]
    refine XS.istore X1.here hx rfl (hb hby at_227) rfl (l' := #[.val (.int sel), .val (.int qr), .val (.int base), .val (.long gaps), .second, .val (.int (1 : Int32)), .val (.int (3 : Int32)), .val (.ref bA), .val (.ref d_1), .val (.int q), .unset, .unset, .unset, .unset, .unset, .unset, .unset, .unset]) rfl ?_
    show Steps p.tables e below (T1.setTop (mkF m 229 #[.val (.int sel), .val (.int qr), .val (.int base), .val (.long gaps), .second, .val (.int (1 : Int32)), .val (.int (3 : Int32)), .val (.ref bA), .val (.ref d_1), .val (.int q), .unset, .unset, .unset, .unset, .unset, .unset, .unset, .unset] [])) _
    refine X1.ldc2DoubleC hx hown (mvT hZ (hw _ (List.mem_of_getElem? (i := 8) rfl))) (g := (mkF m 229 #[.val (.int sel), .val (.int qr), .val (.int base), .val (.long gaps), .second, .val (.int (1 : Int32)), .val (.int (3 : Int32)), .val (.ref bA), .val (.ref d_1), .val (.int q), .unset, .unset, .unset, .unset, .unset, .unset, .unset, .unset] [])) rfl (hb hby at_229) _ ?_
    refine XS.iload X1.here hx rfl (hb hby at_232) rfl ?_
    refine XS.i2dS X1.here hx rfl (hb hby at_234) rfl (v := (FP.i2d q)) (rfl) ?_
    show Steps p.tables e below (T1.setTop (mkF m 235 #[.val (.int sel), .val (.int qr), .val (.int base), .val (.long gaps), .second, .val (.int (1 : Int32)), .val (.int (3 : Int32)), .val (.ref bA), .val (.ref d_1), .val (.int q), .unset, .unset, .unset, .unset, .unset, .unset, .unset, .unset] [(.double (FP.i2d q)), (.double (4623226492472524800 : UInt64))])) _
    refine XS.dmulS X1.here hx rfl (hb hby at_235) rfl hm1 (v := (own_m q)) (rfl) ?_
    refine XS.iload X1.here hx rfl (hb hby at_236) rfl ?_
    refine XS.iconst X1.here hx rfl (hb hby at_238) ?_
    show Steps p.tables e below (T1.setTop (mkF m 239 #[.val (.int sel), .val (.int qr), .val (.int base), .val (.long gaps), .second, .val (.int (1 : Int32)), .val (.int (3 : Int32)), .val (.ref bA), .val (.ref d_1), .val (.int q), .unset, .unset, .unset, .unset, .unset, .unset, .unset, .unset] [(.int (1 : Int32)), (.int (3 : Int32)), (.double (own_m q))])) _
    refine XS.iadd X1.here hx rfl (hb hby at_239) rfl ?_
    refine XS.i2dS X1.here hx rfl (hb hby at_240) rfl (v := (FP.i2d ((3 : Int32) + (1 : Int32)))) (rfl) ?_
    refine XS.ddivS X1.here hx rfl (hb hby at_241) rfl hm2 (v := (own_pct (3 : Int32) q)) (rfl) ?_
    show Steps p.tables e below (T1.setTop (mkF m 242 #[.val (.int sel), .val (.int qr), .val (.int base), .val (.long gaps), .second, .val (.int (1 : Int32)), .val (.int (3 : Int32)), .val (.ref bA), .val (.ref d_1), .val (.int q), .unset, .unset, .unset, .unset, .unset, .unset, .unset, .unset] [(.double (own_pct (3 : Int32) q))])) _
    refine XS.dstore X1.here hx rfl (hb hby at_242) rfl (l' := #[.val (.int sel), .val (.int qr), .val (.int base), .val (.long gaps), .second, .val (.int (1 : Int32)), .val (.int (3 : Int32)), .val (.ref bA), .val (.ref d_1), .val (.int q), .val (.double (own_pct (3 : Int32) q)), .second, .unset, .unset, .unset, .unset, .unset, .unset]) rfl ?_
    refine XS.aload X1.here hx rfl (hb hby at_244) rfl rfl ?_
    refine XS.dload X1.here hx rfl (hb hby at_246) rfl ?_
    show Steps p.tables e below (T1.setTop (mkF m 248 #[.val (.int sel), .val (.int qr), .val (.int base), .val (.long gaps), .second, .val (.int (1 : Int32)), .val (.int (3 : Int32)), .val (.ref bA), .val (.ref d_1), .val (.int q), .val (.double (own_pct (3 : Int32) q)), .second, .unset, .unset, .unset, .unset, .unset, .unset] [(.double (own_pct (3 : Int32) q)), (.ref d_1)])) _
    refine st2 _ ?_
    refine XS.dstore X2.here hx rfl (hb hby at_251) rfl (l' := #[.val (.int sel), .val (.int qr), .val (.int base), .val (.long gaps), .second, .val (.int (1 : Int32)), .val (.int (3 : Int32)), .val (.ref bA), .val (.ref d_1), .val (.int q), .val (.double (own_pct (3 : Int32) q)), .second, .val (.double (FP.l2d s2)), .second, .unset, .unset, .unset, .unset]) rfl ?_
    refine XS.iload X2.here hx rfl (hb hby at_253) rfl ?_
    show Steps p.tables e below (T2.setTop (mkF m 255 #[.val (.int sel), .val (.int qr), .val (.int base), .val (.long gaps), .second, .val (.int (1 : Int32)), .val (.int (3 : Int32)), .val (.ref bA), .val (.ref d_1), .val (.int q), .val (.double (own_pct (3 : Int32) q)), .second, .val (.double (FP.l2d s2)), .second, .unset, .unset, .unset, .unset] [(.int q)])) _
    refine XS.bipush X2.here hx rfl (hb hby at_255) ?_
    refine XS.icmpYes X2.here hx rfl (pc0 := 257) (pc' := 273) rfl (hb hby at_257) rfl (flt (hq8 : ¬ (q < (8 : Int32)))).2.1 (by decide) (by decide) ?_
    refine XS.iload X2.here hx rfl (hb hby at_273) rfl ?_
    show Steps p.tables e below (T2.setTop (mkF m 275 #[.val (.int sel), .val (.int qr), .val (.int base), .val (.long gaps), .second, .val (.int (1 : Int32)), .val (.int (3 : Int32)), .val (.ref bA), .val (.ref d_1), .val (.int q), .val (.double (own_pct (3 : Int32) q)), .second, .val (.double (FP.l2d s2)), .second, .unset, .unset, .unset, .unset] [(.int q)])) _
    refine XS.bipush X2.here hx rfl (hb hby at_275) ?_
    refine XS.iload X2.here hx rfl (hb hby at_277) rfl ?_
    refine XS.imul X2.here hx rfl (hb hby at_279) rfl ?_
    show Steps p.tables e below (T2.setTop (mkF m 280 #[.val (.int sel), .val (.int qr), .val (.int base), .val (.long gaps), .second, .val (.int (1 : Int32)), .val (.int (3 : Int32)), .val (.ref bA), .val (.ref d_1), .val (.int q), .val (.double (own_pct (3 : Int32) q)), .second, .val (.double (FP.l2d s2)), .second, .unset, .unset, .unset, .unset] [(.int ((8 : Int32) * (3 : Int32))), (.int q)])) _
    refine XS.icmpNo X2.here hx rfl (hb hby at_280) rfl (flt (hq8n : ¬ (q < ((8 : Int32) * (3 : Int32))))).1 ?_
    show Steps p.tables e below (T2.setTop (mkF m 283 #[.val (.int sel), .val (.int qr), .val (.int base), .val (.long gaps), .second, .val (.int (1 : Int32)), .val (.int (3 : Int32)), .val (.ref bA), .val (.ref d_1), .val (.int q), .val (.double (own_pct (3 : Int32) q)), .second, .val (.double (FP.l2d s2)), .second, .unset, .unset, .unset, .unset] [])) _
    refine X2.ldc2Long hx hown (mvT hZ (hw _ (List.mem_of_getElem? (i := 14) rfl))) (g := (mkF m 283 #[.val (.int sel), .val (.int qr), .val (.int base), .val (.long gaps), .second, .val (.int (1 : Int32)), .val (.int (3 : Int32)), .val (.ref bA), .val (.ref d_1), .val (.int q), .val (.double (own_pct (3 : Int32) q)), .second, .val (.double (FP.l2d s2)), .second, .unset, .unset, .unset, .unset] [])) rfl (hb hby at_283) _ ?_
    refine XS.aload X2.here hx rfl (hb hby at_286) rfl rfl ?_
    refine XS.iload X2.here hx rfl (hb hby at_288) rfl ?_
    show Steps p.tables e below (T2.setTop (mkF m 290 #[.val (.int sel), .val (.int qr), .val (.int base), .val (.long gaps), .second, .val (.int (1 : Int32)), .val (.int (3 : Int32)), .val (.ref bA), .val (.ref d_1), .val (.int q), .val (.double (own_pct (3 : Int32) q)), .second, .val (.double (FP.l2d s2)), .second, .unset, .unset, .unset, .unset] [(.int (3 : Int32)), (.ref bA), (.long (8 : Int64))])) _
    refine XS.iconst X2.here hx rfl (hb hby at_290) ?_
    refine XS.isub X2.here hx rfl (hb hby at_291) rfl ?_
    show Steps p.tables e below (T2.setTop (mkF m 292 #[.val (.int sel), .val (.int qr), .val (.int base), .val (.long gaps), .second, .val (.int (1 : Int32)), .val (.int (3 : Int32)), .val (.ref bA), .val (.ref d_1), .val (.int q), .val (.double (own_pct (3 : Int32) q)), .second, .val (.double (FP.l2d s2)), .second, .unset, .unset, .unset, .unset] [(.int ((3 : Int32) - (1 : Int32))), (.ref bA), (.long (8 : Int64))])) _
    rw [show ((3 : Int32) - (1 : Int32)) = (2 : Int32) from (by decide)]
    show Steps p.tables e below (T2.setTop (mkF m 292 #[.val (.int sel), .val (.int qr), .val (.int base), .val (.long gaps), .second, .val (.int (1 : Int32)), .val (.int (3 : Int32)), .val (.ref bA), .val (.ref d_1), .val (.int q), .val (.double (own_pct (3 : Int32) q)), .second, .val (.double (FP.l2d s2)), .second, .unset, .unset, .unset, .unset] [(.int (2 : Int32)), (.ref bA), (.long (8 : Int64))])) _
    refine X2.laload hx (j := (2 : Int32)) (v := (.long s2)) (by rw [eq2]; exact Ar3.1) (State.isArrayOf_alike hZ.alike Ar3.2.1) Ar3.2.2 hin3 hat3 (g := (mkF m 292 #[.val (.int sel), .val (.int qr), .val (.int base), .val (.long gaps), .second, .val (.int (1 : Int32)), .val (.int (3 : Int32)), .val (.ref bA), .val (.ref d_1), .val (.int q), .val (.double (own_pct (3 : Int32) q)), .second, .val (.double (FP.l2d s2)), .second, .unset, .unset, .unset, .unset] [(.int (2 : Int32)), (.ref bA), (.long (8 : Int64))])) rfl rfl (hb hby at_292) _ ?_
    refine XS.lmul X2.here hx rfl (hb hby at_293) rfl ?_
    refine XS.lstore X2.here hx rfl (hb hby at_294) rfl (l' := #[.val (.int sel), .val (.int qr), .val (.int base), .val (.long gaps), .second, .val (.int (1 : Int32)), .val (.int (3 : Int32)), .val (.ref bA), .val (.ref d_1), .val (.int q), .val (.double (own_pct (3 : Int32) q)), .second, .val (.double (FP.l2d s2)), .second, .val (.long ((8 : Int64) * s2)), .second, .unset, .unset]) rfl ?_
    show Steps p.tables e below (T2.setTop (mkF m 296 #[.val (.int sel), .val (.int qr), .val (.int base), .val (.long gaps), .second, .val (.int (1 : Int32)), .val (.int (3 : Int32)), .val (.ref bA), .val (.ref d_1), .val (.int q), .val (.double (own_pct (3 : Int32) q)), .second, .val (.double (FP.l2d s2)), .second, .val (.long ((8 : Int64) * s2)), .second, .unset, .unset] [])) _
    refine XS.goto X2.here hx rfl (pc0 := 296) (pc' := 339) rfl (hb hby at_296) (by decide) (by decide) ?_
    refine XS.dload X2.here hx rfl (hb hby at_339) rfl ?_
    show Steps p.tables e below (T2.setTop (mkF m 341 #[.val (.int sel), .val (.int qr), .val (.int base), .val (.long gaps), .second, .val (.int (1 : Int32)), .val (.int (3 : Int32)), .val (.ref bA), .val (.ref d_1), .val (.int q), .val (.double (own_pct (3 : Int32) q)), .second, .val (.double (FP.l2d s2)), .second, .val (.long ((8 : Int64) * s2)), .second, .unset, .unset] [(.double (FP.l2d s2))])) _
    refine X2.ldc2DoubleC hx hown (mvT hZ (hw _ (List.mem_of_getElem? (i := 15) rfl))) (g := (mkF m 341 #[.val (.int sel), .val (.int qr), .val (.int base), .val (.long gaps), .second, .val (.int (1 : Int32)), .val (.int (3 : Int32)), .val (.ref bA), .val (.ref d_1), .val (.int q), .val (.double (own_pct (3 : Int32) q)), .second, .val (.double (FP.l2d s2)), .second, .val (.long ((8 : Int64) * s2)), .second, .unset, .unset] [(.double (FP.l2d s2))])) rfl (hb hby at_341) _ ?_
    refine XS.dmulS X2.here hx rfl (hb hby at_344) rfl hn344 (v := (FP.dmul (FP.l2d s2) (4620693217682128896 : UInt64))) (rfl) ?_
    refine XS.lload X2.here hx rfl (hb hby at_345) rfl ?_
    show Steps p.tables e below (T2.setTop (mkF m 347 #[.val (.int sel), .val (.int qr), .val (.int base), .val (.long gaps), .second, .val (.int (1 : Int32)), .val (.int (3 : Int32)), .val (.ref bA), .val (.ref d_1), .val (.int q), .val (.double (own_pct (3 : Int32) q)), .second, .val (.double (FP.l2d s2)), .second, .val (.long ((8 : Int64) * s2)), .second, .unset, .unset] [(.long ((8 : Int64) * s2)), (.double (FP.dmul (FP.l2d s2) (4620693217682128896 : UInt64)))])) _
    refine XS.l2dS X2.here hx rfl (hb hby at_347) rfl (v := (FP.l2d ((8 : Int64) * s2))) (rfl) ?_
    refine XS.dcmpS X2.here hx rfl (hb hby at_348) rfl (v := (0 : Int32)) (hv348) ?_
    refine XS.ifNo X2.here hx rfl (hb hby at_349) rfl ((if0 _ _).trans (teq (by decide : (0 : Int32) = (0 : Int32))).2) ?_
    show Steps p.tables e below (T2.setTop (mkF m 352 #[.val (.int sel), .val (.int qr), .val (.int base), .val (.long gaps), .second, .val (.int (1 : Int32)), .val (.int (3 : Int32)), .val (.ref bA), .val (.ref d_1), .val (.int q), .val (.double (own_pct (3 : Int32) q)), .second, .val (.double (FP.l2d s2)), .second, .val (.long ((8 : Int64) * s2)), .second, .unset, .unset] [])) _
    refine XS.iconst X2.here hx rfl (hb hby at_352) ?_
    refine XS.goto X2.here hx rfl (pc0 := 353) (pc' := 357) rfl (hb hby at_353) (by decide) (by decide) ?_
    show Steps p.tables e below (T2.setTop (mkF m 357 #[.val (.int sel), .val (.int qr), .val (.int base), .val (.long gaps), .second, .val (.int (1 : Int32)), .val (.int (3 : Int32)), .val (.ref bA), .val (.ref d_1), .val (.int q), .val (.double (own_pct (3 : Int32) q)), .second, .val (.double (FP.l2d s2)), .second, .val (.long ((8 : Int64) * s2)), .second, .unset, .unset] [(.int (1 : Int32))])) _
    exact retN X2 hx (t := .boolean) Bd.returns (by simp) (hb hby at_357) hr
  · show QL n0 _ T2.heap _
    rw [eq2]
    exact ⟨rfl, N2⟩
set_option maxRecDepth 65536 in
set_option maxHeartbeats 40000000 in
theorem rm0c3 (l : Launch) (Z : State) (a0 : Array Value) (hw : ∀ d ∈ tables_1, d.before a0 Z = true) (ws : List Jvm.Cond) (sel qr base : Int32) (gaps : Int64) (s0 s1 s2 s3 s4 s5 s6 s7 s8 : Int64) (q : Int32) (fr : UInt64) (lo hi : Int64) (bb b1 kk : Int32) (h0 : Heap) (n0 : Nat) (Z0 : n0 ≤ h0.size) (hch : ((sel &&& (2147483647 : Int32)) % (5 : Int32)) = (1 : Int32)) (hs0 : (base.toInt64) = s0) (hs1 : s0 + (gaps &&& (255 : Int64)) = s1) (hs2 : s1 + (((gaps.toUInt64 >>> ((8 : Int32) &&& 0x3f).toInt64.toUInt64).toInt64) &&& (255 : Int64)) = s2) (hs3 : s2 + (((gaps.toUInt64 >>> ((16 : Int32) &&& 0x3f).toInt64.toUInt64).toInt64) &&& (255 : Int64)) = s3) (hs4 : s3 + (((gaps.toUInt64 >>> ((24 : Int32) &&& 0x3f).toInt64.toUInt64).toInt64) &&& (255 : Int64)) = s4) (hs5 : s4 + (((gaps.toUInt64 >>> ((32 : Int32) &&& 0x3f).toInt64.toUInt64).toInt64) &&& (255 : Int64)) = s5) (hs6 : s5 + (((gaps.toUInt64 >>> ((40 : Int32) &&& 0x3f).toInt64.toUInt64).toInt64) &&& (255 : Int64)) = s6) (hs7 : s6 + (((gaps.toUInt64 >>> ((48 : Int32) &&& 0x3f).toInt64.toUInt64).toInt64) &&& (255 : Int64)) = s7) (hs8 : s7 + (((gaps.toUInt64 >>> ((56 : Int32) &&& 0x3f).toInt64.toUInt64).toInt64) &&& (255 : Int64)) = s8) (hqq : (((qr &&& (2147483647 : Int32)) % (((8 : Int32) * (3 : Int32)) + (33 : Int32))) - (16 : Int32)) = q) (hm1 : Jvm.Free.Fl.NoNaN64 (own_m q)) (hm2 : Jvm.Free.Fl.NoNaN64 (own_pct (3 : Int32) q)) (hp1 : Jvm.Free.Fl.NoNaN64 (own_pm (3 : Int32) q)) (hp2 : Jvm.Free.Fl.NoNaN64 (own_pos (3 : Int32) q)) (hn344 : Jvm.Free.Fl.NoNaN64 (FP.dmul (FP.dadd (FP.l2d lo) (FP.dmul fr (FP.dsub (FP.l2d hi) (FP.l2d lo)))) (4620693217682128896 : UInt64))) (hv348 : cmpValue (FP.dcmp (FP.dmul (FP.dadd (FP.l2d lo) (FP.dmul fr (FP.dsub (FP.l2d hi) (FP.l2d lo)))) (4620693217682128896 : UInt64)) (FP.l2d (((((8 : Int32) - kk).toInt64) * lo) + ((kk.toInt64) * hi)))) .l = (0 : Int32)) (hq8 : ¬ (q < (8 : Int32))) (hcA : ¬ own_cA (3 : Int32) q < (0 : Int32)) (hq8n : q < ((8 : Int32) * (3 : Int32))) (hcB : own_cB (3 : Int32) q < (0 : Int32)) (hd1 : (q / (8 : Int32)) = bb) (hd2 : (q % (8 : Int32)) = kk) (hbb : FP.d2i (own_pos (3 : Int32) q) = bb) (hn58 : Jvm.Free.Fl.NoNaN64 (FP.dsub (own_pos (3 : Int32) q) (FP.i2d bb))) (hfr : FP.dsub (own_pos (3 : Int32) q) (FP.i2d bb) = fr) (hb1 : (bb - (1 : Int32)) = b1) (hi1 : ¬ b1 < 0 ∧ b1 < (3 : Int32)) (hi2 : ¬ bb < 0 ∧ bb < (3 : Int32)) (ht1 : ([(.double (FP.l2d s0)), (.double (FP.l2d s1)), (.double (FP.l2d s2))] : List Value).getD b1.toNatClampNeg (.double (0 : UInt64)) = (.double (FP.l2d lo))) (ht2 : ([(.double (FP.l2d s0)), (.double (FP.l2d s1)), (.double (FP.l2d s2))] : List Value).getD bb.toNatClampNeg (.double (0 : UInt64)) = (.double (FP.l2d hi))) (hj1 : ¬ b1 < 0 ∧ b1 < (9 : Int32)) (hj2 : ¬ bb < 0 ∧ bb < (9 : Int32)) (hu1 : ([(.long s0), (.long s1), (.long s2), (.long s3), (.long s4), (.long s5), (.long s6), (.long s7), (.long s8)] : List Value).getD b1.toNatClampNeg (.long (0 : Int64)) = (.long lo)) (hu2 : ([(.long s0), (.long s1), (.long s2), (.long s3), (.long s4), (.long s5), (.long s6), (.long s7), (.long s8)] : List Value).getD bb.toNatClampNeg (.long (0 : Int64)) = (.long hi)) (hn79 : Jvm.Free.Fl.NoNaN64 (FP.dsub (FP.l2d hi) (FP.l2d lo))) (hn80 : Jvm.Free.Fl.NoNaN64 (FP.dmul fr (FP.dsub (FP.l2d hi) (FP.l2d lo)))) (hn81 : Jvm.Free.Fl.NoNaN64 (FP.dadd (FP.l2d lo) (FP.dmul fr (FP.dsub (FP.l2d hi) (FP.l2d lo)))))  :
    MetFree l x (head1 (Jvm.Cond.code x code maxLocals ret :: ws) room_1) (fun a U => a = #[(.int sel), (.int qr), (.int base), (.long gaps)] ∧ Z.Warmed39 U.vm ∧ U.heap = h0) (fun _ _ _ _ _ => True) (fun _ U o U' => ∃ v L, o = .returned v ∧ QL n0 v U'.heap L ∧ FrameEnd U o U' L 2 12) := by
  refine MetFree.of_bodySF (plainFor_of_name pn_com_example_bytegauge_bytegauge_stats_JsonTablePercentilePinLaw) hisR ?_
  intro p e s m args below meth c s₁ Bd hml0 hP hK
  obtain ⟨rfl, hZ, hh⟩ := hP
  have hx := Bd.exec
  have hby := Bd.bytes
  have hml : c.maxLocals = 18 := hml0
  have hown : s.vm.findClass "com/example/bytegauge/bytegauge/stats/JsonTablePercentilePinLaw" = some m.cls := findClass_of_methodNamed Bd.named
  have hnm := (name_of_methodNamed Bd.named Bd.method).1
  have X0 : Stand p l e room_1 s m #[(.int sel), (.int qr), (.int base), (.long gaps)] below meth c s₁ [] 0 0 := Stand.of_body Bd
  have e0 : s₁.heap = h0 := by rw [← hh, Bd.state]; rfl
  have N0 := Fr.nil n0
  have pre0 : ∀ t, Steps p.tables e below (s₁.setTop (mkF m 0 #[.val (.int sel), .val (.int qr), .val (.int base), .val (.long gaps), .second, .unset, .unset, .unset, .unset, .unset, .unset, .unset, .unset, .unset, .unset, .unset, .unset, .unset] [])) t → Steps p.tables e below (s₁.setTop (entryFrame m #[(.int sel), (.int qr), (.int base), (.long gaps)] maxLocals)) t := fun t k => castTop (ef_code m sel qr base gaps) k
  obtain ⟨TA, hA, LA, bA, kA, XA, eA, NA, SZA, g_bA, VA, stA⟩ := segA h0 n0 Z0 sel qr base gaps (1 : Int32) (3 : Int32) s0 s1 s2 s3 s4 s5 s6 s7 s8 X0 hx hZ hw hby hml hown e0 hs0 hs1 hs2 hs3 hs4 hs5 hs6 hs7 hs8
  obtain ⟨_, _, ⟨T1, L1, k1, n1⟩, -, X1, ⟨Lc1, hQ1, l1, y1, z1⟩, st1⟩ := Jvm.LawKit.callS XA hx (y := (⟨"com/example/bytegauge/bytegauge/stats/JsonTablePercentilePinLaw", "sortedOf", "(I[J)[D"⟩ : MethodName)) hown (mvT hZ (hw _ (List.mem_of_getElem? (i := 3) rfl))) (mvT hZ (hw _ (List.mem_of_getElem? (i := 4) rfl))) (mvT hZ (hw _ (List.mem_of_getElem? (i := 5) rfl))) (mvT hZ (hw _ (List.mem_of_getElem? (i := 6) rfl))) (by decide) (backOf (W := 0) (rmS3 l Z a0 hw [] bA kA s0 s1 s2 s3 s4 s5 s6 s7 s8 hA n0 SZA VA) hZ (hw _ (List.mem_of_getElem? (i := 6) rfl)) (hw _ (List.mem_of_getElem? (i := 5) rfl)) (by decide) (by decide)) (g := (mkF m 206 #[.val (.int sel), .val (.int qr), .val (.int base), .val (.long gaps), .second, .val (.int (1 : Int32)), .val (.int (3 : Int32)), .val (.ref bA), .unset, .unset, .unset, .unset, .unset, .unset, .unset, .unset, .unset, .unset] [(.ref bA), (.int (3 : Int32))])) rfl (by rw [hml]; rfl) (argsL := [(.int (3 : Int32)), (.ref bA)]) (rest := []) (lenOf pd__I_J__D rfl) rfl (by show 2 * 0 + _ ≤ _; exact Nat.le_of_eq rfl) (hb hby at_206) (fun _ _ => ⟨rfl, eA, (by decide : 1 + 1 ≤ _), (by decide : 9 + 3 ≤ _)⟩)
  dsimp only [Pt.U, Pt.locs, Pt.cells, Pt.slots] at X1 l1 y1 z1 st1 hQ1
  subst l1 y1 z1
  obtain ⟨d_1, kd1, rfl, N1q, g_d_1, sz_d_1, K1q, V1q⟩ := hQ1
  have c1_0 := VA.keep K1q List.not_mem_nil
  have SZ1 := Nat.le_trans SZA K1q.1
  have N1 := Fr.app NA N1q
  obtain ⟨_, _, ⟨T2, L2, k2, n2⟩, -, X2, ⟨Lc2, hQ2, l2, y2, z2⟩, st2⟩ := Jvm.LawKit.callS X1 hx (y := (⟨"com/example/bytegauge/bytegauge/stats/JsonTable", "percentile", "([DD)D"⟩ : MethodName)) hown (mvT hZ (hw _ (List.mem_of_getElem? (i := 9) rfl))) (mvT hZ (hw _ (List.mem_of_getElem? (i := 10) rfl))) (mvT hZ (hw _ (List.mem_of_getElem? (i := 11) rfl))) (mvT hZ (hw _ (List.mem_of_getElem? (i := 12) rfl))) (by decide) (backOf (W := 0) (rmPc3 l Z a0 hw [] d_1 kd1 s0 s1 s2 s3 s4 s5 s6 s7 s8 (own_pct (3 : Int32) q) (own_pos (3 : Int32) q) fr lo hi bb b1 T1.heap n0 SZ1 V1q hp1 hp2 rfl _ rfl _ rfl hcA hcB hbb hn58 hfr hb1 hi1 hi2 ht1 ht2 hn79 hn80 hn81) hZ (hw _ (List.mem_of_getElem? (i := 12) rfl)) (hw _ (List.mem_of_getElem? (i := 11) rfl)) (by decide) (by decide)) (g := (mkF m 248 #[.val (.int sel), .val (.int qr), .val (.int base), .val (.long gaps), .second, .val (.int (1 : Int32)), .val (.int (3 : Int32)), .val (.ref bA), .val (.ref d_1), .val (.int q), .val (.double (own_pct (3 : Int32) q)), .second, .unset, .unset, .unset, .unset, .unset, .unset] [(.double (own_pct (3 : Int32) q)), (.ref d_1)])) rfl (by rw [hml]; rfl) (argsL := [(.ref d_1), (.double (own_pct (3 : Int32) q))]) (rest := []) (lenOf pd___DD_D rfl) rfl (by show 2 * 0 + _ ≤ _; exact Nat.le_of_eq rfl) (hb hby at_248) (fun _ _ => ⟨rfl, rfl, (by decide : 2 + 0 ≤ _), (by decide : 12 + 0 ≤ _)⟩)
  dsimp only [Pt.U, Pt.locs, Pt.cells, Pt.slots] at X2 l2 y2 z2 st2 hQ2
  subst l2 y2 z2
  obtain ⟨rfl, N2q, eq2⟩ := hQ2
  have N2 := Fr.app N1 N2q
  obtain ⟨cl3, Ar3, -, S3, Nn3, H3, -⟩ := id c1_0
  have hin3 : ¬ (b1 < 0 ∨ cl3.slots.size ≤ (b1).toNatClampNeg) := inb_of S3 hj1
  have hat3 : cl3.slots[(b1).toNatClampNeg]? = some (.long lo) := H3.at hin3 hu1
  obtain ⟨cl4, Ar4, -, S4, Nn4, H4, -⟩ := id c1_0
  have hin4 : ¬ (bb < 0 ∨ cl4.slots.size ≤ (bb).toNatClampNeg) := inb_of S4 hj2
  have hat4 : cl4.slots[(bb).toNatClampNeg]? = some (.long hi) := H4.at hin4 hu2
  obtain ⟨fs, hr, hrun, hended, hW, hsame⟩ := X2.leave (v := some (.int (1 : Int32))) (fun h => by rw [Bd.returns] at h; cases h)
  refine ⟨_, _, pre0 _ ?_, hrun, hended, _, _, rfl, ?_, ⟨_, rfl⟩, hW, hsame.mono (by decide) (by decide)⟩
  · show Steps p.tables e below (s₁.setTop (mkF m 0 #[.val (.int sel), .val (.int qr), .val (.int base), .val (.long gaps), .second, .unset, .unset, .unset, .unset, .unset, .unset, .unset, .unset, .unset, .unset, .unset, .unset, .unset] [])) _
    refine XS.iloadN X0.here hx rfl (hb hby at_0) rfl ?_
    show Steps p.tables e below (s₁.setTop (mkF m 1 #[.val (.int sel), .val (.int qr), .val (.int base), .val (.long gaps), .second, .unset, .unset, .unset, .unset, .unset, .unset, .unset, .unset, .unset, .unset, .unset, .unset, .unset] [(.int sel)])) _
    refine X0.ldcInt hx hown (mvT hZ (hw _ (List.mem_of_getElem? (i := 0) rfl))) (g := (mkF m 1 #[.val (.int sel), .val (.int qr), .val (.int base), .val (.long gaps), .second, .unset, .unset, .unset, .unset, .unset, .unset, .unset, .unset, .unset, .unset, .unset, .unset, .unset] [(.int sel)])) rfl (hb hby at_1) _ ?_
    refine XS.iand X0.here hx rfl (hb hby at_3) rfl ?_
    refine XS.iconst X0.here hx rfl (hb hby at_4) ?_
    show Steps p.tables e below (s₁.setTop (mkF m 5 #[.val (.int sel), .val (.int qr), .val (.int base), .val (.long gaps), .second, .unset, .unset, .unset, .unset, .unset, .unset, .unset, .unset, .unset, .unset, .unset, .unset, .unset] [(.int (5 : Int32)), (.int (sel &&& (2147483647 : Int32)))])) _
    refine iremM X0 hx rfl (hb hby at_5) rfl (by decide) ?_
    show Steps p.tables e below (s₁.setTop (mkF m 6 #[.val (.int sel), .val (.int qr), .val (.int base), .val (.long gaps), .second, .unset, .unset, .unset, .unset, .unset, .unset, .unset, .unset, .unset, .unset, .unset, .unset, .unset] [(.int ((sel &&& (2147483647 : Int32)) % (5 : Int32)))])) _
    rw [show ((sel &&& (2147483647 : Int32)) % (5 : Int32)) = (1 : Int32) from hch]
    refine XS.istore X0.here hx rfl (hb hby at_6) rfl (l' := #[.val (.int sel), .val (.int qr), .val (.int base), .val (.long gaps), .second, .val (.int (1 : Int32)), .unset, .unset, .unset, .unset, .unset, .unset, .unset, .unset, .unset, .unset, .unset, .unset]) rfl ?_
    refine XS.iload X0.here hx rfl (hb hby at_8) rfl ?_
    show Steps p.tables e below (s₁.setTop (mkF m 10 #[.val (.int sel), .val (.int qr), .val (.int base), .val (.long gaps), .second, .val (.int (1 : Int32)), .unset, .unset, .unset, .unset, .unset, .unset, .unset, .unset, .unset, .unset, .unset, .unset] [(.int (1 : Int32))])) _
    refine XS.ifYes X0.here hx rfl (pc0 := 10) (pc' := 17) rfl (hb hby at_10) rfl ((if0 _ _).trans (feq (by decide : ¬ ((1 : Int32) = (0 : Int32)))).2) (by decide) (by decide) ?_
    refine XS.iload X0.here hx rfl (hb hby at_17) rfl ?_
    refine XS.iconst X0.here hx rfl (hb hby at_19) ?_
    show Steps p.tables e below (s₁.setTop (mkF m 20 #[.val (.int sel), .val (.int qr), .val (.int base), .val (.long gaps), .second, .val (.int (1 : Int32)), .unset, .unset, .unset, .unset, .unset, .unset, .unset, .unset, .unset, .unset, .unset, .unset] [(.int (1 : Int32)), (.int (1 : Int32))])) _
    refine XS.icmpNo X0.here hx rfl (hb hby at_20) rfl (teq (by decide : (1 : Int32) = (1 : Int32))).2 ?_
    refine XS.iconst X0.here hx rfl (hb hby at_23) ?_
    refine XS.goto X0.here hx rfl (pc0 := 24) (pc' := 50) rfl (hb hby at_24) (by decide) (by decide) ?_
    show Steps p.tables e below (s₁.setTop (mkF m 50 #[.val (.int sel), .val (.int qr), .val (.int base), .val (.long gaps), .second, .val (.int (1 : Int32)), .unset, .unset, .unset, .unset, .unset, .unset, .unset, .unset, .unset, .unset, .unset, .unset] [(.int (3 : Int32))])) _
    refine XS.istore X0.here hx rfl (hb hby at_50) rfl (l' := #[.val (.int sel), .val (.int qr), .val (.int base), .val (.long gaps), .second, .val (.int (1 : Int32)), .val (.int (3 : Int32)), .unset, .unset, .unset, .unset, .unset, .unset, .unset, .unset, .unset, .unset, .unset]) rfl ?_
    show Steps p.tables e below (s₁.setTop (mkF m 52 #[.val (.int sel), .val (.int qr), .val (.int base), .val (.long gaps), .second, .val (.int (1 : Int32)), .val (.int (3 : Int32)), .unset, .unset, .unset, .unset, .unset, .unset, .unset, .unset, .unset, .unset, .unset] [])) _
    refine stA _ ?_
    show Steps p.tables e below (TA.setTop (mkF m 202 #[.val (.int sel), .val (.int qr), .val (.int base), .val (.long gaps), .second, .val (.int (1 : Int32)), .val (.int (3 : Int32)), .val (.ref bA), .unset, .unset, .unset, .unset, .unset, .unset, .unset, .unset, .unset, .unset] [])) _
    refine XS.iload XA.here hx rfl (hb hby at_202) rfl ?_
    refine XS.aload XA.here hx rfl (hb hby at_204) rfl rfl ?_
    show Steps p.tables e below (TA.setTop (mkF m 206 #[.val (.int sel), .val (.int qr), .val (.int base), .val (.long gaps), .second, .val (.int (1 : Int32)), .val (.int (3 : Int32)), .val (.ref bA), .unset, .unset, .unset, .unset, .unset, .unset, .unset, .unset, .unset, .unset] [(.ref bA), (.int (3 : Int32))])) _
    refine st1 _ ?_
    refine XS.astore X1.here hx rfl (hb hby at_209) rfl rfl (l' := #[.val (.int sel), .val (.int qr), .val (.int base), .val (.long gaps), .second, .val (.int (1 : Int32)), .val (.int (3 : Int32)), .val (.ref bA), .val (.ref d_1), .unset, .unset, .unset, .unset, .unset, .unset, .unset, .unset, .unset]) rfl ?_
    refine XS.iloadN X1.here hx rfl (hb hby at_211) rfl ?_
    show Steps p.tables e below (T1.setTop (mkF m 212 #[.val (.int sel), .val (.int qr), .val (.int base), .val (.long gaps), .second, .val (.int (1 : Int32)), .val (.int (3 : Int32)), .val (.ref bA), .val (.ref d_1), .unset, .unset, .unset, .unset, .unset, .unset, .unset, .unset, .unset] [(.int qr)])) _
    refine X1.ldcInt hx hown (mvT hZ (hw _ (List.mem_of_getElem? (i := 0) rfl))) (g := (mkF m 212 #[.val (.int sel), .val (.int qr), .val (.int base), .val (.long gaps), .second, .val (.int (1 : Int32)), .val (.int (3 : Int32)), .val (.ref bA), .val (.ref d_1), .unset, .unset, .unset, .unset, .unset, .unset, .unset, .unset, .unset] [(.int qr)])) rfl (hb hby at_212) _ ?_
    refine XS.iand X1.here hx rfl (hb hby at_214) rfl ?_
    refine XS.bipush X1.here hx rfl (hb hby at_215) ?_
    show Steps p.tables e below (T1.setTop (mkF m 217 #[.val (.int sel), .val (.int qr), .val (.int base), .val (.long gaps), .second, .val (.int (1 : Int32)), .val (.int (3 : Int32)), .val (.ref bA), .val (.ref d_1), .unset, .unset, .unset, .unset, .unset, .unset, .unset, .unset, .unset] [(.int (8 : Int32)), (.int (qr &&& (2147483647 : Int32)))])) _
    refine XS.iload X1.here hx rfl (hb hby at_217) rfl ?_
    refine XS.imul X1.here hx rfl (hb hby at_219) rfl ?_
    refine XS.bipush X1.here hx rfl (hb hby at_220) ?_
    show Steps p.tables e below (T1.setTop (mkF m 222 #[.val (.int sel), .val (.int qr), .val (.int base), .val (.long gaps), .second, .val (.int (1 : Int32)), .val (.int (3 : Int32)), .val (.ref bA), .val (.ref d_1), .unset, .unset, .unset, .unset, .unset, .unset, .unset, .unset, .unset] [(.int (33 : Int32)), (.int ((8 : Int32) * (3 : Int32))), (.int (qr &&& (2147483647 : Int32)))])) _
    refine XS.iadd X1.here hx rfl (hb hby at_222) rfl ?_
    refine iremM X1 hx rfl (hb hby at_223) rfl (by decide) ?_
    refine XS.bipush X1.here hx rfl (hb hby at_224) ?_
    show Steps p.tables e below (T1.setTop (mkF m 226 #[.val (.int sel), .val (.int qr), .val (.int base), .val (.long gaps), .second, .val (.int (1 : Int32)), .val (.int (3 : Int32)), .val (.ref bA), .val (.ref d_1), .unset, .unset, .unset, .unset, .unset, .unset, .unset, .unset, .unset] [(.int (16 : Int32)), (.int ((qr &&& (2147483647 : Int32)) % (((8 : Int32) * (3 : Int32)) + (33 : Int32))))])) _
    refine XS.isub X1.here hx rfl (hb hby at_226) rfl ?_
    show Steps p.tables e below (T1.setTop (mkF m 227 #[.val (.int sel), .val (.int qr), .val (.int base), .val (.long gaps), .second, .val (.int (1 : Int32)), .val (.int (3 : Int32)), .val (.ref bA), .val (.ref d_1), .unset, .unset, .unset, .unset, .unset, .unset, .unset, .unset, .unset] [(.int (((qr &&& (2147483647 : Int32)) % (((8 : Int32) * (3 : Int32)) + (33 : Int32))) - (16 : Int32)))])) _
    rw [show (((qr &&& (2147483647 : Int32)) % (((8 : Int32) * (3 : Int32)) + (33 : Int32))) - (16 : Int32)) = q from hqq]
    refine XS.istore X1.here hx rfl (hb hby at_227) rfl (l' := #[.val (.int sel), .val (.int qr), .val (.int base), .val (.long gaps), .second, .val (.int (1 : Int32)), .val (.int (3 : Int32)), .val (.ref bA), .val (.ref d_1), .val (.int q), .unset, .unset, .unset, .unset, .unset, .unset, .unset, .unset]) rfl ?_
    show Steps p.tables e below (T1.setTop (mkF m 229 #[.val (.int sel), .val (.int qr), .val (.int base), .val (.long gaps), .second, .val (.int (1 : Int32)), .val (.int (3 : Int32)), .val (.ref bA), .val (.ref d_1), .val (.int q), .unset, .unset, .unset, .unset, .unset, .unset, .unset, .unset] [])) _
    refine X1.ldc2DoubleC hx hown (mvT hZ (hw _ (List.mem_of_getElem? (i := 8) rfl))) (g := (mkF m 229 #[.val (.int sel), .val (.int qr), .val (.int base), .val (.long gaps), .second, .val (.int (1 : Int32)), .val (.int (3 : Int32)), .val (.ref bA), .val (.ref d_1), .val (.int q), .unset, .unset, .unset, .unset, .unset, .unset, .unset, .unset] [])) rfl (hb hby at_229) _ ?_
    refine XS.iload X1.here hx rfl (hb hby at_232) rfl ?_
    refine XS.i2dS X1.here hx rfl (hb hby at_234) rfl (v := (FP.i2d q)) (rfl) ?_
    show Steps p.tables e below (T1.setTop (mkF m 235 #[.val (.int sel), .val (.int qr), .val (.int base), .val (.long gaps), .second, .val (.int (1 : Int32)), .val (.int (3 : Int32)), .val (.ref bA), .val (.ref d_1), .val (.int q), .unset, .unset, .unset, .unset, .unset, .unset, .unset, .unset] [(.double (FP.i2d q)), (.double (4623226492472524800 : UInt64))])) _
    refine XS.dmulS X1.here hx rfl (hb hby at_235) rfl hm1 (v := (own_m q)) (rfl) ?_
    refine XS.iload X1.here hx rfl (hb hby at_236) rfl ?_
    refine XS.iconst X1.here hx rfl (hb hby at_238) ?_
    show Steps p.tables e below (T1.setTop (mkF m 239 #[.val (.int sel), .val (.int qr), .val (.int base), .val (.long gaps), .second, .val (.int (1 : Int32)), .val (.int (3 : Int32)), .val (.ref bA), .val (.ref d_1), .val (.int q), .unset, .unset, .unset, .unset, .unset, .unset, .unset, .unset] [(.int (1 : Int32)), (.int (3 : Int32)), (.double (own_m q))])) _
    refine XS.iadd X1.here hx rfl (hb hby at_239) rfl ?_
    refine XS.i2dS X1.here hx rfl (hb hby at_240) rfl (v := (FP.i2d ((3 : Int32) + (1 : Int32)))) (rfl) ?_
    refine XS.ddivS X1.here hx rfl (hb hby at_241) rfl hm2 (v := (own_pct (3 : Int32) q)) (rfl) ?_
    show Steps p.tables e below (T1.setTop (mkF m 242 #[.val (.int sel), .val (.int qr), .val (.int base), .val (.long gaps), .second, .val (.int (1 : Int32)), .val (.int (3 : Int32)), .val (.ref bA), .val (.ref d_1), .val (.int q), .unset, .unset, .unset, .unset, .unset, .unset, .unset, .unset] [(.double (own_pct (3 : Int32) q))])) _
    refine XS.dstore X1.here hx rfl (hb hby at_242) rfl (l' := #[.val (.int sel), .val (.int qr), .val (.int base), .val (.long gaps), .second, .val (.int (1 : Int32)), .val (.int (3 : Int32)), .val (.ref bA), .val (.ref d_1), .val (.int q), .val (.double (own_pct (3 : Int32) q)), .second, .unset, .unset, .unset, .unset, .unset, .unset]) rfl ?_
    refine XS.aload X1.here hx rfl (hb hby at_244) rfl rfl ?_
    refine XS.dload X1.here hx rfl (hb hby at_246) rfl ?_
    show Steps p.tables e below (T1.setTop (mkF m 248 #[.val (.int sel), .val (.int qr), .val (.int base), .val (.long gaps), .second, .val (.int (1 : Int32)), .val (.int (3 : Int32)), .val (.ref bA), .val (.ref d_1), .val (.int q), .val (.double (own_pct (3 : Int32) q)), .second, .unset, .unset, .unset, .unset, .unset, .unset] [(.double (own_pct (3 : Int32) q)), (.ref d_1)])) _
    refine st2 _ ?_
    refine XS.dstore X2.here hx rfl (hb hby at_251) rfl (l' := #[.val (.int sel), .val (.int qr), .val (.int base), .val (.long gaps), .second, .val (.int (1 : Int32)), .val (.int (3 : Int32)), .val (.ref bA), .val (.ref d_1), .val (.int q), .val (.double (own_pct (3 : Int32) q)), .second, .val (.double (FP.dadd (FP.l2d lo) (FP.dmul fr (FP.dsub (FP.l2d hi) (FP.l2d lo))))), .second, .unset, .unset, .unset, .unset]) rfl ?_
    refine XS.iload X2.here hx rfl (hb hby at_253) rfl ?_
    show Steps p.tables e below (T2.setTop (mkF m 255 #[.val (.int sel), .val (.int qr), .val (.int base), .val (.long gaps), .second, .val (.int (1 : Int32)), .val (.int (3 : Int32)), .val (.ref bA), .val (.ref d_1), .val (.int q), .val (.double (own_pct (3 : Int32) q)), .second, .val (.double (FP.dadd (FP.l2d lo) (FP.dmul fr (FP.dsub (FP.l2d hi) (FP.l2d lo))))), .second, .unset, .unset, .unset, .unset] [(.int q)])) _
    refine XS.bipush X2.here hx rfl (hb hby at_255) ?_
    refine XS.icmpYes X2.here hx rfl (pc0 := 257) (pc' := 273) rfl (hb hby at_257) rfl (flt (hq8 : ¬ (q < (8 : Int32)))).2.1 (by decide) (by decide) ?_
    refine XS.iload X2.here hx rfl (hb hby at_273) rfl ?_
    show Steps p.tables e below (T2.setTop (mkF m 275 #[.val (.int sel), .val (.int qr), .val (.int base), .val (.long gaps), .second, .val (.int (1 : Int32)), .val (.int (3 : Int32)), .val (.ref bA), .val (.ref d_1), .val (.int q), .val (.double (own_pct (3 : Int32) q)), .second, .val (.double (FP.dadd (FP.l2d lo) (FP.dmul fr (FP.dsub (FP.l2d hi) (FP.l2d lo))))), .second, .unset, .unset, .unset, .unset] [(.int q)])) _
    refine XS.bipush X2.here hx rfl (hb hby at_275) ?_
    refine XS.iload X2.here hx rfl (hb hby at_277) rfl ?_
    refine XS.imul X2.here hx rfl (hb hby at_279) rfl ?_
    show Steps p.tables e below (T2.setTop (mkF m 280 #[.val (.int sel), .val (.int qr), .val (.int base), .val (.long gaps), .second, .val (.int (1 : Int32)), .val (.int (3 : Int32)), .val (.ref bA), .val (.ref d_1), .val (.int q), .val (.double (own_pct (3 : Int32) q)), .second, .val (.double (FP.dadd (FP.l2d lo) (FP.dmul fr (FP.dsub (FP.l2d hi) (FP.l2d lo))))), .second, .unset, .unset, .unset, .unset] [(.int ((8 : Int32) * (3 : Int32))), (.int q)])) _
    refine XS.icmpYes X2.here hx rfl (pc0 := 280) (pc' := 299) rfl (hb hby at_280) rfl (tlt (hq8n : q < ((8 : Int32) * (3 : Int32)))).1 (by decide) (by decide) ?_
    refine XS.iload X2.here hx rfl (hb hby at_299) rfl ?_
    refine XS.bipush X2.here hx rfl (hb hby at_301) ?_
    show Steps p.tables e below (T2.setTop (mkF m 303 #[.val (.int sel), .val (.int qr), .val (.int base), .val (.long gaps), .second, .val (.int (1 : Int32)), .val (.int (3 : Int32)), .val (.ref bA), .val (.ref d_1), .val (.int q), .val (.double (own_pct (3 : Int32) q)), .second, .val (.double (FP.dadd (FP.l2d lo) (FP.dmul fr (FP.dsub (FP.l2d hi) (FP.l2d lo))))), .second, .unset, .unset, .unset, .unset] [(.int (8 : Int32)), (.int q)])) _
    refine XS.idiv X2.here hx rfl (hb hby at_303) rfl (by decide) ?_
    show Steps p.tables e below (T2.setTop (mkF m 304 #[.val (.int sel), .val (.int qr), .val (.int base), .val (.long gaps), .second, .val (.int (1 : Int32)), .val (.int (3 : Int32)), .val (.ref bA), .val (.ref d_1), .val (.int q), .val (.double (own_pct (3 : Int32) q)), .second, .val (.double (FP.dadd (FP.l2d lo) (FP.dmul fr (FP.dsub (FP.l2d hi) (FP.l2d lo))))), .second, .unset, .unset, .unset, .unset] [(.int (q / (8 : Int32)))])) _
    rw [show (q / (8 : Int32)) = bb from hd1]
    refine XS.istore X2.here hx rfl (hb hby at_304) rfl (l' := #[.val (.int sel), .val (.int qr), .val (.int base), .val (.long gaps), .second, .val (.int (1 : Int32)), .val (.int (3 : Int32)), .val (.ref bA), .val (.ref d_1), .val (.int q), .val (.double (own_pct (3 : Int32) q)), .second, .val (.double (FP.dadd (FP.l2d lo) (FP.dmul fr (FP.dsub (FP.l2d hi) (FP.l2d lo))))), .second, .unset, .unset, .val (.int bb), .unset]) rfl ?_
    refine XS.iload X2.here hx rfl (hb hby at_306) rfl ?_
    show Steps p.tables e below (T2.setTop (mkF m 308 #[.val (.int sel), .val (.int qr), .val (.int base), .val (.long gaps), .second, .val (.int (1 : Int32)), .val (.int (3 : Int32)), .val (.ref bA), .val (.ref d_1), .val (.int q), .val (.double (own_pct (3 : Int32) q)), .second, .val (.double (FP.dadd (FP.l2d lo) (FP.dmul fr (FP.dsub (FP.l2d hi) (FP.l2d lo))))), .second, .unset, .unset, .val (.int bb), .unset] [(.int q)])) _
    refine XS.bipush X2.here hx rfl (hb hby at_308) ?_
    refine iremM X2 hx rfl (hb hby at_310) rfl (by decide) ?_
    show Steps p.tables e below (T2.setTop (mkF m 311 #[.val (.int sel), .val (.int qr), .val (.int base), .val (.long gaps), .second, .val (.int (1 : Int32)), .val (.int (3 : Int32)), .val (.ref bA), .val (.ref d_1), .val (.int q), .val (.double (own_pct (3 : Int32) q)), .second, .val (.double (FP.dadd (FP.l2d lo) (FP.dmul fr (FP.dsub (FP.l2d hi) (FP.l2d lo))))), .second, .unset, .unset, .val (.int bb), .unset] [(.int (q % (8 : Int32)))])) _
    rw [show (q % (8 : Int32)) = kk from hd2]
    refine XS.istore X2.here hx rfl (hb hby at_311) rfl (l' := #[.val (.int sel), .val (.int qr), .val (.int base), .val (.long gaps), .second, .val (.int (1 : Int32)), .val (.int (3 : Int32)), .val (.ref bA), .val (.ref d_1), .val (.int q), .val (.double (own_pct (3 : Int32) q)), .second, .val (.double (FP.dadd (FP.l2d lo) (FP.dmul fr (FP.dsub (FP.l2d hi) (FP.l2d lo))))), .second, .unset, .unset, .val (.int bb), .val (.int kk)]) rfl ?_
    show Steps p.tables e below (T2.setTop (mkF m 313 #[.val (.int sel), .val (.int qr), .val (.int base), .val (.long gaps), .second, .val (.int (1 : Int32)), .val (.int (3 : Int32)), .val (.ref bA), .val (.ref d_1), .val (.int q), .val (.double (own_pct (3 : Int32) q)), .second, .val (.double (FP.dadd (FP.l2d lo) (FP.dmul fr (FP.dsub (FP.l2d hi) (FP.l2d lo))))), .second, .unset, .unset, .val (.int bb), .val (.int kk)] [])) _
    refine XS.bipush X2.here hx rfl (hb hby at_313) ?_
    refine XS.iload X2.here hx rfl (hb hby at_315) rfl ?_
    refine XS.isub X2.here hx rfl (hb hby at_317) rfl ?_
    show Steps p.tables e below (T2.setTop (mkF m 318 #[.val (.int sel), .val (.int qr), .val (.int base), .val (.long gaps), .second, .val (.int (1 : Int32)), .val (.int (3 : Int32)), .val (.ref bA), .val (.ref d_1), .val (.int q), .val (.double (own_pct (3 : Int32) q)), .second, .val (.double (FP.dadd (FP.l2d lo) (FP.dmul fr (FP.dsub (FP.l2d hi) (FP.l2d lo))))), .second, .unset, .unset, .val (.int bb), .val (.int kk)] [(.int ((8 : Int32) - kk))])) _
    refine XS.i2l X2.here hx rfl (hb hby at_318) rfl ?_
    refine XS.aload X2.here hx rfl (hb hby at_319) rfl rfl ?_
    refine XS.iload X2.here hx rfl (hb hby at_321) rfl ?_
    show Steps p.tables e below (T2.setTop (mkF m 323 #[.val (.int sel), .val (.int qr), .val (.int base), .val (.long gaps), .second, .val (.int (1 : Int32)), .val (.int (3 : Int32)), .val (.ref bA), .val (.ref d_1), .val (.int q), .val (.double (own_pct (3 : Int32) q)), .second, .val (.double (FP.dadd (FP.l2d lo) (FP.dmul fr (FP.dsub (FP.l2d hi) (FP.l2d lo))))), .second, .unset, .unset, .val (.int bb), .val (.int kk)] [(.int bb), (.ref bA), (.long (((8 : Int32) - kk).toInt64))])) _
    refine XS.iconst X2.here hx rfl (hb hby at_323) ?_
    refine XS.isub X2.here hx rfl (hb hby at_324) rfl ?_
    show Steps p.tables e below (T2.setTop (mkF m 325 #[.val (.int sel), .val (.int qr), .val (.int base), .val (.long gaps), .second, .val (.int (1 : Int32)), .val (.int (3 : Int32)), .val (.ref bA), .val (.ref d_1), .val (.int q), .val (.double (own_pct (3 : Int32) q)), .second, .val (.double (FP.dadd (FP.l2d lo) (FP.dmul fr (FP.dsub (FP.l2d hi) (FP.l2d lo))))), .second, .unset, .unset, .val (.int bb), .val (.int kk)] [(.int (bb - (1 : Int32))), (.ref bA), (.long (((8 : Int32) - kk).toInt64))])) _
    rw [show (bb - (1 : Int32)) = b1 from hb1]
    show Steps p.tables e below (T2.setTop (mkF m 325 #[.val (.int sel), .val (.int qr), .val (.int base), .val (.long gaps), .second, .val (.int (1 : Int32)), .val (.int (3 : Int32)), .val (.ref bA), .val (.ref d_1), .val (.int q), .val (.double (own_pct (3 : Int32) q)), .second, .val (.double (FP.dadd (FP.l2d lo) (FP.dmul fr (FP.dsub (FP.l2d hi) (FP.l2d lo))))), .second, .unset, .unset, .val (.int bb), .val (.int kk)] [(.int b1), (.ref bA), (.long (((8 : Int32) - kk).toInt64))])) _
    refine X2.laload hx (j := b1) (v := (.long lo)) (by rw [eq2]; exact Ar3.1) (State.isArrayOf_alike hZ.alike Ar3.2.1) Ar3.2.2 hin3 hat3 (g := (mkF m 325 #[.val (.int sel), .val (.int qr), .val (.int base), .val (.long gaps), .second, .val (.int (1 : Int32)), .val (.int (3 : Int32)), .val (.ref bA), .val (.ref d_1), .val (.int q), .val (.double (own_pct (3 : Int32) q)), .second, .val (.double (FP.dadd (FP.l2d lo) (FP.dmul fr (FP.dsub (FP.l2d hi) (FP.l2d lo))))), .second, .unset, .unset, .val (.int bb), .val (.int kk)] [(.int b1), (.ref bA), (.long (((8 : Int32) - kk).toInt64))])) rfl rfl (hb hby at_325) _ ?_
    refine XS.lmul X2.here hx rfl (hb hby at_326) rfl ?_
    refine XS.iload X2.here hx rfl (hb hby at_327) rfl ?_
    show Steps p.tables e below (T2.setTop (mkF m 329 #[.val (.int sel), .val (.int qr), .val (.int base), .val (.long gaps), .second, .val (.int (1 : Int32)), .val (.int (3 : Int32)), .val (.ref bA), .val (.ref d_1), .val (.int q), .val (.double (own_pct (3 : Int32) q)), .second, .val (.double (FP.dadd (FP.l2d lo) (FP.dmul fr (FP.dsub (FP.l2d hi) (FP.l2d lo))))), .second, .unset, .unset, .val (.int bb), .val (.int kk)] [(.int kk), (.long ((((8 : Int32) - kk).toInt64) * lo))])) _
    refine XS.i2l X2.here hx rfl (hb hby at_329) rfl ?_
    refine XS.aload X2.here hx rfl (hb hby at_330) rfl rfl ?_
    refine XS.iload X2.here hx rfl (hb hby at_332) rfl ?_
    show Steps p.tables e below (T2.setTop (mkF m 334 #[.val (.int sel), .val (.int qr), .val (.int base), .val (.long gaps), .second, .val (.int (1 : Int32)), .val (.int (3 : Int32)), .val (.ref bA), .val (.ref d_1), .val (.int q), .val (.double (own_pct (3 : Int32) q)), .second, .val (.double (FP.dadd (FP.l2d lo) (FP.dmul fr (FP.dsub (FP.l2d hi) (FP.l2d lo))))), .second, .unset, .unset, .val (.int bb), .val (.int kk)] [(.int bb), (.ref bA), (.long (kk.toInt64)), (.long ((((8 : Int32) - kk).toInt64) * lo))])) _
    refine X2.laload hx (j := bb) (v := (.long hi)) (by rw [eq2]; exact Ar4.1) (State.isArrayOf_alike hZ.alike Ar4.2.1) Ar4.2.2 hin4 hat4 (g := (mkF m 334 #[.val (.int sel), .val (.int qr), .val (.int base), .val (.long gaps), .second, .val (.int (1 : Int32)), .val (.int (3 : Int32)), .val (.ref bA), .val (.ref d_1), .val (.int q), .val (.double (own_pct (3 : Int32) q)), .second, .val (.double (FP.dadd (FP.l2d lo) (FP.dmul fr (FP.dsub (FP.l2d hi) (FP.l2d lo))))), .second, .unset, .unset, .val (.int bb), .val (.int kk)] [(.int bb), (.ref bA), (.long (kk.toInt64)), (.long ((((8 : Int32) - kk).toInt64) * lo))])) rfl rfl (hb hby at_334) _ ?_
    refine XS.lmul X2.here hx rfl (hb hby at_335) rfl ?_
    refine XS.ladd X2.here hx rfl (hb hby at_336) rfl ?_
    show Steps p.tables e below (T2.setTop (mkF m 337 #[.val (.int sel), .val (.int qr), .val (.int base), .val (.long gaps), .second, .val (.int (1 : Int32)), .val (.int (3 : Int32)), .val (.ref bA), .val (.ref d_1), .val (.int q), .val (.double (own_pct (3 : Int32) q)), .second, .val (.double (FP.dadd (FP.l2d lo) (FP.dmul fr (FP.dsub (FP.l2d hi) (FP.l2d lo))))), .second, .unset, .unset, .val (.int bb), .val (.int kk)] [(.long (((((8 : Int32) - kk).toInt64) * lo) + ((kk.toInt64) * hi)))])) _
    refine XS.lstore X2.here hx rfl (hb hby at_337) rfl (l' := #[.val (.int sel), .val (.int qr), .val (.int base), .val (.long gaps), .second, .val (.int (1 : Int32)), .val (.int (3 : Int32)), .val (.ref bA), .val (.ref d_1), .val (.int q), .val (.double (own_pct (3 : Int32) q)), .second, .val (.double (FP.dadd (FP.l2d lo) (FP.dmul fr (FP.dsub (FP.l2d hi) (FP.l2d lo))))), .second, .val (.long (((((8 : Int32) - kk).toInt64) * lo) + ((kk.toInt64) * hi))), .second, .val (.int bb), .val (.int kk)]) rfl ?_
    refine XS.dload X2.here hx rfl (hb hby at_339) rfl ?_
    show Steps p.tables e below (T2.setTop (mkF m 341 #[.val (.int sel), .val (.int qr), .val (.int base), .val (.long gaps), .second, .val (.int (1 : Int32)), .val (.int (3 : Int32)), .val (.ref bA), .val (.ref d_1), .val (.int q), .val (.double (own_pct (3 : Int32) q)), .second, .val (.double (FP.dadd (FP.l2d lo) (FP.dmul fr (FP.dsub (FP.l2d hi) (FP.l2d lo))))), .second, .val (.long (((((8 : Int32) - kk).toInt64) * lo) + ((kk.toInt64) * hi))), .second, .val (.int bb), .val (.int kk)] [(.double (FP.dadd (FP.l2d lo) (FP.dmul fr (FP.dsub (FP.l2d hi) (FP.l2d lo)))))])) _
    refine X2.ldc2DoubleC hx hown (mvT hZ (hw _ (List.mem_of_getElem? (i := 15) rfl))) (g := (mkF m 341 #[.val (.int sel), .val (.int qr), .val (.int base), .val (.long gaps), .second, .val (.int (1 : Int32)), .val (.int (3 : Int32)), .val (.ref bA), .val (.ref d_1), .val (.int q), .val (.double (own_pct (3 : Int32) q)), .second, .val (.double (FP.dadd (FP.l2d lo) (FP.dmul fr (FP.dsub (FP.l2d hi) (FP.l2d lo))))), .second, .val (.long (((((8 : Int32) - kk).toInt64) * lo) + ((kk.toInt64) * hi))), .second, .val (.int bb), .val (.int kk)] [(.double (FP.dadd (FP.l2d lo) (FP.dmul fr (FP.dsub (FP.l2d hi) (FP.l2d lo)))))])) rfl (hb hby at_341) _ ?_
    refine XS.dmulS X2.here hx rfl (hb hby at_344) rfl hn344 (v := (FP.dmul (FP.dadd (FP.l2d lo) (FP.dmul fr (FP.dsub (FP.l2d hi) (FP.l2d lo)))) (4620693217682128896 : UInt64))) (rfl) ?_
    refine XS.lload X2.here hx rfl (hb hby at_345) rfl ?_
    show Steps p.tables e below (T2.setTop (mkF m 347 #[.val (.int sel), .val (.int qr), .val (.int base), .val (.long gaps), .second, .val (.int (1 : Int32)), .val (.int (3 : Int32)), .val (.ref bA), .val (.ref d_1), .val (.int q), .val (.double (own_pct (3 : Int32) q)), .second, .val (.double (FP.dadd (FP.l2d lo) (FP.dmul fr (FP.dsub (FP.l2d hi) (FP.l2d lo))))), .second, .val (.long (((((8 : Int32) - kk).toInt64) * lo) + ((kk.toInt64) * hi))), .second, .val (.int bb), .val (.int kk)] [(.long (((((8 : Int32) - kk).toInt64) * lo) + ((kk.toInt64) * hi))), (.double (FP.dmul (FP.dadd (FP.l2d lo) (FP.dmul fr (FP.dsub (FP.l2d hi) (FP.l2d lo)))) (4620693217682128896 : UInt64)))])) _
    refine XS.l2dS X2.here hx rfl (hb hby at_347) rfl (v := (FP.l2d (((((8 : Int32) - kk).toInt64) * lo) + ((kk.toInt64) * hi)))) (rfl) ?_
    refine XS.dcmpS X2.here hx rfl (hb hby at_348) rfl (v := (0 : Int32)) (hv348) ?_
    refine XS.ifNo X2.here hx rfl (hb hby at_349) rfl ((if0 _ _).trans (teq (by decide : (0 : Int32) = (0 : Int32))).2) ?_
    show Steps p.tables e below (T2.setTop (mkF m 352 #[.val (.int sel), .val (.int qr), .val (.int base), .val (.long gaps), .second, .val (.int (1 : Int32)), .val (.int (3 : Int32)), .val (.ref bA), .val (.ref d_1), .val (.int q), .val (.double (own_pct (3 : Int32) q)), .second, .val (.double (FP.dadd (FP.l2d lo) (FP.dmul fr (FP.dsub (FP.l2d hi) (FP.l2d lo))))), .second, .val (.long (((((8 : Int32) - kk).toInt64) * lo) + ((kk.toInt64) * hi))), .second, .val (.int bb), .val (.int kk)] [])) _
    refine XS.iconst X2.here hx rfl (hb hby at_352) ?_
    refine XS.goto X2.here hx rfl (pc0 := 353) (pc' := 357) rfl (hb hby at_353) (by decide) (by decide) ?_
    show Steps p.tables e below (T2.setTop (mkF m 357 #[.val (.int sel), .val (.int qr), .val (.int base), .val (.long gaps), .second, .val (.int (1 : Int32)), .val (.int (3 : Int32)), .val (.ref bA), .val (.ref d_1), .val (.int q), .val (.double (own_pct (3 : Int32) q)), .second, .val (.double (FP.dadd (FP.l2d lo) (FP.dmul fr (FP.dsub (FP.l2d hi) (FP.l2d lo))))), .second, .val (.long (((((8 : Int32) - kk).toInt64) * lo) + ((kk.toInt64) * hi))), .second, .val (.int bb), .val (.int kk)] [(.int (1 : Int32))])) _
    exact retN X2 hx (t := .boolean) Bd.returns (by simp) (hb hby at_357) hr
  · show QL n0 _ T2.heap _
    rw [eq2]
    exact ⟨rfl, N2⟩
set_option maxRecDepth 65536 in
set_option maxHeartbeats 40000000 in
theorem rm0a4 (l : Launch) (Z : State) (a0 : Array Value) (hw : ∀ d ∈ tables_1, d.before a0 Z = true) (ws : List Jvm.Cond) (sel qr base : Int32) (gaps : Int64) (s0 s1 s2 s3 s4 s5 s6 s7 s8 : Int64) (q : Int32) (h0 : Heap) (n0 : Nat) (Z0 : n0 ≤ h0.size) (hch : ((sel &&& (2147483647 : Int32)) % (5 : Int32)) = (2 : Int32)) (hs0 : (base.toInt64) = s0) (hs1 : s0 + (gaps &&& (255 : Int64)) = s1) (hs2 : s1 + (((gaps.toUInt64 >>> ((8 : Int32) &&& 0x3f).toInt64.toUInt64).toInt64) &&& (255 : Int64)) = s2) (hs3 : s2 + (((gaps.toUInt64 >>> ((16 : Int32) &&& 0x3f).toInt64.toUInt64).toInt64) &&& (255 : Int64)) = s3) (hs4 : s3 + (((gaps.toUInt64 >>> ((24 : Int32) &&& 0x3f).toInt64.toUInt64).toInt64) &&& (255 : Int64)) = s4) (hs5 : s4 + (((gaps.toUInt64 >>> ((32 : Int32) &&& 0x3f).toInt64.toUInt64).toInt64) &&& (255 : Int64)) = s5) (hs6 : s5 + (((gaps.toUInt64 >>> ((40 : Int32) &&& 0x3f).toInt64.toUInt64).toInt64) &&& (255 : Int64)) = s6) (hs7 : s6 + (((gaps.toUInt64 >>> ((48 : Int32) &&& 0x3f).toInt64.toUInt64).toInt64) &&& (255 : Int64)) = s7) (hs8 : s7 + (((gaps.toUInt64 >>> ((56 : Int32) &&& 0x3f).toInt64.toUInt64).toInt64) &&& (255 : Int64)) = s8) (hqq : (((qr &&& (2147483647 : Int32)) % (((8 : Int32) * (4 : Int32)) + (33 : Int32))) - (16 : Int32)) = q) (hm1 : Jvm.Free.Fl.NoNaN64 (own_m q)) (hm2 : Jvm.Free.Fl.NoNaN64 (own_pct (4 : Int32) q)) (hp1 : Jvm.Free.Fl.NoNaN64 (own_pm (4 : Int32) q)) (hp2 : Jvm.Free.Fl.NoNaN64 (own_pos (4 : Int32) q)) (hn344 : Jvm.Free.Fl.NoNaN64 (FP.dmul (FP.l2d s0) (4620693217682128896 : UInt64))) (hv348 : cmpValue (FP.dcmp (FP.dmul (FP.l2d s0) (4620693217682128896 : UInt64)) (FP.l2d ((8 : Int64) * s0))) .l = (0 : Int32)) (hq8 : q < (8 : Int32)) (hcA : own_cA (4 : Int32) q < (0 : Int32))   :
    MetFree l x (head1 (Jvm.Cond.code x code maxLocals ret :: ws) room_1) (fun a U => a = #[(.int sel), (.int qr), (.int base), (.long gaps)] ∧ Z.Warmed39 U.vm ∧ U.heap = h0) (fun _ _ _ _ _ => True) (fun _ U o U' => ∃ v L, o = .returned v ∧ QL n0 v U'.heap L ∧ FrameEnd U o U' L 2 13) := by
  refine MetFree.of_bodySF (plainFor_of_name pn_com_example_bytegauge_bytegauge_stats_JsonTablePercentilePinLaw) hisR ?_
  intro p e s m args below meth c s₁ Bd hml0 hP hK
  obtain ⟨rfl, hZ, hh⟩ := hP
  have hx := Bd.exec
  have hby := Bd.bytes
  have hml : c.maxLocals = 18 := hml0
  have hown : s.vm.findClass "com/example/bytegauge/bytegauge/stats/JsonTablePercentilePinLaw" = some m.cls := findClass_of_methodNamed Bd.named
  have hnm := (name_of_methodNamed Bd.named Bd.method).1
  have X0 : Stand p l e room_1 s m #[(.int sel), (.int qr), (.int base), (.long gaps)] below meth c s₁ [] 0 0 := Stand.of_body Bd
  have e0 : s₁.heap = h0 := by rw [← hh, Bd.state]; rfl
  have N0 := Fr.nil n0
  have pre0 : ∀ t, Steps p.tables e below (s₁.setTop (mkF m 0 #[.val (.int sel), .val (.int qr), .val (.int base), .val (.long gaps), .second, .unset, .unset, .unset, .unset, .unset, .unset, .unset, .unset, .unset, .unset, .unset, .unset, .unset] [])) t → Steps p.tables e below (s₁.setTop (entryFrame m #[(.int sel), (.int qr), (.int base), (.long gaps)] maxLocals)) t := fun t k => castTop (ef_code m sel qr base gaps) k
  obtain ⟨TA, hA, LA, bA, kA, XA, eA, NA, SZA, g_bA, VA, stA⟩ := segA h0 n0 Z0 sel qr base gaps (2 : Int32) (4 : Int32) s0 s1 s2 s3 s4 s5 s6 s7 s8 X0 hx hZ hw hby hml hown e0 hs0 hs1 hs2 hs3 hs4 hs5 hs6 hs7 hs8
  obtain ⟨_, _, ⟨T1, L1, k1, n1⟩, -, X1, ⟨Lc1, hQ1, l1, y1, z1⟩, st1⟩ := Jvm.LawKit.callS XA hx (y := (⟨"com/example/bytegauge/bytegauge/stats/JsonTablePercentilePinLaw", "sortedOf", "(I[J)[D"⟩ : MethodName)) hown (mvT hZ (hw _ (List.mem_of_getElem? (i := 3) rfl))) (mvT hZ (hw _ (List.mem_of_getElem? (i := 4) rfl))) (mvT hZ (hw _ (List.mem_of_getElem? (i := 5) rfl))) (mvT hZ (hw _ (List.mem_of_getElem? (i := 6) rfl))) (by decide) (backOf (W := 0) (rmS4 l Z a0 hw [] bA kA s0 s1 s2 s3 s4 s5 s6 s7 s8 hA n0 SZA VA) hZ (hw _ (List.mem_of_getElem? (i := 6) rfl)) (hw _ (List.mem_of_getElem? (i := 5) rfl)) (by decide) (by decide)) (g := (mkF m 206 #[.val (.int sel), .val (.int qr), .val (.int base), .val (.long gaps), .second, .val (.int (2 : Int32)), .val (.int (4 : Int32)), .val (.ref bA), .unset, .unset, .unset, .unset, .unset, .unset, .unset, .unset, .unset, .unset] [(.ref bA), (.int (4 : Int32))])) rfl (by rw [hml]; rfl) (argsL := [(.int (4 : Int32)), (.ref bA)]) (rest := []) (lenOf pd__I_J__D rfl) rfl (by show 2 * 0 + _ ≤ _; exact Nat.le_of_eq rfl) (hb hby at_206) (fun _ _ => ⟨rfl, eA, (by decide : 1 + 1 ≤ _), (by decide : 9 + 4 ≤ _)⟩)
  dsimp only [Pt.U, Pt.locs, Pt.cells, Pt.slots] at X1 l1 y1 z1 st1 hQ1
  subst l1 y1 z1
  obtain ⟨d_1, kd1, rfl, N1q, g_d_1, sz_d_1, K1q, V1q⟩ := hQ1
  have c1_0 := VA.keep K1q List.not_mem_nil
  have SZ1 := Nat.le_trans SZA K1q.1
  have N1 := Fr.app NA N1q
  obtain ⟨_, _, ⟨T2, L2, k2, n2⟩, -, X2, ⟨Lc2, hQ2, l2, y2, z2⟩, st2⟩ := Jvm.LawKit.callS X1 hx (y := (⟨"com/example/bytegauge/bytegauge/stats/JsonTable", "percentile", "([DD)D"⟩ : MethodName)) hown (mvT hZ (hw _ (List.mem_of_getElem? (i := 9) rfl))) (mvT hZ (hw _ (List.mem_of_getElem? (i := 10) rfl))) (mvT hZ (hw _ (List.mem_of_getElem? (i := 11) rfl))) (mvT hZ (hw _ (List.mem_of_getElem? (i := 12) rfl))) (by decide) (backOf (W := 0) (rmPa4 l Z a0 hw [] d_1 kd1 s0 s1 s2 s3 s4 s5 s6 s7 s8 (own_pct (4 : Int32) q) (own_pos (4 : Int32) q) T1.heap n0 SZ1 V1q hp1 hp2 rfl _ rfl hcA) hZ (hw _ (List.mem_of_getElem? (i := 12) rfl)) (hw _ (List.mem_of_getElem? (i := 11) rfl)) (by decide) (by decide)) (g := (mkF m 248 #[.val (.int sel), .val (.int qr), .val (.int base), .val (.long gaps), .second, .val (.int (2 : Int32)), .val (.int (4 : Int32)), .val (.ref bA), .val (.ref d_1), .val (.int q), .val (.double (own_pct (4 : Int32) q)), .second, .unset, .unset, .unset, .unset, .unset, .unset] [(.double (own_pct (4 : Int32) q)), (.ref d_1)])) rfl (by rw [hml]; rfl) (argsL := [(.ref d_1), (.double (own_pct (4 : Int32) q))]) (rest := []) (lenOf pd___DD_D rfl) rfl (by show 2 * 0 + _ ≤ _; exact Nat.le_of_eq rfl) (hb hby at_248) (fun _ _ => ⟨rfl, rfl, (by decide : 2 + 0 ≤ _), (by decide : 13 + 0 ≤ _)⟩)
  dsimp only [Pt.U, Pt.locs, Pt.cells, Pt.slots] at X2 l2 y2 z2 st2 hQ2
  subst l2 y2 z2
  obtain ⟨rfl, N2q, eq2⟩ := hQ2
  have N2 := Fr.app N1 N2q
  obtain ⟨cl3, Ar3, -, S3, Nn3, H3, -⟩ := id c1_0
  have hin3 : ¬ ((0 : Int32) < 0 ∨ cl3.slots.size ≤ ((0 : Int32)).toNatClampNeg) := inb_of S3 ⟨by decide, by decide⟩
  have hat3 : cl3.slots[((0 : Int32)).toNatClampNeg]? = some (.long s0) := H3.at hin3 rfl
  obtain ⟨fs, hr, hrun, hended, hW, hsame⟩ := X2.leave (v := some (.int (1 : Int32))) (fun h => by rw [Bd.returns] at h; cases h)
  refine ⟨_, _, pre0 _ ?_, hrun, hended, _, _, rfl, ?_, ⟨_, rfl⟩, hW, hsame.mono (by decide) (by decide)⟩
  · show Steps p.tables e below (s₁.setTop (mkF m 0 #[.val (.int sel), .val (.int qr), .val (.int base), .val (.long gaps), .second, .unset, .unset, .unset, .unset, .unset, .unset, .unset, .unset, .unset, .unset, .unset, .unset, .unset] [])) _
    refine XS.iloadN X0.here hx rfl (hb hby at_0) rfl ?_
    show Steps p.tables e below (s₁.setTop (mkF m 1 #[.val (.int sel), .val (.int qr), .val (.int base), .val (.long gaps), .second, .unset, .unset, .unset, .unset, .unset, .unset, .unset, .unset, .unset, .unset, .unset, .unset, .unset] [(.int sel)])) _
    refine X0.ldcInt hx hown (mvT hZ (hw _ (List.mem_of_getElem? (i := 0) rfl))) (g := (mkF m 1 #[.val (.int sel), .val (.int qr), .val (.int base), .val (.long gaps), .second, .unset, .unset, .unset, .unset, .unset, .unset, .unset, .unset, .unset, .unset, .unset, .unset, .unset] [(.int sel)])) rfl (hb hby at_1) _ ?_
    refine XS.iand X0.here hx rfl (hb hby at_3) rfl ?_
    refine XS.iconst X0.here hx rfl (hb hby at_4) ?_
    show Steps p.tables e below (s₁.setTop (mkF m 5 #[.val (.int sel), .val (.int qr), .val (.int base), .val (.long gaps), .second, .unset, .unset, .unset, .unset, .unset, .unset, .unset, .unset, .unset, .unset, .unset, .unset, .unset] [(.int (5 : Int32)), (.int (sel &&& (2147483647 : Int32)))])) _
    refine iremM X0 hx rfl (hb hby at_5) rfl (by decide) ?_
    show Steps p.tables e below (s₁.setTop (mkF m 6 #[.val (.int sel), .val (.int qr), .val (.int base), .val (.long gaps), .second, .unset, .unset, .unset, .unset, .unset, .unset, .unset, .unset, .unset, .unset, .unset, .unset, .unset] [(.int ((sel &&& (2147483647 : Int32)) % (5 : Int32)))])) _
    rw [show ((sel &&& (2147483647 : Int32)) % (5 : Int32)) = (2 : Int32) from hch]
    refine XS.istore X0.here hx rfl (hb hby at_6) rfl (l' := #[.val (.int sel), .val (.int qr), .val (.int base), .val (.long gaps), .second, .val (.int (2 : Int32)), .unset, .unset, .unset, .unset, .unset, .unset, .unset, .unset, .unset, .unset, .unset, .unset]) rfl ?_
    refine XS.iload X0.here hx rfl (hb hby at_8) rfl ?_
    show Steps p.tables e below (s₁.setTop (mkF m 10 #[.val (.int sel), .val (.int qr), .val (.int base), .val (.long gaps), .second, .val (.int (2 : Int32)), .unset, .unset, .unset, .unset, .unset, .unset, .unset, .unset, .unset, .unset, .unset, .unset] [(.int (2 : Int32))])) _
    refine XS.ifYes X0.here hx rfl (pc0 := 10) (pc' := 17) rfl (hb hby at_10) rfl ((if0 _ _).trans (feq (by decide : ¬ ((2 : Int32) = (0 : Int32)))).2) (by decide) (by decide) ?_
    refine XS.iload X0.here hx rfl (hb hby at_17) rfl ?_
    refine XS.iconst X0.here hx rfl (hb hby at_19) ?_
    show Steps p.tables e below (s₁.setTop (mkF m 20 #[.val (.int sel), .val (.int qr), .val (.int base), .val (.long gaps), .second, .val (.int (2 : Int32)), .unset, .unset, .unset, .unset, .unset, .unset, .unset, .unset, .unset, .unset, .unset, .unset] [(.int (1 : Int32)), (.int (2 : Int32))])) _
    refine XS.icmpYes X0.here hx rfl (pc0 := 20) (pc' := 27) rfl (hb hby at_20) rfl (feq (by decide : ¬ ((2 : Int32) = (1 : Int32)))).2 (by decide) (by decide) ?_
    refine XS.iload X0.here hx rfl (hb hby at_27) rfl ?_
    refine XS.iconst X0.here hx rfl (hb hby at_29) ?_
    show Steps p.tables e below (s₁.setTop (mkF m 30 #[.val (.int sel), .val (.int qr), .val (.int base), .val (.long gaps), .second, .val (.int (2 : Int32)), .unset, .unset, .unset, .unset, .unset, .unset, .unset, .unset, .unset, .unset, .unset, .unset] [(.int (2 : Int32)), (.int (2 : Int32))])) _
    refine XS.icmpNo X0.here hx rfl (hb hby at_30) rfl (teq (by decide : (2 : Int32) = (2 : Int32))).2 ?_
    refine XS.iconst X0.here hx rfl (hb hby at_33) ?_
    refine XS.goto X0.here hx rfl (pc0 := 34) (pc' := 50) rfl (hb hby at_34) (by decide) (by decide) ?_
    show Steps p.tables e below (s₁.setTop (mkF m 50 #[.val (.int sel), .val (.int qr), .val (.int base), .val (.long gaps), .second, .val (.int (2 : Int32)), .unset, .unset, .unset, .unset, .unset, .unset, .unset, .unset, .unset, .unset, .unset, .unset] [(.int (4 : Int32))])) _
    refine XS.istore X0.here hx rfl (hb hby at_50) rfl (l' := #[.val (.int sel), .val (.int qr), .val (.int base), .val (.long gaps), .second, .val (.int (2 : Int32)), .val (.int (4 : Int32)), .unset, .unset, .unset, .unset, .unset, .unset, .unset, .unset, .unset, .unset, .unset]) rfl ?_
    show Steps p.tables e below (s₁.setTop (mkF m 52 #[.val (.int sel), .val (.int qr), .val (.int base), .val (.long gaps), .second, .val (.int (2 : Int32)), .val (.int (4 : Int32)), .unset, .unset, .unset, .unset, .unset, .unset, .unset, .unset, .unset, .unset, .unset] [])) _
    refine stA _ ?_
    show Steps p.tables e below (TA.setTop (mkF m 202 #[.val (.int sel), .val (.int qr), .val (.int base), .val (.long gaps), .second, .val (.int (2 : Int32)), .val (.int (4 : Int32)), .val (.ref bA), .unset, .unset, .unset, .unset, .unset, .unset, .unset, .unset, .unset, .unset] [])) _
    refine XS.iload XA.here hx rfl (hb hby at_202) rfl ?_
    refine XS.aload XA.here hx rfl (hb hby at_204) rfl rfl ?_
    show Steps p.tables e below (TA.setTop (mkF m 206 #[.val (.int sel), .val (.int qr), .val (.int base), .val (.long gaps), .second, .val (.int (2 : Int32)), .val (.int (4 : Int32)), .val (.ref bA), .unset, .unset, .unset, .unset, .unset, .unset, .unset, .unset, .unset, .unset] [(.ref bA), (.int (4 : Int32))])) _
    refine st1 _ ?_
    refine XS.astore X1.here hx rfl (hb hby at_209) rfl rfl (l' := #[.val (.int sel), .val (.int qr), .val (.int base), .val (.long gaps), .second, .val (.int (2 : Int32)), .val (.int (4 : Int32)), .val (.ref bA), .val (.ref d_1), .unset, .unset, .unset, .unset, .unset, .unset, .unset, .unset, .unset]) rfl ?_
    refine XS.iloadN X1.here hx rfl (hb hby at_211) rfl ?_
    show Steps p.tables e below (T1.setTop (mkF m 212 #[.val (.int sel), .val (.int qr), .val (.int base), .val (.long gaps), .second, .val (.int (2 : Int32)), .val (.int (4 : Int32)), .val (.ref bA), .val (.ref d_1), .unset, .unset, .unset, .unset, .unset, .unset, .unset, .unset, .unset] [(.int qr)])) _
    refine X1.ldcInt hx hown (mvT hZ (hw _ (List.mem_of_getElem? (i := 0) rfl))) (g := (mkF m 212 #[.val (.int sel), .val (.int qr), .val (.int base), .val (.long gaps), .second, .val (.int (2 : Int32)), .val (.int (4 : Int32)), .val (.ref bA), .val (.ref d_1), .unset, .unset, .unset, .unset, .unset, .unset, .unset, .unset, .unset] [(.int qr)])) rfl (hb hby at_212) _ ?_
    refine XS.iand X1.here hx rfl (hb hby at_214) rfl ?_
    refine XS.bipush X1.here hx rfl (hb hby at_215) ?_
    show Steps p.tables e below (T1.setTop (mkF m 217 #[.val (.int sel), .val (.int qr), .val (.int base), .val (.long gaps), .second, .val (.int (2 : Int32)), .val (.int (4 : Int32)), .val (.ref bA), .val (.ref d_1), .unset, .unset, .unset, .unset, .unset, .unset, .unset, .unset, .unset] [(.int (8 : Int32)), (.int (qr &&& (2147483647 : Int32)))])) _
    refine XS.iload X1.here hx rfl (hb hby at_217) rfl ?_
    refine XS.imul X1.here hx rfl (hb hby at_219) rfl ?_
    refine XS.bipush X1.here hx rfl (hb hby at_220) ?_
    show Steps p.tables e below (T1.setTop (mkF m 222 #[.val (.int sel), .val (.int qr), .val (.int base), .val (.long gaps), .second, .val (.int (2 : Int32)), .val (.int (4 : Int32)), .val (.ref bA), .val (.ref d_1), .unset, .unset, .unset, .unset, .unset, .unset, .unset, .unset, .unset] [(.int (33 : Int32)), (.int ((8 : Int32) * (4 : Int32))), (.int (qr &&& (2147483647 : Int32)))])) _
    refine XS.iadd X1.here hx rfl (hb hby at_222) rfl ?_
    refine iremM X1 hx rfl (hb hby at_223) rfl (by decide) ?_
    refine XS.bipush X1.here hx rfl (hb hby at_224) ?_
    show Steps p.tables e below (T1.setTop (mkF m 226 #[.val (.int sel), .val (.int qr), .val (.int base), .val (.long gaps), .second, .val (.int (2 : Int32)), .val (.int (4 : Int32)), .val (.ref bA), .val (.ref d_1), .unset, .unset, .unset, .unset, .unset, .unset, .unset, .unset, .unset] [(.int (16 : Int32)), (.int ((qr &&& (2147483647 : Int32)) % (((8 : Int32) * (4 : Int32)) + (33 : Int32))))])) _
    refine XS.isub X1.here hx rfl (hb hby at_226) rfl ?_
    show Steps p.tables e below (T1.setTop (mkF m 227 #[.val (.int sel), .val (.int qr), .val (.int base), .val (.long gaps), .second, .val (.int (2 : Int32)), .val (.int (4 : Int32)), .val (.ref bA), .val (.ref d_1), .unset, .unset, .unset, .unset, .unset, .unset, .unset, .unset, .unset] [(.int (((qr &&& (2147483647 : Int32)) % (((8 : Int32) * (4 : Int32)) + (33 : Int32))) - (16 : Int32)))])) _
    rw [show (((qr &&& (2147483647 : Int32)) % (((8 : Int32) * (4 : Int32)) + (33 : Int32))) - (16 : Int32)) = q from hqq]
    refine XS.istore X1.here hx rfl (hb hby at_227) rfl (l' := #[.val (.int sel), .val (.int qr), .val (.int base), .val (.long gaps), .second, .val (.int (2 : Int32)), .val (.int (4 : Int32)), .val (.ref bA), .val (.ref d_1), .val (.int q), .unset, .unset, .unset, .unset, .unset, .unset, .unset, .unset]) rfl ?_
    show Steps p.tables e below (T1.setTop (mkF m 229 #[.val (.int sel), .val (.int qr), .val (.int base), .val (.long gaps), .second, .val (.int (2 : Int32)), .val (.int (4 : Int32)), .val (.ref bA), .val (.ref d_1), .val (.int q), .unset, .unset, .unset, .unset, .unset, .unset, .unset, .unset] [])) _
    refine X1.ldc2DoubleC hx hown (mvT hZ (hw _ (List.mem_of_getElem? (i := 8) rfl))) (g := (mkF m 229 #[.val (.int sel), .val (.int qr), .val (.int base), .val (.long gaps), .second, .val (.int (2 : Int32)), .val (.int (4 : Int32)), .val (.ref bA), .val (.ref d_1), .val (.int q), .unset, .unset, .unset, .unset, .unset, .unset, .unset, .unset] [])) rfl (hb hby at_229) _ ?_
    refine XS.iload X1.here hx rfl (hb hby at_232) rfl ?_
    refine XS.i2dS X1.here hx rfl (hb hby at_234) rfl (v := (FP.i2d q)) (rfl) ?_
    show Steps p.tables e below (T1.setTop (mkF m 235 #[.val (.int sel), .val (.int qr), .val (.int base), .val (.long gaps), .second, .val (.int (2 : Int32)), .val (.int (4 : Int32)), .val (.ref bA), .val (.ref d_1), .val (.int q), .unset, .unset, .unset, .unset, .unset, .unset, .unset, .unset] [(.double (FP.i2d q)), (.double (4623226492472524800 : UInt64))])) _
    refine XS.dmulS X1.here hx rfl (hb hby at_235) rfl hm1 (v := (own_m q)) (rfl) ?_
    refine XS.iload X1.here hx rfl (hb hby at_236) rfl ?_
    refine XS.iconst X1.here hx rfl (hb hby at_238) ?_
    show Steps p.tables e below (T1.setTop (mkF m 239 #[.val (.int sel), .val (.int qr), .val (.int base), .val (.long gaps), .second, .val (.int (2 : Int32)), .val (.int (4 : Int32)), .val (.ref bA), .val (.ref d_1), .val (.int q), .unset, .unset, .unset, .unset, .unset, .unset, .unset, .unset] [(.int (1 : Int32)), (.int (4 : Int32)), (.double (own_m q))])) _
    refine XS.iadd X1.here hx rfl (hb hby at_239) rfl ?_
    refine XS.i2dS X1.here hx rfl (hb hby at_240) rfl (v := (FP.i2d ((4 : Int32) + (1 : Int32)))) (rfl) ?_
    refine XS.ddivS X1.here hx rfl (hb hby at_241) rfl hm2 (v := (own_pct (4 : Int32) q)) (rfl) ?_
    show Steps p.tables e below (T1.setTop (mkF m 242 #[.val (.int sel), .val (.int qr), .val (.int base), .val (.long gaps), .second, .val (.int (2 : Int32)), .val (.int (4 : Int32)), .val (.ref bA), .val (.ref d_1), .val (.int q), .unset, .unset, .unset, .unset, .unset, .unset, .unset, .unset] [(.double (own_pct (4 : Int32) q))])) _
    refine XS.dstore X1.here hx rfl (hb hby at_242) rfl (l' := #[.val (.int sel), .val (.int qr), .val (.int base), .val (.long gaps), .second, .val (.int (2 : Int32)), .val (.int (4 : Int32)), .val (.ref bA), .val (.ref d_1), .val (.int q), .val (.double (own_pct (4 : Int32) q)), .second, .unset, .unset, .unset, .unset, .unset, .unset]) rfl ?_
    refine XS.aload X1.here hx rfl (hb hby at_244) rfl rfl ?_
    refine XS.dload X1.here hx rfl (hb hby at_246) rfl ?_
    show Steps p.tables e below (T1.setTop (mkF m 248 #[.val (.int sel), .val (.int qr), .val (.int base), .val (.long gaps), .second, .val (.int (2 : Int32)), .val (.int (4 : Int32)), .val (.ref bA), .val (.ref d_1), .val (.int q), .val (.double (own_pct (4 : Int32) q)), .second, .unset, .unset, .unset, .unset, .unset, .unset] [(.double (own_pct (4 : Int32) q)), (.ref d_1)])) _
    refine st2 _ ?_
    refine XS.dstore X2.here hx rfl (hb hby at_251) rfl (l' := #[.val (.int sel), .val (.int qr), .val (.int base), .val (.long gaps), .second, .val (.int (2 : Int32)), .val (.int (4 : Int32)), .val (.ref bA), .val (.ref d_1), .val (.int q), .val (.double (own_pct (4 : Int32) q)), .second, .val (.double (FP.l2d s0)), .second, .unset, .unset, .unset, .unset]) rfl ?_
    refine XS.iload X2.here hx rfl (hb hby at_253) rfl ?_
    show Steps p.tables e below (T2.setTop (mkF m 255 #[.val (.int sel), .val (.int qr), .val (.int base), .val (.long gaps), .second, .val (.int (2 : Int32)), .val (.int (4 : Int32)), .val (.ref bA), .val (.ref d_1), .val (.int q), .val (.double (own_pct (4 : Int32) q)), .second, .val (.double (FP.l2d s0)), .second, .unset, .unset, .unset, .unset] [(.int q)])) _
    refine XS.bipush X2.here hx rfl (hb hby at_255) ?_
    refine XS.icmpNo X2.here hx rfl (hb hby at_257) rfl (tlt (hq8 : q < (8 : Int32))).2.1 ?_
    show Steps p.tables e below (T2.setTop (mkF m 260 #[.val (.int sel), .val (.int qr), .val (.int base), .val (.long gaps), .second, .val (.int (2 : Int32)), .val (.int (4 : Int32)), .val (.ref bA), .val (.ref d_1), .val (.int q), .val (.double (own_pct (4 : Int32) q)), .second, .val (.double (FP.l2d s0)), .second, .unset, .unset, .unset, .unset] [])) _
    refine X2.ldc2Long hx hown (mvT hZ (hw _ (List.mem_of_getElem? (i := 14) rfl))) (g := (mkF m 260 #[.val (.int sel), .val (.int qr), .val (.int base), .val (.long gaps), .second, .val (.int (2 : Int32)), .val (.int (4 : Int32)), .val (.ref bA), .val (.ref d_1), .val (.int q), .val (.double (own_pct (4 : Int32) q)), .second, .val (.double (FP.l2d s0)), .second, .unset, .unset, .unset, .unset] [])) rfl (hb hby at_260) _ ?_
    refine XS.aload X2.here hx rfl (hb hby at_263) rfl rfl ?_
    refine XS.iconst X2.here hx rfl (hb hby at_265) ?_
    show Steps p.tables e below (T2.setTop (mkF m 266 #[.val (.int sel), .val (.int qr), .val (.int base), .val (.long gaps), .second, .val (.int (2 : Int32)), .val (.int (4 : Int32)), .val (.ref bA), .val (.ref d_1), .val (.int q), .val (.double (own_pct (4 : Int32) q)), .second, .val (.double (FP.l2d s0)), .second, .unset, .unset, .unset, .unset] [(.int (0 : Int32)), (.ref bA), (.long (8 : Int64))])) _
    refine X2.laload hx (j := (0 : Int32)) (v := (.long s0)) (by rw [eq2]; exact Ar3.1) (State.isArrayOf_alike hZ.alike Ar3.2.1) Ar3.2.2 hin3 hat3 (g := (mkF m 266 #[.val (.int sel), .val (.int qr), .val (.int base), .val (.long gaps), .second, .val (.int (2 : Int32)), .val (.int (4 : Int32)), .val (.ref bA), .val (.ref d_1), .val (.int q), .val (.double (own_pct (4 : Int32) q)), .second, .val (.double (FP.l2d s0)), .second, .unset, .unset, .unset, .unset] [(.int (0 : Int32)), (.ref bA), (.long (8 : Int64))])) rfl rfl (hb hby at_266) _ ?_
    refine XS.lmul X2.here hx rfl (hb hby at_267) rfl ?_
    refine XS.lstore X2.here hx rfl (hb hby at_268) rfl (l' := #[.val (.int sel), .val (.int qr), .val (.int base), .val (.long gaps), .second, .val (.int (2 : Int32)), .val (.int (4 : Int32)), .val (.ref bA), .val (.ref d_1), .val (.int q), .val (.double (own_pct (4 : Int32) q)), .second, .val (.double (FP.l2d s0)), .second, .val (.long ((8 : Int64) * s0)), .second, .unset, .unset]) rfl ?_
    show Steps p.tables e below (T2.setTop (mkF m 270 #[.val (.int sel), .val (.int qr), .val (.int base), .val (.long gaps), .second, .val (.int (2 : Int32)), .val (.int (4 : Int32)), .val (.ref bA), .val (.ref d_1), .val (.int q), .val (.double (own_pct (4 : Int32) q)), .second, .val (.double (FP.l2d s0)), .second, .val (.long ((8 : Int64) * s0)), .second, .unset, .unset] [])) _
    refine XS.goto X2.here hx rfl (pc0 := 270) (pc' := 339) rfl (hb hby at_270) (by decide) (by decide) ?_
    refine XS.dload X2.here hx rfl (hb hby at_339) rfl ?_
    show Steps p.tables e below (T2.setTop (mkF m 341 #[.val (.int sel), .val (.int qr), .val (.int base), .val (.long gaps), .second, .val (.int (2 : Int32)), .val (.int (4 : Int32)), .val (.ref bA), .val (.ref d_1), .val (.int q), .val (.double (own_pct (4 : Int32) q)), .second, .val (.double (FP.l2d s0)), .second, .val (.long ((8 : Int64) * s0)), .second, .unset, .unset] [(.double (FP.l2d s0))])) _
    refine X2.ldc2DoubleC hx hown (mvT hZ (hw _ (List.mem_of_getElem? (i := 15) rfl))) (g := (mkF m 341 #[.val (.int sel), .val (.int qr), .val (.int base), .val (.long gaps), .second, .val (.int (2 : Int32)), .val (.int (4 : Int32)), .val (.ref bA), .val (.ref d_1), .val (.int q), .val (.double (own_pct (4 : Int32) q)), .second, .val (.double (FP.l2d s0)), .second, .val (.long ((8 : Int64) * s0)), .second, .unset, .unset] [(.double (FP.l2d s0))])) rfl (hb hby at_341) _ ?_
    refine XS.dmulS X2.here hx rfl (hb hby at_344) rfl hn344 (v := (FP.dmul (FP.l2d s0) (4620693217682128896 : UInt64))) (rfl) ?_
    refine XS.lload X2.here hx rfl (hb hby at_345) rfl ?_
    show Steps p.tables e below (T2.setTop (mkF m 347 #[.val (.int sel), .val (.int qr), .val (.int base), .val (.long gaps), .second, .val (.int (2 : Int32)), .val (.int (4 : Int32)), .val (.ref bA), .val (.ref d_1), .val (.int q), .val (.double (own_pct (4 : Int32) q)), .second, .val (.double (FP.l2d s0)), .second, .val (.long ((8 : Int64) * s0)), .second, .unset, .unset] [(.long ((8 : Int64) * s0)), (.double (FP.dmul (FP.l2d s0) (4620693217682128896 : UInt64)))])) _
    refine XS.l2dS X2.here hx rfl (hb hby at_347) rfl (v := (FP.l2d ((8 : Int64) * s0))) (rfl) ?_
    refine XS.dcmpS X2.here hx rfl (hb hby at_348) rfl (v := (0 : Int32)) (hv348) ?_
    refine XS.ifNo X2.here hx rfl (hb hby at_349) rfl ((if0 _ _).trans (teq (by decide : (0 : Int32) = (0 : Int32))).2) ?_
    show Steps p.tables e below (T2.setTop (mkF m 352 #[.val (.int sel), .val (.int qr), .val (.int base), .val (.long gaps), .second, .val (.int (2 : Int32)), .val (.int (4 : Int32)), .val (.ref bA), .val (.ref d_1), .val (.int q), .val (.double (own_pct (4 : Int32) q)), .second, .val (.double (FP.l2d s0)), .second, .val (.long ((8 : Int64) * s0)), .second, .unset, .unset] [])) _
    refine XS.iconst X2.here hx rfl (hb hby at_352) ?_
    refine XS.goto X2.here hx rfl (pc0 := 353) (pc' := 357) rfl (hb hby at_353) (by decide) (by decide) ?_
    show Steps p.tables e below (T2.setTop (mkF m 357 #[.val (.int sel), .val (.int qr), .val (.int base), .val (.long gaps), .second, .val (.int (2 : Int32)), .val (.int (4 : Int32)), .val (.ref bA), .val (.ref d_1), .val (.int q), .val (.double (own_pct (4 : Int32) q)), .second, .val (.double (FP.l2d s0)), .second, .val (.long ((8 : Int64) * s0)), .second, .unset, .unset] [(.int (1 : Int32))])) _
    exact retN X2 hx (t := .boolean) Bd.returns (by simp) (hb hby at_357) hr
  · show QL n0 _ T2.heap _
    rw [eq2]
    exact ⟨rfl, N2⟩
set_option maxRecDepth 65536 in
set_option maxHeartbeats 40000000 in
theorem rm0b4 (l : Launch) (Z : State) (a0 : Array Value) (hw : ∀ d ∈ tables_1, d.before a0 Z = true) (ws : List Jvm.Cond) (sel qr base : Int32) (gaps : Int64) (s0 s1 s2 s3 s4 s5 s6 s7 s8 : Int64) (q : Int32) (h0 : Heap) (n0 : Nat) (Z0 : n0 ≤ h0.size) (hch : ((sel &&& (2147483647 : Int32)) % (5 : Int32)) = (2 : Int32)) (hs0 : (base.toInt64) = s0) (hs1 : s0 + (gaps &&& (255 : Int64)) = s1) (hs2 : s1 + (((gaps.toUInt64 >>> ((8 : Int32) &&& 0x3f).toInt64.toUInt64).toInt64) &&& (255 : Int64)) = s2) (hs3 : s2 + (((gaps.toUInt64 >>> ((16 : Int32) &&& 0x3f).toInt64.toUInt64).toInt64) &&& (255 : Int64)) = s3) (hs4 : s3 + (((gaps.toUInt64 >>> ((24 : Int32) &&& 0x3f).toInt64.toUInt64).toInt64) &&& (255 : Int64)) = s4) (hs5 : s4 + (((gaps.toUInt64 >>> ((32 : Int32) &&& 0x3f).toInt64.toUInt64).toInt64) &&& (255 : Int64)) = s5) (hs6 : s5 + (((gaps.toUInt64 >>> ((40 : Int32) &&& 0x3f).toInt64.toUInt64).toInt64) &&& (255 : Int64)) = s6) (hs7 : s6 + (((gaps.toUInt64 >>> ((48 : Int32) &&& 0x3f).toInt64.toUInt64).toInt64) &&& (255 : Int64)) = s7) (hs8 : s7 + (((gaps.toUInt64 >>> ((56 : Int32) &&& 0x3f).toInt64.toUInt64).toInt64) &&& (255 : Int64)) = s8) (hqq : (((qr &&& (2147483647 : Int32)) % (((8 : Int32) * (4 : Int32)) + (33 : Int32))) - (16 : Int32)) = q) (hm1 : Jvm.Free.Fl.NoNaN64 (own_m q)) (hm2 : Jvm.Free.Fl.NoNaN64 (own_pct (4 : Int32) q)) (hp1 : Jvm.Free.Fl.NoNaN64 (own_pm (4 : Int32) q)) (hp2 : Jvm.Free.Fl.NoNaN64 (own_pos (4 : Int32) q)) (hn344 : Jvm.Free.Fl.NoNaN64 (FP.dmul (FP.l2d s3) (4620693217682128896 : UInt64))) (hv348 : cmpValue (FP.dcmp (FP.dmul (FP.l2d s3) (4620693217682128896 : UInt64)) (FP.l2d ((8 : Int64) * s3))) .l = (0 : Int32)) (hq8 : ¬ (q < (8 : Int32))) (hcA : ¬ own_cA (4 : Int32) q < (0 : Int32)) (hq8n : ¬ (q < ((8 : Int32) * (4 : Int32)))) (hcB : ¬ own_cB (4 : Int32) q < (0 : Int32))   :
    MetFree l x (head1 (Jvm.Cond.code x code maxLocals ret :: ws) room_1) (fun a U => a = #[(.int sel), (.int qr), (.int base), (.long gaps)] ∧ Z.Warmed39 U.vm ∧ U.heap = h0) (fun _ _ _ _ _ => True) (fun _ U o U' => ∃ v L, o = .returned v ∧ QL n0 v U'.heap L ∧ FrameEnd U o U' L 2 13) := by
  refine MetFree.of_bodySF (plainFor_of_name pn_com_example_bytegauge_bytegauge_stats_JsonTablePercentilePinLaw) hisR ?_
  intro p e s m args below meth c s₁ Bd hml0 hP hK
  obtain ⟨rfl, hZ, hh⟩ := hP
  have hx := Bd.exec
  have hby := Bd.bytes
  have hml : c.maxLocals = 18 := hml0
  have hown : s.vm.findClass "com/example/bytegauge/bytegauge/stats/JsonTablePercentilePinLaw" = some m.cls := findClass_of_methodNamed Bd.named
  have hnm := (name_of_methodNamed Bd.named Bd.method).1
  have X0 : Stand p l e room_1 s m #[(.int sel), (.int qr), (.int base), (.long gaps)] below meth c s₁ [] 0 0 := Stand.of_body Bd
  have e0 : s₁.heap = h0 := by rw [← hh, Bd.state]; rfl
  have N0 := Fr.nil n0
  have pre0 : ∀ t, Steps p.tables e below (s₁.setTop (mkF m 0 #[.val (.int sel), .val (.int qr), .val (.int base), .val (.long gaps), .second, .unset, .unset, .unset, .unset, .unset, .unset, .unset, .unset, .unset, .unset, .unset, .unset, .unset] [])) t → Steps p.tables e below (s₁.setTop (entryFrame m #[(.int sel), (.int qr), (.int base), (.long gaps)] maxLocals)) t := fun t k => castTop (ef_code m sel qr base gaps) k
  obtain ⟨TA, hA, LA, bA, kA, XA, eA, NA, SZA, g_bA, VA, stA⟩ := segA h0 n0 Z0 sel qr base gaps (2 : Int32) (4 : Int32) s0 s1 s2 s3 s4 s5 s6 s7 s8 X0 hx hZ hw hby hml hown e0 hs0 hs1 hs2 hs3 hs4 hs5 hs6 hs7 hs8
  obtain ⟨_, _, ⟨T1, L1, k1, n1⟩, -, X1, ⟨Lc1, hQ1, l1, y1, z1⟩, st1⟩ := Jvm.LawKit.callS XA hx (y := (⟨"com/example/bytegauge/bytegauge/stats/JsonTablePercentilePinLaw", "sortedOf", "(I[J)[D"⟩ : MethodName)) hown (mvT hZ (hw _ (List.mem_of_getElem? (i := 3) rfl))) (mvT hZ (hw _ (List.mem_of_getElem? (i := 4) rfl))) (mvT hZ (hw _ (List.mem_of_getElem? (i := 5) rfl))) (mvT hZ (hw _ (List.mem_of_getElem? (i := 6) rfl))) (by decide) (backOf (W := 0) (rmS4 l Z a0 hw [] bA kA s0 s1 s2 s3 s4 s5 s6 s7 s8 hA n0 SZA VA) hZ (hw _ (List.mem_of_getElem? (i := 6) rfl)) (hw _ (List.mem_of_getElem? (i := 5) rfl)) (by decide) (by decide)) (g := (mkF m 206 #[.val (.int sel), .val (.int qr), .val (.int base), .val (.long gaps), .second, .val (.int (2 : Int32)), .val (.int (4 : Int32)), .val (.ref bA), .unset, .unset, .unset, .unset, .unset, .unset, .unset, .unset, .unset, .unset] [(.ref bA), (.int (4 : Int32))])) rfl (by rw [hml]; rfl) (argsL := [(.int (4 : Int32)), (.ref bA)]) (rest := []) (lenOf pd__I_J__D rfl) rfl (by show 2 * 0 + _ ≤ _; exact Nat.le_of_eq rfl) (hb hby at_206) (fun _ _ => ⟨rfl, eA, (by decide : 1 + 1 ≤ _), (by decide : 9 + 4 ≤ _)⟩)
  dsimp only [Pt.U, Pt.locs, Pt.cells, Pt.slots] at X1 l1 y1 z1 st1 hQ1
  subst l1 y1 z1
  obtain ⟨d_1, kd1, rfl, N1q, g_d_1, sz_d_1, K1q, V1q⟩ := hQ1
  have c1_0 := VA.keep K1q List.not_mem_nil
  have SZ1 := Nat.le_trans SZA K1q.1
  have N1 := Fr.app NA N1q
  obtain ⟨_, _, ⟨T2, L2, k2, n2⟩, -, X2, ⟨Lc2, hQ2, l2, y2, z2⟩, st2⟩ := Jvm.LawKit.callS X1 hx (y := (⟨"com/example/bytegauge/bytegauge/stats/JsonTable", "percentile", "([DD)D"⟩ : MethodName)) hown (mvT hZ (hw _ (List.mem_of_getElem? (i := 9) rfl))) (mvT hZ (hw _ (List.mem_of_getElem? (i := 10) rfl))) (mvT hZ (hw _ (List.mem_of_getElem? (i := 11) rfl))) (mvT hZ (hw _ (List.mem_of_getElem? (i := 12) rfl))) (by decide) (backOf (W := 0) (rmPb4 l Z a0 hw [] d_1 kd1 s0 s1 s2 s3 s4 s5 s6 s7 s8 (own_pct (4 : Int32) q) (own_pos (4 : Int32) q) T1.heap n0 SZ1 V1q hp1 hp2 rfl _ rfl _ rfl hcA hcB) hZ (hw _ (List.mem_of_getElem? (i := 12) rfl)) (hw _ (List.mem_of_getElem? (i := 11) rfl)) (by decide) (by decide)) (g := (mkF m 248 #[.val (.int sel), .val (.int qr), .val (.int base), .val (.long gaps), .second, .val (.int (2 : Int32)), .val (.int (4 : Int32)), .val (.ref bA), .val (.ref d_1), .val (.int q), .val (.double (own_pct (4 : Int32) q)), .second, .unset, .unset, .unset, .unset, .unset, .unset] [(.double (own_pct (4 : Int32) q)), (.ref d_1)])) rfl (by rw [hml]; rfl) (argsL := [(.ref d_1), (.double (own_pct (4 : Int32) q))]) (rest := []) (lenOf pd___DD_D rfl) rfl (by show 2 * 0 + _ ≤ _; exact Nat.le_of_eq rfl) (hb hby at_248) (fun _ _ => ⟨rfl, rfl, (by decide : 2 + 0 ≤ _), (by decide : 13 + 0 ≤ _)⟩)
  dsimp only [Pt.U, Pt.locs, Pt.cells, Pt.slots] at X2 l2 y2 z2 st2 hQ2
  subst l2 y2 z2
  obtain ⟨rfl, N2q, eq2⟩ := hQ2
  have N2 := Fr.app N1 N2q
  obtain ⟨cl3, Ar3, -, S3, Nn3, H3, -⟩ := id c1_0
  have hin3 : ¬ ((3 : Int32) < 0 ∨ cl3.slots.size ≤ ((3 : Int32)).toNatClampNeg) := inb_of S3 ⟨by decide, by decide⟩
  have hat3 : cl3.slots[((3 : Int32)).toNatClampNeg]? = some (.long s3) := H3.at hin3 rfl
  obtain ⟨fs, hr, hrun, hended, hW, hsame⟩ := X2.leave (v := some (.int (1 : Int32))) (fun h => by rw [Bd.returns] at h; cases h)
  refine ⟨_, _, pre0 _ ?_, hrun, hended, _, _, rfl, ?_, ⟨_, rfl⟩, hW, hsame.mono (by decide) (by decide)⟩
  · show Steps p.tables e below (s₁.setTop (mkF m 0 #[.val (.int sel), .val (.int qr), .val (.int base), .val (.long gaps), .second, .unset, .unset, .unset, .unset, .unset, .unset, .unset, .unset, .unset, .unset, .unset, .unset, .unset] [])) _
    refine XS.iloadN X0.here hx rfl (hb hby at_0) rfl ?_
    show Steps p.tables e below (s₁.setTop (mkF m 1 #[.val (.int sel), .val (.int qr), .val (.int base), .val (.long gaps), .second, .unset, .unset, .unset, .unset, .unset, .unset, .unset, .unset, .unset, .unset, .unset, .unset, .unset] [(.int sel)])) _
    refine X0.ldcInt hx hown (mvT hZ (hw _ (List.mem_of_getElem? (i := 0) rfl))) (g := (mkF m 1 #[.val (.int sel), .val (.int qr), .val (.int base), .val (.long gaps), .second, .unset, .unset, .unset, .unset, .unset, .unset, .unset, .unset, .unset, .unset, .unset, .unset, .unset] [(.int sel)])) rfl (hb hby at_1) _ ?_
    refine XS.iand X0.here hx rfl (hb hby at_3) rfl ?_
    refine XS.iconst X0.here hx rfl (hb hby at_4) ?_
    show Steps p.tables e below (s₁.setTop (mkF m 5 #[.val (.int sel), .val (.int qr), .val (.int base), .val (.long gaps), .second, .unset, .unset, .unset, .unset, .unset, .unset, .unset, .unset, .unset, .unset, .unset, .unset, .unset] [(.int (5 : Int32)), (.int (sel &&& (2147483647 : Int32)))])) _
    refine iremM X0 hx rfl (hb hby at_5) rfl (by decide) ?_
    show Steps p.tables e below (s₁.setTop (mkF m 6 #[.val (.int sel), .val (.int qr), .val (.int base), .val (.long gaps), .second, .unset, .unset, .unset, .unset, .unset, .unset, .unset, .unset, .unset, .unset, .unset, .unset, .unset] [(.int ((sel &&& (2147483647 : Int32)) % (5 : Int32)))])) _
    rw [show ((sel &&& (2147483647 : Int32)) % (5 : Int32)) = (2 : Int32) from hch]
    refine XS.istore X0.here hx rfl (hb hby at_6) rfl (l' := #[.val (.int sel), .val (.int qr), .val (.int base), .val (.long gaps), .second, .val (.int (2 : Int32)), .unset, .unset, .unset, .unset, .unset, .unset, .unset, .unset, .unset, .unset, .unset, .unset]) rfl ?_
    refine XS.iload X0.here hx rfl (hb hby at_8) rfl ?_
    show Steps p.tables e below (s₁.setTop (mkF m 10 #[.val (.int sel), .val (.int qr), .val (.int base), .val (.long gaps), .second, .val (.int (2 : Int32)), .unset, .unset, .unset, .unset, .unset, .unset, .unset, .unset, .unset, .unset, .unset, .unset] [(.int (2 : Int32))])) _
    refine XS.ifYes X0.here hx rfl (pc0 := 10) (pc' := 17) rfl (hb hby at_10) rfl ((if0 _ _).trans (feq (by decide : ¬ ((2 : Int32) = (0 : Int32)))).2) (by decide) (by decide) ?_
    refine XS.iload X0.here hx rfl (hb hby at_17) rfl ?_
    refine XS.iconst X0.here hx rfl (hb hby at_19) ?_
    show Steps p.tables e below (s₁.setTop (mkF m 20 #[.val (.int sel), .val (.int qr), .val (.int base), .val (.long gaps), .second, .val (.int (2 : Int32)), .unset, .unset, .unset, .unset, .unset, .unset, .unset, .unset, .unset, .unset, .unset, .unset] [(.int (1 : Int32)), (.int (2 : Int32))])) _
    refine XS.icmpYes X0.here hx rfl (pc0 := 20) (pc' := 27) rfl (hb hby at_20) rfl (feq (by decide : ¬ ((2 : Int32) = (1 : Int32)))).2 (by decide) (by decide) ?_
    refine XS.iload X0.here hx rfl (hb hby at_27) rfl ?_
    refine XS.iconst X0.here hx rfl (hb hby at_29) ?_
    show Steps p.tables e below (s₁.setTop (mkF m 30 #[.val (.int sel), .val (.int qr), .val (.int base), .val (.long gaps), .second, .val (.int (2 : Int32)), .unset, .unset, .unset, .unset, .unset, .unset, .unset, .unset, .unset, .unset, .unset, .unset] [(.int (2 : Int32)), (.int (2 : Int32))])) _
    refine XS.icmpNo X0.here hx rfl (hb hby at_30) rfl (teq (by decide : (2 : Int32) = (2 : Int32))).2 ?_
    refine XS.iconst X0.here hx rfl (hb hby at_33) ?_
    refine XS.goto X0.here hx rfl (pc0 := 34) (pc' := 50) rfl (hb hby at_34) (by decide) (by decide) ?_
    show Steps p.tables e below (s₁.setTop (mkF m 50 #[.val (.int sel), .val (.int qr), .val (.int base), .val (.long gaps), .second, .val (.int (2 : Int32)), .unset, .unset, .unset, .unset, .unset, .unset, .unset, .unset, .unset, .unset, .unset, .unset] [(.int (4 : Int32))])) _
    refine XS.istore X0.here hx rfl (hb hby at_50) rfl (l' := #[.val (.int sel), .val (.int qr), .val (.int base), .val (.long gaps), .second, .val (.int (2 : Int32)), .val (.int (4 : Int32)), .unset, .unset, .unset, .unset, .unset, .unset, .unset, .unset, .unset, .unset, .unset]) rfl ?_
    show Steps p.tables e below (s₁.setTop (mkF m 52 #[.val (.int sel), .val (.int qr), .val (.int base), .val (.long gaps), .second, .val (.int (2 : Int32)), .val (.int (4 : Int32)), .unset, .unset, .unset, .unset, .unset, .unset, .unset, .unset, .unset, .unset, .unset] [])) _
    refine stA _ ?_
    show Steps p.tables e below (TA.setTop (mkF m 202 #[.val (.int sel), .val (.int qr), .val (.int base), .val (.long gaps), .second, .val (.int (2 : Int32)), .val (.int (4 : Int32)), .val (.ref bA), .unset, .unset, .unset, .unset, .unset, .unset, .unset, .unset, .unset, .unset] [])) _
    refine XS.iload XA.here hx rfl (hb hby at_202) rfl ?_
    refine XS.aload XA.here hx rfl (hb hby at_204) rfl rfl ?_
    show Steps p.tables e below (TA.setTop (mkF m 206 #[.val (.int sel), .val (.int qr), .val (.int base), .val (.long gaps), .second, .val (.int (2 : Int32)), .val (.int (4 : Int32)), .val (.ref bA), .unset, .unset, .unset, .unset, .unset, .unset, .unset, .unset, .unset, .unset] [(.ref bA), (.int (4 : Int32))])) _
    refine st1 _ ?_
    refine XS.astore X1.here hx rfl (hb hby at_209) rfl rfl (l' := #[.val (.int sel), .val (.int qr), .val (.int base), .val (.long gaps), .second, .val (.int (2 : Int32)), .val (.int (4 : Int32)), .val (.ref bA), .val (.ref d_1), .unset, .unset, .unset, .unset, .unset, .unset, .unset, .unset, .unset]) rfl ?_
    refine XS.iloadN X1.here hx rfl (hb hby at_211) rfl ?_
    show Steps p.tables e below (T1.setTop (mkF m 212 #[.val (.int sel), .val (.int qr), .val (.int base), .val (.long gaps), .second, .val (.int (2 : Int32)), .val (.int (4 : Int32)), .val (.ref bA), .val (.ref d_1), .unset, .unset, .unset, .unset, .unset, .unset, .unset, .unset, .unset] [(.int qr)])) _
    refine X1.ldcInt hx hown (mvT hZ (hw _ (List.mem_of_getElem? (i := 0) rfl))) (g := (mkF m 212 #[.val (.int sel), .val (.int qr), .val (.int base), .val (.long gaps), .second, .val (.int (2 : Int32)), .val (.int (4 : Int32)), .val (.ref bA), .val (.ref d_1), .unset, .unset, .unset, .unset, .unset, .unset, .unset, .unset, .unset] [(.int qr)])) rfl (hb hby at_212) _ ?_
    refine XS.iand X1.here hx rfl (hb hby at_214) rfl ?_
    refine XS.bipush X1.here hx rfl (hb hby at_215) ?_
    show Steps p.tables e below (T1.setTop (mkF m 217 #[.val (.int sel), .val (.int qr), .val (.int base), .val (.long gaps), .second, .val (.int (2 : Int32)), .val (.int (4 : Int32)), .val (.ref bA), .val (.ref d_1), .unset, .unset, .unset, .unset, .unset, .unset, .unset, .unset, .unset] [(.int (8 : Int32)), (.int (qr &&& (2147483647 : Int32)))])) _
    refine XS.iload X1.here hx rfl (hb hby at_217) rfl ?_
    refine XS.imul X1.here hx rfl (hb hby at_219) rfl ?_
    refine XS.bipush X1.here hx rfl (hb hby at_220) ?_
    show Steps p.tables e below (T1.setTop (mkF m 222 #[.val (.int sel), .val (.int qr), .val (.int base), .val (.long gaps), .second, .val (.int (2 : Int32)), .val (.int (4 : Int32)), .val (.ref bA), .val (.ref d_1), .unset, .unset, .unset, .unset, .unset, .unset, .unset, .unset, .unset] [(.int (33 : Int32)), (.int ((8 : Int32) * (4 : Int32))), (.int (qr &&& (2147483647 : Int32)))])) _
    refine XS.iadd X1.here hx rfl (hb hby at_222) rfl ?_
    refine iremM X1 hx rfl (hb hby at_223) rfl (by decide) ?_
    refine XS.bipush X1.here hx rfl (hb hby at_224) ?_
    show Steps p.tables e below (T1.setTop (mkF m 226 #[.val (.int sel), .val (.int qr), .val (.int base), .val (.long gaps), .second, .val (.int (2 : Int32)), .val (.int (4 : Int32)), .val (.ref bA), .val (.ref d_1), .unset, .unset, .unset, .unset, .unset, .unset, .unset, .unset, .unset] [(.int (16 : Int32)), (.int ((qr &&& (2147483647 : Int32)) % (((8 : Int32) * (4 : Int32)) + (33 : Int32))))])) _
    refine XS.isub X1.here hx rfl (hb hby at_226) rfl ?_
    show Steps p.tables e below (T1.setTop (mkF m 227 #[.val (.int sel), .val (.int qr), .val (.int base), .val (.long gaps), .second, .val (.int (2 : Int32)), .val (.int (4 : Int32)), .val (.ref bA), .val (.ref d_1), .unset, .unset, .unset, .unset, .unset, .unset, .unset, .unset, .unset] [(.int (((qr &&& (2147483647 : Int32)) % (((8 : Int32) * (4 : Int32)) + (33 : Int32))) - (16 : Int32)))])) _
    rw [show (((qr &&& (2147483647 : Int32)) % (((8 : Int32) * (4 : Int32)) + (33 : Int32))) - (16 : Int32)) = q from hqq]
    refine XS.istore X1.here hx rfl (hb hby at_227) rfl (l' := #[.val (.int sel), .val (.int qr), .val (.int base), .val (.long gaps), .second, .val (.int (2 : Int32)), .val (.int (4 : Int32)), .val (.ref bA), .val (.ref d_1), .val (.int q), .unset, .unset, .unset, .unset, .unset, .unset, .unset, .unset]) rfl ?_
    show Steps p.tables e below (T1.setTop (mkF m 229 #[.val (.int sel), .val (.int qr), .val (.int base), .val (.long gaps), .second, .val (.int (2 : Int32)), .val (.int (4 : Int32)), .val (.ref bA), .val (.ref d_1), .val (.int q), .unset, .unset, .unset, .unset, .unset, .unset, .unset, .unset] [])) _
    refine X1.ldc2DoubleC hx hown (mvT hZ (hw _ (List.mem_of_getElem? (i := 8) rfl))) (g := (mkF m 229 #[.val (.int sel), .val (.int qr), .val (.int base), .val (.long gaps), .second, .val (.int (2 : Int32)), .val (.int (4 : Int32)), .val (.ref bA), .val (.ref d_1), .val (.int q), .unset, .unset, .unset, .unset, .unset, .unset, .unset, .unset] [])) rfl (hb hby at_229) _ ?_
    refine XS.iload X1.here hx rfl (hb hby at_232) rfl ?_
    refine XS.i2dS X1.here hx rfl (hb hby at_234) rfl (v := (FP.i2d q)) (rfl) ?_
    show Steps p.tables e below (T1.setTop (mkF m 235 #[.val (.int sel), .val (.int qr), .val (.int base), .val (.long gaps), .second, .val (.int (2 : Int32)), .val (.int (4 : Int32)), .val (.ref bA), .val (.ref d_1), .val (.int q), .unset, .unset, .unset, .unset, .unset, .unset, .unset, .unset] [(.double (FP.i2d q)), (.double (4623226492472524800 : UInt64))])) _
    refine XS.dmulS X1.here hx rfl (hb hby at_235) rfl hm1 (v := (own_m q)) (rfl) ?_
    refine XS.iload X1.here hx rfl (hb hby at_236) rfl ?_
    refine XS.iconst X1.here hx rfl (hb hby at_238) ?_
    show Steps p.tables e below (T1.setTop (mkF m 239 #[.val (.int sel), .val (.int qr), .val (.int base), .val (.long gaps), .second, .val (.int (2 : Int32)), .val (.int (4 : Int32)), .val (.ref bA), .val (.ref d_1), .val (.int q), .unset, .unset, .unset, .unset, .unset, .unset, .unset, .unset] [(.int (1 : Int32)), (.int (4 : Int32)), (.double (own_m q))])) _
    refine XS.iadd X1.here hx rfl (hb hby at_239) rfl ?_
    refine XS.i2dS X1.here hx rfl (hb hby at_240) rfl (v := (FP.i2d ((4 : Int32) + (1 : Int32)))) (rfl) ?_
    refine XS.ddivS X1.here hx rfl (hb hby at_241) rfl hm2 (v := (own_pct (4 : Int32) q)) (rfl) ?_
    show Steps p.tables e below (T1.setTop (mkF m 242 #[.val (.int sel), .val (.int qr), .val (.int base), .val (.long gaps), .second, .val (.int (2 : Int32)), .val (.int (4 : Int32)), .val (.ref bA), .val (.ref d_1), .val (.int q), .unset, .unset, .unset, .unset, .unset, .unset, .unset, .unset] [(.double (own_pct (4 : Int32) q))])) _
    refine XS.dstore X1.here hx rfl (hb hby at_242) rfl (l' := #[.val (.int sel), .val (.int qr), .val (.int base), .val (.long gaps), .second, .val (.int (2 : Int32)), .val (.int (4 : Int32)), .val (.ref bA), .val (.ref d_1), .val (.int q), .val (.double (own_pct (4 : Int32) q)), .second, .unset, .unset, .unset, .unset, .unset, .unset]) rfl ?_
    refine XS.aload X1.here hx rfl (hb hby at_244) rfl rfl ?_
    refine XS.dload X1.here hx rfl (hb hby at_246) rfl ?_
    show Steps p.tables e below (T1.setTop (mkF m 248 #[.val (.int sel), .val (.int qr), .val (.int base), .val (.long gaps), .second, .val (.int (2 : Int32)), .val (.int (4 : Int32)), .val (.ref bA), .val (.ref d_1), .val (.int q), .val (.double (own_pct (4 : Int32) q)), .second, .unset, .unset, .unset, .unset, .unset, .unset] [(.double (own_pct (4 : Int32) q)), (.ref d_1)])) _
    refine st2 _ ?_
    refine XS.dstore X2.here hx rfl (hb hby at_251) rfl (l' := #[.val (.int sel), .val (.int qr), .val (.int base), .val (.long gaps), .second, .val (.int (2 : Int32)), .val (.int (4 : Int32)), .val (.ref bA), .val (.ref d_1), .val (.int q), .val (.double (own_pct (4 : Int32) q)), .second, .val (.double (FP.l2d s3)), .second, .unset, .unset, .unset, .unset]) rfl ?_
    refine XS.iload X2.here hx rfl (hb hby at_253) rfl ?_
    show Steps p.tables e below (T2.setTop (mkF m 255 #[.val (.int sel), .val (.int qr), .val (.int base), .val (.long gaps), .second, .val (.int (2 : Int32)), .val (.int (4 : Int32)), .val (.ref bA), .val (.ref d_1), .val (.int q), .val (.double (own_pct (4 : Int32) q)), .second, .val (.double (FP.l2d s3)), .second, .unset, .unset, .unset, .unset] [(.int q)])) _
    refine XS.bipush X2.here hx rfl (hb hby at_255) ?_
    refine XS.icmpYes X2.here hx rfl (pc0 := 257) (pc' := 273) rfl (hb hby at_257) rfl (flt (hq8 : ¬ (q < (8 : Int32)))).2.1 (by decide) (by decide) ?_
    refine XS.iload X2.here hx rfl (hb hby at_273) rfl ?_
    show Steps p.tables e below (T2.setTop (mkF m 275 #[.val (.int sel), .val (.int qr), .val (.int base), .val (.long gaps), .second, .val (.int (2 : Int32)), .val (.int (4 : Int32)), .val (.ref bA), .val (.ref d_1), .val (.int q), .val (.double (own_pct (4 : Int32) q)), .second, .val (.double (FP.l2d s3)), .second, .unset, .unset, .unset, .unset] [(.int q)])) _
    refine XS.bipush X2.here hx rfl (hb hby at_275) ?_
    refine XS.iload X2.here hx rfl (hb hby at_277) rfl ?_
    refine XS.imul X2.here hx rfl (hb hby at_279) rfl ?_
    show Steps p.tables e below (T2.setTop (mkF m 280 #[.val (.int sel), .val (.int qr), .val (.int base), .val (.long gaps), .second, .val (.int (2 : Int32)), .val (.int (4 : Int32)), .val (.ref bA), .val (.ref d_1), .val (.int q), .val (.double (own_pct (4 : Int32) q)), .second, .val (.double (FP.l2d s3)), .second, .unset, .unset, .unset, .unset] [(.int ((8 : Int32) * (4 : Int32))), (.int q)])) _
    refine XS.icmpNo X2.here hx rfl (hb hby at_280) rfl (flt (hq8n : ¬ (q < ((8 : Int32) * (4 : Int32))))).1 ?_
    show Steps p.tables e below (T2.setTop (mkF m 283 #[.val (.int sel), .val (.int qr), .val (.int base), .val (.long gaps), .second, .val (.int (2 : Int32)), .val (.int (4 : Int32)), .val (.ref bA), .val (.ref d_1), .val (.int q), .val (.double (own_pct (4 : Int32) q)), .second, .val (.double (FP.l2d s3)), .second, .unset, .unset, .unset, .unset] [])) _
    refine X2.ldc2Long hx hown (mvT hZ (hw _ (List.mem_of_getElem? (i := 14) rfl))) (g := (mkF m 283 #[.val (.int sel), .val (.int qr), .val (.int base), .val (.long gaps), .second, .val (.int (2 : Int32)), .val (.int (4 : Int32)), .val (.ref bA), .val (.ref d_1), .val (.int q), .val (.double (own_pct (4 : Int32) q)), .second, .val (.double (FP.l2d s3)), .second, .unset, .unset, .unset, .unset] [])) rfl (hb hby at_283) _ ?_
    refine XS.aload X2.here hx rfl (hb hby at_286) rfl rfl ?_
    refine XS.iload X2.here hx rfl (hb hby at_288) rfl ?_
    show Steps p.tables e below (T2.setTop (mkF m 290 #[.val (.int sel), .val (.int qr), .val (.int base), .val (.long gaps), .second, .val (.int (2 : Int32)), .val (.int (4 : Int32)), .val (.ref bA), .val (.ref d_1), .val (.int q), .val (.double (own_pct (4 : Int32) q)), .second, .val (.double (FP.l2d s3)), .second, .unset, .unset, .unset, .unset] [(.int (4 : Int32)), (.ref bA), (.long (8 : Int64))])) _
    refine XS.iconst X2.here hx rfl (hb hby at_290) ?_
    refine XS.isub X2.here hx rfl (hb hby at_291) rfl ?_
    show Steps p.tables e below (T2.setTop (mkF m 292 #[.val (.int sel), .val (.int qr), .val (.int base), .val (.long gaps), .second, .val (.int (2 : Int32)), .val (.int (4 : Int32)), .val (.ref bA), .val (.ref d_1), .val (.int q), .val (.double (own_pct (4 : Int32) q)), .second, .val (.double (FP.l2d s3)), .second, .unset, .unset, .unset, .unset] [(.int ((4 : Int32) - (1 : Int32))), (.ref bA), (.long (8 : Int64))])) _
    rw [show ((4 : Int32) - (1 : Int32)) = (3 : Int32) from (by decide)]
    show Steps p.tables e below (T2.setTop (mkF m 292 #[.val (.int sel), .val (.int qr), .val (.int base), .val (.long gaps), .second, .val (.int (2 : Int32)), .val (.int (4 : Int32)), .val (.ref bA), .val (.ref d_1), .val (.int q), .val (.double (own_pct (4 : Int32) q)), .second, .val (.double (FP.l2d s3)), .second, .unset, .unset, .unset, .unset] [(.int (3 : Int32)), (.ref bA), (.long (8 : Int64))])) _
    refine X2.laload hx (j := (3 : Int32)) (v := (.long s3)) (by rw [eq2]; exact Ar3.1) (State.isArrayOf_alike hZ.alike Ar3.2.1) Ar3.2.2 hin3 hat3 (g := (mkF m 292 #[.val (.int sel), .val (.int qr), .val (.int base), .val (.long gaps), .second, .val (.int (2 : Int32)), .val (.int (4 : Int32)), .val (.ref bA), .val (.ref d_1), .val (.int q), .val (.double (own_pct (4 : Int32) q)), .second, .val (.double (FP.l2d s3)), .second, .unset, .unset, .unset, .unset] [(.int (3 : Int32)), (.ref bA), (.long (8 : Int64))])) rfl rfl (hb hby at_292) _ ?_
    refine XS.lmul X2.here hx rfl (hb hby at_293) rfl ?_
    refine XS.lstore X2.here hx rfl (hb hby at_294) rfl (l' := #[.val (.int sel), .val (.int qr), .val (.int base), .val (.long gaps), .second, .val (.int (2 : Int32)), .val (.int (4 : Int32)), .val (.ref bA), .val (.ref d_1), .val (.int q), .val (.double (own_pct (4 : Int32) q)), .second, .val (.double (FP.l2d s3)), .second, .val (.long ((8 : Int64) * s3)), .second, .unset, .unset]) rfl ?_
    show Steps p.tables e below (T2.setTop (mkF m 296 #[.val (.int sel), .val (.int qr), .val (.int base), .val (.long gaps), .second, .val (.int (2 : Int32)), .val (.int (4 : Int32)), .val (.ref bA), .val (.ref d_1), .val (.int q), .val (.double (own_pct (4 : Int32) q)), .second, .val (.double (FP.l2d s3)), .second, .val (.long ((8 : Int64) * s3)), .second, .unset, .unset] [])) _
    refine XS.goto X2.here hx rfl (pc0 := 296) (pc' := 339) rfl (hb hby at_296) (by decide) (by decide) ?_
    refine XS.dload X2.here hx rfl (hb hby at_339) rfl ?_
    show Steps p.tables e below (T2.setTop (mkF m 341 #[.val (.int sel), .val (.int qr), .val (.int base), .val (.long gaps), .second, .val (.int (2 : Int32)), .val (.int (4 : Int32)), .val (.ref bA), .val (.ref d_1), .val (.int q), .val (.double (own_pct (4 : Int32) q)), .second, .val (.double (FP.l2d s3)), .second, .val (.long ((8 : Int64) * s3)), .second, .unset, .unset] [(.double (FP.l2d s3))])) _
    refine X2.ldc2DoubleC hx hown (mvT hZ (hw _ (List.mem_of_getElem? (i := 15) rfl))) (g := (mkF m 341 #[.val (.int sel), .val (.int qr), .val (.int base), .val (.long gaps), .second, .val (.int (2 : Int32)), .val (.int (4 : Int32)), .val (.ref bA), .val (.ref d_1), .val (.int q), .val (.double (own_pct (4 : Int32) q)), .second, .val (.double (FP.l2d s3)), .second, .val (.long ((8 : Int64) * s3)), .second, .unset, .unset] [(.double (FP.l2d s3))])) rfl (hb hby at_341) _ ?_
    refine XS.dmulS X2.here hx rfl (hb hby at_344) rfl hn344 (v := (FP.dmul (FP.l2d s3) (4620693217682128896 : UInt64))) (rfl) ?_
    refine XS.lload X2.here hx rfl (hb hby at_345) rfl ?_
    show Steps p.tables e below (T2.setTop (mkF m 347 #[.val (.int sel), .val (.int qr), .val (.int base), .val (.long gaps), .second, .val (.int (2 : Int32)), .val (.int (4 : Int32)), .val (.ref bA), .val (.ref d_1), .val (.int q), .val (.double (own_pct (4 : Int32) q)), .second, .val (.double (FP.l2d s3)), .second, .val (.long ((8 : Int64) * s3)), .second, .unset, .unset] [(.long ((8 : Int64) * s3)), (.double (FP.dmul (FP.l2d s3) (4620693217682128896 : UInt64)))])) _
    refine XS.l2dS X2.here hx rfl (hb hby at_347) rfl (v := (FP.l2d ((8 : Int64) * s3))) (rfl) ?_
    refine XS.dcmpS X2.here hx rfl (hb hby at_348) rfl (v := (0 : Int32)) (hv348) ?_
    refine XS.ifNo X2.here hx rfl (hb hby at_349) rfl ((if0 _ _).trans (teq (by decide : (0 : Int32) = (0 : Int32))).2) ?_
    show Steps p.tables e below (T2.setTop (mkF m 352 #[.val (.int sel), .val (.int qr), .val (.int base), .val (.long gaps), .second, .val (.int (2 : Int32)), .val (.int (4 : Int32)), .val (.ref bA), .val (.ref d_1), .val (.int q), .val (.double (own_pct (4 : Int32) q)), .second, .val (.double (FP.l2d s3)), .second, .val (.long ((8 : Int64) * s3)), .second, .unset, .unset] [])) _
    refine XS.iconst X2.here hx rfl (hb hby at_352) ?_
    refine XS.goto X2.here hx rfl (pc0 := 353) (pc' := 357) rfl (hb hby at_353) (by decide) (by decide) ?_
    show Steps p.tables e below (T2.setTop (mkF m 357 #[.val (.int sel), .val (.int qr), .val (.int base), .val (.long gaps), .second, .val (.int (2 : Int32)), .val (.int (4 : Int32)), .val (.ref bA), .val (.ref d_1), .val (.int q), .val (.double (own_pct (4 : Int32) q)), .second, .val (.double (FP.l2d s3)), .second, .val (.long ((8 : Int64) * s3)), .second, .unset, .unset] [(.int (1 : Int32))])) _
    exact retN X2 hx (t := .boolean) Bd.returns (by simp) (hb hby at_357) hr
  · show QL n0 _ T2.heap _
    rw [eq2]
    exact ⟨rfl, N2⟩
set_option maxRecDepth 65536 in
set_option maxHeartbeats 40000000 in
theorem rm0c4 (l : Launch) (Z : State) (a0 : Array Value) (hw : ∀ d ∈ tables_1, d.before a0 Z = true) (ws : List Jvm.Cond) (sel qr base : Int32) (gaps : Int64) (s0 s1 s2 s3 s4 s5 s6 s7 s8 : Int64) (q : Int32) (fr : UInt64) (lo hi : Int64) (bb b1 kk : Int32) (h0 : Heap) (n0 : Nat) (Z0 : n0 ≤ h0.size) (hch : ((sel &&& (2147483647 : Int32)) % (5 : Int32)) = (2 : Int32)) (hs0 : (base.toInt64) = s0) (hs1 : s0 + (gaps &&& (255 : Int64)) = s1) (hs2 : s1 + (((gaps.toUInt64 >>> ((8 : Int32) &&& 0x3f).toInt64.toUInt64).toInt64) &&& (255 : Int64)) = s2) (hs3 : s2 + (((gaps.toUInt64 >>> ((16 : Int32) &&& 0x3f).toInt64.toUInt64).toInt64) &&& (255 : Int64)) = s3) (hs4 : s3 + (((gaps.toUInt64 >>> ((24 : Int32) &&& 0x3f).toInt64.toUInt64).toInt64) &&& (255 : Int64)) = s4) (hs5 : s4 + (((gaps.toUInt64 >>> ((32 : Int32) &&& 0x3f).toInt64.toUInt64).toInt64) &&& (255 : Int64)) = s5) (hs6 : s5 + (((gaps.toUInt64 >>> ((40 : Int32) &&& 0x3f).toInt64.toUInt64).toInt64) &&& (255 : Int64)) = s6) (hs7 : s6 + (((gaps.toUInt64 >>> ((48 : Int32) &&& 0x3f).toInt64.toUInt64).toInt64) &&& (255 : Int64)) = s7) (hs8 : s7 + (((gaps.toUInt64 >>> ((56 : Int32) &&& 0x3f).toInt64.toUInt64).toInt64) &&& (255 : Int64)) = s8) (hqq : (((qr &&& (2147483647 : Int32)) % (((8 : Int32) * (4 : Int32)) + (33 : Int32))) - (16 : Int32)) = q) (hm1 : Jvm.Free.Fl.NoNaN64 (own_m q)) (hm2 : Jvm.Free.Fl.NoNaN64 (own_pct (4 : Int32) q)) (hp1 : Jvm.Free.Fl.NoNaN64 (own_pm (4 : Int32) q)) (hp2 : Jvm.Free.Fl.NoNaN64 (own_pos (4 : Int32) q)) (hn344 : Jvm.Free.Fl.NoNaN64 (FP.dmul (FP.dadd (FP.l2d lo) (FP.dmul fr (FP.dsub (FP.l2d hi) (FP.l2d lo)))) (4620693217682128896 : UInt64))) (hv348 : cmpValue (FP.dcmp (FP.dmul (FP.dadd (FP.l2d lo) (FP.dmul fr (FP.dsub (FP.l2d hi) (FP.l2d lo)))) (4620693217682128896 : UInt64)) (FP.l2d (((((8 : Int32) - kk).toInt64) * lo) + ((kk.toInt64) * hi)))) .l = (0 : Int32)) (hq8 : ¬ (q < (8 : Int32))) (hcA : ¬ own_cA (4 : Int32) q < (0 : Int32)) (hq8n : q < ((8 : Int32) * (4 : Int32))) (hcB : own_cB (4 : Int32) q < (0 : Int32)) (hd1 : (q / (8 : Int32)) = bb) (hd2 : (q % (8 : Int32)) = kk) (hbb : FP.d2i (own_pos (4 : Int32) q) = bb) (hn58 : Jvm.Free.Fl.NoNaN64 (FP.dsub (own_pos (4 : Int32) q) (FP.i2d bb))) (hfr : FP.dsub (own_pos (4 : Int32) q) (FP.i2d bb) = fr) (hb1 : (bb - (1 : Int32)) = b1) (hi1 : ¬ b1 < 0 ∧ b1 < (4 : Int32)) (hi2 : ¬ bb < 0 ∧ bb < (4 : Int32)) (ht1 : ([(.double (FP.l2d s0)), (.double (FP.l2d s1)), (.double (FP.l2d s2)), (.double (FP.l2d s3))] : List Value).getD b1.toNatClampNeg (.double (0 : UInt64)) = (.double (FP.l2d lo))) (ht2 : ([(.double (FP.l2d s0)), (.double (FP.l2d s1)), (.double (FP.l2d s2)), (.double (FP.l2d s3))] : List Value).getD bb.toNatClampNeg (.double (0 : UInt64)) = (.double (FP.l2d hi))) (hj1 : ¬ b1 < 0 ∧ b1 < (9 : Int32)) (hj2 : ¬ bb < 0 ∧ bb < (9 : Int32)) (hu1 : ([(.long s0), (.long s1), (.long s2), (.long s3), (.long s4), (.long s5), (.long s6), (.long s7), (.long s8)] : List Value).getD b1.toNatClampNeg (.long (0 : Int64)) = (.long lo)) (hu2 : ([(.long s0), (.long s1), (.long s2), (.long s3), (.long s4), (.long s5), (.long s6), (.long s7), (.long s8)] : List Value).getD bb.toNatClampNeg (.long (0 : Int64)) = (.long hi)) (hn79 : Jvm.Free.Fl.NoNaN64 (FP.dsub (FP.l2d hi) (FP.l2d lo))) (hn80 : Jvm.Free.Fl.NoNaN64 (FP.dmul fr (FP.dsub (FP.l2d hi) (FP.l2d lo)))) (hn81 : Jvm.Free.Fl.NoNaN64 (FP.dadd (FP.l2d lo) (FP.dmul fr (FP.dsub (FP.l2d hi) (FP.l2d lo)))))  :
    MetFree l x (head1 (Jvm.Cond.code x code maxLocals ret :: ws) room_1) (fun a U => a = #[(.int sel), (.int qr), (.int base), (.long gaps)] ∧ Z.Warmed39 U.vm ∧ U.heap = h0) (fun _ _ _ _ _ => True) (fun _ U o U' => ∃ v L, o = .returned v ∧ QL n0 v U'.heap L ∧ FrameEnd U o U' L 2 13) := by
  refine MetFree.of_bodySF (plainFor_of_name pn_com_example_bytegauge_bytegauge_stats_JsonTablePercentilePinLaw) hisR ?_
  intro p e s m args below meth c s₁ Bd hml0 hP hK
  obtain ⟨rfl, hZ, hh⟩ := hP
  have hx := Bd.exec
  have hby := Bd.bytes
  have hml : c.maxLocals = 18 := hml0
  have hown : s.vm.findClass "com/example/bytegauge/bytegauge/stats/JsonTablePercentilePinLaw" = some m.cls := findClass_of_methodNamed Bd.named
  have hnm := (name_of_methodNamed Bd.named Bd.method).1
  have X0 : Stand p l e room_1 s m #[(.int sel), (.int qr), (.int base), (.long gaps)] below meth c s₁ [] 0 0 := Stand.of_body Bd
  have e0 : s₁.heap = h0 := by rw [← hh, Bd.state]; rfl
  have N0 := Fr.nil n0
  have pre0 : ∀ t, Steps p.tables e below (s₁.setTop (mkF m 0 #[.val (.int sel), .val (.int qr), .val (.int base), .val (.long gaps), .second, .unset, .unset, .unset, .unset, .unset, .unset, .unset, .unset, .unset, .unset, .unset, .unset, .unset] [])) t → Steps p.tables e below (s₁.setTop (entryFrame m #[(.int sel), (.int qr), (.int base), (.long gaps)] maxLocals)) t := fun t k => castTop (ef_code m sel qr base gaps) k
  obtain ⟨TA, hA, LA, bA, kA, XA, eA, NA, SZA, g_bA, VA, stA⟩ := segA h0 n0 Z0 sel qr base gaps (2 : Int32) (4 : Int32) s0 s1 s2 s3 s4 s5 s6 s7 s8 X0 hx hZ hw hby hml hown e0 hs0 hs1 hs2 hs3 hs4 hs5 hs6 hs7 hs8
  obtain ⟨_, _, ⟨T1, L1, k1, n1⟩, -, X1, ⟨Lc1, hQ1, l1, y1, z1⟩, st1⟩ := Jvm.LawKit.callS XA hx (y := (⟨"com/example/bytegauge/bytegauge/stats/JsonTablePercentilePinLaw", "sortedOf", "(I[J)[D"⟩ : MethodName)) hown (mvT hZ (hw _ (List.mem_of_getElem? (i := 3) rfl))) (mvT hZ (hw _ (List.mem_of_getElem? (i := 4) rfl))) (mvT hZ (hw _ (List.mem_of_getElem? (i := 5) rfl))) (mvT hZ (hw _ (List.mem_of_getElem? (i := 6) rfl))) (by decide) (backOf (W := 0) (rmS4 l Z a0 hw [] bA kA s0 s1 s2 s3 s4 s5 s6 s7 s8 hA n0 SZA VA) hZ (hw _ (List.mem_of_getElem? (i := 6) rfl)) (hw _ (List.mem_of_getElem? (i := 5) rfl)) (by decide) (by decide)) (g := (mkF m 206 #[.val (.int sel), .val (.int qr), .val (.int base), .val (.long gaps), .second, .val (.int (2 : Int32)), .val (.int (4 : Int32)), .val (.ref bA), .unset, .unset, .unset, .unset, .unset, .unset, .unset, .unset, .unset, .unset] [(.ref bA), (.int (4 : Int32))])) rfl (by rw [hml]; rfl) (argsL := [(.int (4 : Int32)), (.ref bA)]) (rest := []) (lenOf pd__I_J__D rfl) rfl (by show 2 * 0 + _ ≤ _; exact Nat.le_of_eq rfl) (hb hby at_206) (fun _ _ => ⟨rfl, eA, (by decide : 1 + 1 ≤ _), (by decide : 9 + 4 ≤ _)⟩)
  dsimp only [Pt.U, Pt.locs, Pt.cells, Pt.slots] at X1 l1 y1 z1 st1 hQ1
  subst l1 y1 z1
  obtain ⟨d_1, kd1, rfl, N1q, g_d_1, sz_d_1, K1q, V1q⟩ := hQ1
  have c1_0 := VA.keep K1q List.not_mem_nil
  have SZ1 := Nat.le_trans SZA K1q.1
  have N1 := Fr.app NA N1q
  obtain ⟨_, _, ⟨T2, L2, k2, n2⟩, -, X2, ⟨Lc2, hQ2, l2, y2, z2⟩, st2⟩ := Jvm.LawKit.callS X1 hx (y := (⟨"com/example/bytegauge/bytegauge/stats/JsonTable", "percentile", "([DD)D"⟩ : MethodName)) hown (mvT hZ (hw _ (List.mem_of_getElem? (i := 9) rfl))) (mvT hZ (hw _ (List.mem_of_getElem? (i := 10) rfl))) (mvT hZ (hw _ (List.mem_of_getElem? (i := 11) rfl))) (mvT hZ (hw _ (List.mem_of_getElem? (i := 12) rfl))) (by decide) (backOf (W := 0) (rmPc4 l Z a0 hw [] d_1 kd1 s0 s1 s2 s3 s4 s5 s6 s7 s8 (own_pct (4 : Int32) q) (own_pos (4 : Int32) q) fr lo hi bb b1 T1.heap n0 SZ1 V1q hp1 hp2 rfl _ rfl _ rfl hcA hcB hbb hn58 hfr hb1 hi1 hi2 ht1 ht2 hn79 hn80 hn81) hZ (hw _ (List.mem_of_getElem? (i := 12) rfl)) (hw _ (List.mem_of_getElem? (i := 11) rfl)) (by decide) (by decide)) (g := (mkF m 248 #[.val (.int sel), .val (.int qr), .val (.int base), .val (.long gaps), .second, .val (.int (2 : Int32)), .val (.int (4 : Int32)), .val (.ref bA), .val (.ref d_1), .val (.int q), .val (.double (own_pct (4 : Int32) q)), .second, .unset, .unset, .unset, .unset, .unset, .unset] [(.double (own_pct (4 : Int32) q)), (.ref d_1)])) rfl (by rw [hml]; rfl) (argsL := [(.ref d_1), (.double (own_pct (4 : Int32) q))]) (rest := []) (lenOf pd___DD_D rfl) rfl (by show 2 * 0 + _ ≤ _; exact Nat.le_of_eq rfl) (hb hby at_248) (fun _ _ => ⟨rfl, rfl, (by decide : 2 + 0 ≤ _), (by decide : 13 + 0 ≤ _)⟩)
  dsimp only [Pt.U, Pt.locs, Pt.cells, Pt.slots] at X2 l2 y2 z2 st2 hQ2
  subst l2 y2 z2
  obtain ⟨rfl, N2q, eq2⟩ := hQ2
  have N2 := Fr.app N1 N2q
  obtain ⟨cl3, Ar3, -, S3, Nn3, H3, -⟩ := id c1_0
  have hin3 : ¬ (b1 < 0 ∨ cl3.slots.size ≤ (b1).toNatClampNeg) := inb_of S3 hj1
  have hat3 : cl3.slots[(b1).toNatClampNeg]? = some (.long lo) := H3.at hin3 hu1
  obtain ⟨cl4, Ar4, -, S4, Nn4, H4, -⟩ := id c1_0
  have hin4 : ¬ (bb < 0 ∨ cl4.slots.size ≤ (bb).toNatClampNeg) := inb_of S4 hj2
  have hat4 : cl4.slots[(bb).toNatClampNeg]? = some (.long hi) := H4.at hin4 hu2
  obtain ⟨fs, hr, hrun, hended, hW, hsame⟩ := X2.leave (v := some (.int (1 : Int32))) (fun h => by rw [Bd.returns] at h; cases h)
  refine ⟨_, _, pre0 _ ?_, hrun, hended, _, _, rfl, ?_, ⟨_, rfl⟩, hW, hsame.mono (by decide) (by decide)⟩
  · show Steps p.tables e below (s₁.setTop (mkF m 0 #[.val (.int sel), .val (.int qr), .val (.int base), .val (.long gaps), .second, .unset, .unset, .unset, .unset, .unset, .unset, .unset, .unset, .unset, .unset, .unset, .unset, .unset] [])) _
    refine XS.iloadN X0.here hx rfl (hb hby at_0) rfl ?_
    show Steps p.tables e below (s₁.setTop (mkF m 1 #[.val (.int sel), .val (.int qr), .val (.int base), .val (.long gaps), .second, .unset, .unset, .unset, .unset, .unset, .unset, .unset, .unset, .unset, .unset, .unset, .unset, .unset] [(.int sel)])) _
    refine X0.ldcInt hx hown (mvT hZ (hw _ (List.mem_of_getElem? (i := 0) rfl))) (g := (mkF m 1 #[.val (.int sel), .val (.int qr), .val (.int base), .val (.long gaps), .second, .unset, .unset, .unset, .unset, .unset, .unset, .unset, .unset, .unset, .unset, .unset, .unset, .unset] [(.int sel)])) rfl (hb hby at_1) _ ?_
    refine XS.iand X0.here hx rfl (hb hby at_3) rfl ?_
    refine XS.iconst X0.here hx rfl (hb hby at_4) ?_
    show Steps p.tables e below (s₁.setTop (mkF m 5 #[.val (.int sel), .val (.int qr), .val (.int base), .val (.long gaps), .second, .unset, .unset, .unset, .unset, .unset, .unset, .unset, .unset, .unset, .unset, .unset, .unset, .unset] [(.int (5 : Int32)), (.int (sel &&& (2147483647 : Int32)))])) _
    refine iremM X0 hx rfl (hb hby at_5) rfl (by decide) ?_
    show Steps p.tables e below (s₁.setTop (mkF m 6 #[.val (.int sel), .val (.int qr), .val (.int base), .val (.long gaps), .second, .unset, .unset, .unset, .unset, .unset, .unset, .unset, .unset, .unset, .unset, .unset, .unset, .unset] [(.int ((sel &&& (2147483647 : Int32)) % (5 : Int32)))])) _
    rw [show ((sel &&& (2147483647 : Int32)) % (5 : Int32)) = (2 : Int32) from hch]
    refine XS.istore X0.here hx rfl (hb hby at_6) rfl (l' := #[.val (.int sel), .val (.int qr), .val (.int base), .val (.long gaps), .second, .val (.int (2 : Int32)), .unset, .unset, .unset, .unset, .unset, .unset, .unset, .unset, .unset, .unset, .unset, .unset]) rfl ?_
    refine XS.iload X0.here hx rfl (hb hby at_8) rfl ?_
    show Steps p.tables e below (s₁.setTop (mkF m 10 #[.val (.int sel), .val (.int qr), .val (.int base), .val (.long gaps), .second, .val (.int (2 : Int32)), .unset, .unset, .unset, .unset, .unset, .unset, .unset, .unset, .unset, .unset, .unset, .unset] [(.int (2 : Int32))])) _
    refine XS.ifYes X0.here hx rfl (pc0 := 10) (pc' := 17) rfl (hb hby at_10) rfl ((if0 _ _).trans (feq (by decide : ¬ ((2 : Int32) = (0 : Int32)))).2) (by decide) (by decide) ?_
    refine XS.iload X0.here hx rfl (hb hby at_17) rfl ?_
    refine XS.iconst X0.here hx rfl (hb hby at_19) ?_
    show Steps p.tables e below (s₁.setTop (mkF m 20 #[.val (.int sel), .val (.int qr), .val (.int base), .val (.long gaps), .second, .val (.int (2 : Int32)), .unset, .unset, .unset, .unset, .unset, .unset, .unset, .unset, .unset, .unset, .unset, .unset] [(.int (1 : Int32)), (.int (2 : Int32))])) _
    refine XS.icmpYes X0.here hx rfl (pc0 := 20) (pc' := 27) rfl (hb hby at_20) rfl (feq (by decide : ¬ ((2 : Int32) = (1 : Int32)))).2 (by decide) (by decide) ?_
    refine XS.iload X0.here hx rfl (hb hby at_27) rfl ?_
    refine XS.iconst X0.here hx rfl (hb hby at_29) ?_
    show Steps p.tables e below (s₁.setTop (mkF m 30 #[.val (.int sel), .val (.int qr), .val (.int base), .val (.long gaps), .second, .val (.int (2 : Int32)), .unset, .unset, .unset, .unset, .unset, .unset, .unset, .unset, .unset, .unset, .unset, .unset] [(.int (2 : Int32)), (.int (2 : Int32))])) _
    refine XS.icmpNo X0.here hx rfl (hb hby at_30) rfl (teq (by decide : (2 : Int32) = (2 : Int32))).2 ?_
    refine XS.iconst X0.here hx rfl (hb hby at_33) ?_
    refine XS.goto X0.here hx rfl (pc0 := 34) (pc' := 50) rfl (hb hby at_34) (by decide) (by decide) ?_
    show Steps p.tables e below (s₁.setTop (mkF m 50 #[.val (.int sel), .val (.int qr), .val (.int base), .val (.long gaps), .second, .val (.int (2 : Int32)), .unset, .unset, .unset, .unset, .unset, .unset, .unset, .unset, .unset, .unset, .unset, .unset] [(.int (4 : Int32))])) _
    refine XS.istore X0.here hx rfl (hb hby at_50) rfl (l' := #[.val (.int sel), .val (.int qr), .val (.int base), .val (.long gaps), .second, .val (.int (2 : Int32)), .val (.int (4 : Int32)), .unset, .unset, .unset, .unset, .unset, .unset, .unset, .unset, .unset, .unset, .unset]) rfl ?_
    show Steps p.tables e below (s₁.setTop (mkF m 52 #[.val (.int sel), .val (.int qr), .val (.int base), .val (.long gaps), .second, .val (.int (2 : Int32)), .val (.int (4 : Int32)), .unset, .unset, .unset, .unset, .unset, .unset, .unset, .unset, .unset, .unset, .unset] [])) _
    refine stA _ ?_
    show Steps p.tables e below (TA.setTop (mkF m 202 #[.val (.int sel), .val (.int qr), .val (.int base), .val (.long gaps), .second, .val (.int (2 : Int32)), .val (.int (4 : Int32)), .val (.ref bA), .unset, .unset, .unset, .unset, .unset, .unset, .unset, .unset, .unset, .unset] [])) _
    refine XS.iload XA.here hx rfl (hb hby at_202) rfl ?_
    refine XS.aload XA.here hx rfl (hb hby at_204) rfl rfl ?_
    show Steps p.tables e below (TA.setTop (mkF m 206 #[.val (.int sel), .val (.int qr), .val (.int base), .val (.long gaps), .second, .val (.int (2 : Int32)), .val (.int (4 : Int32)), .val (.ref bA), .unset, .unset, .unset, .unset, .unset, .unset, .unset, .unset, .unset, .unset] [(.ref bA), (.int (4 : Int32))])) _
    refine st1 _ ?_
    refine XS.astore X1.here hx rfl (hb hby at_209) rfl rfl (l' := #[.val (.int sel), .val (.int qr), .val (.int base), .val (.long gaps), .second, .val (.int (2 : Int32)), .val (.int (4 : Int32)), .val (.ref bA), .val (.ref d_1), .unset, .unset, .unset, .unset, .unset, .unset, .unset, .unset, .unset]) rfl ?_
    refine XS.iloadN X1.here hx rfl (hb hby at_211) rfl ?_
    show Steps p.tables e below (T1.setTop (mkF m 212 #[.val (.int sel), .val (.int qr), .val (.int base), .val (.long gaps), .second, .val (.int (2 : Int32)), .val (.int (4 : Int32)), .val (.ref bA), .val (.ref d_1), .unset, .unset, .unset, .unset, .unset, .unset, .unset, .unset, .unset] [(.int qr)])) _
    refine X1.ldcInt hx hown (mvT hZ (hw _ (List.mem_of_getElem? (i := 0) rfl))) (g := (mkF m 212 #[.val (.int sel), .val (.int qr), .val (.int base), .val (.long gaps), .second, .val (.int (2 : Int32)), .val (.int (4 : Int32)), .val (.ref bA), .val (.ref d_1), .unset, .unset, .unset, .unset, .unset, .unset, .unset, .unset, .unset] [(.int qr)])) rfl (hb hby at_212) _ ?_
    refine XS.iand X1.here hx rfl (hb hby at_214) rfl ?_
    refine XS.bipush X1.here hx rfl (hb hby at_215) ?_
    show Steps p.tables e below (T1.setTop (mkF m 217 #[.val (.int sel), .val (.int qr), .val (.int base), .val (.long gaps), .second, .val (.int (2 : Int32)), .val (.int (4 : Int32)), .val (.ref bA), .val (.ref d_1), .unset, .unset, .unset, .unset, .unset, .unset, .unset, .unset, .unset] [(.int (8 : Int32)), (.int (qr &&& (2147483647 : Int32)))])) _
    refine XS.iload X1.here hx rfl (hb hby at_217) rfl ?_
    refine XS.imul X1.here hx rfl (hb hby at_219) rfl ?_
    refine XS.bipush X1.here hx rfl (hb hby at_220) ?_
    show Steps p.tables e below (T1.setTop (mkF m 222 #[.val (.int sel), .val (.int qr), .val (.int base), .val (.long gaps), .second, .val (.int (2 : Int32)), .val (.int (4 : Int32)), .val (.ref bA), .val (.ref d_1), .unset, .unset, .unset, .unset, .unset, .unset, .unset, .unset, .unset] [(.int (33 : Int32)), (.int ((8 : Int32) * (4 : Int32))), (.int (qr &&& (2147483647 : Int32)))])) _
    refine XS.iadd X1.here hx rfl (hb hby at_222) rfl ?_
    refine iremM X1 hx rfl (hb hby at_223) rfl (by decide) ?_
    refine XS.bipush X1.here hx rfl (hb hby at_224) ?_
    show Steps p.tables e below (T1.setTop (mkF m 226 #[.val (.int sel), .val (.int qr), .val (.int base), .val (.long gaps), .second, .val (.int (2 : Int32)), .val (.int (4 : Int32)), .val (.ref bA), .val (.ref d_1), .unset, .unset, .unset, .unset, .unset, .unset, .unset, .unset, .unset] [(.int (16 : Int32)), (.int ((qr &&& (2147483647 : Int32)) % (((8 : Int32) * (4 : Int32)) + (33 : Int32))))])) _
    refine XS.isub X1.here hx rfl (hb hby at_226) rfl ?_
    show Steps p.tables e below (T1.setTop (mkF m 227 #[.val (.int sel), .val (.int qr), .val (.int base), .val (.long gaps), .second, .val (.int (2 : Int32)), .val (.int (4 : Int32)), .val (.ref bA), .val (.ref d_1), .unset, .unset, .unset, .unset, .unset, .unset, .unset, .unset, .unset] [(.int (((qr &&& (2147483647 : Int32)) % (((8 : Int32) * (4 : Int32)) + (33 : Int32))) - (16 : Int32)))])) _
    rw [show (((qr &&& (2147483647 : Int32)) % (((8 : Int32) * (4 : Int32)) + (33 : Int32))) - (16 : Int32)) = q from hqq]
    refine XS.istore X1.here hx rfl (hb hby at_227) rfl (l' := #[.val (.int sel), .val (.int qr), .val (.int base), .val (.long gaps), .second, .val (.int (2 : Int32)), .val (.int (4 : Int32)), .val (.ref bA), .val (.ref d_1), .val (.int q), .unset, .unset, .unset, .unset, .unset, .unset, .unset, .unset]) rfl ?_
    show Steps p.tables e below (T1.setTop (mkF m 229 #[.val (.int sel), .val (.int qr), .val (.int base), .val (.long gaps), .second, .val (.int (2 : Int32)), .val (.int (4 : Int32)), .val (.ref bA), .val (.ref d_1), .val (.int q), .unset, .unset, .unset, .unset, .unset, .unset, .unset, .unset] [])) _
    refine X1.ldc2DoubleC hx hown (mvT hZ (hw _ (List.mem_of_getElem? (i := 8) rfl))) (g := (mkF m 229 #[.val (.int sel), .val (.int qr), .val (.int base), .val (.long gaps), .second, .val (.int (2 : Int32)), .val (.int (4 : Int32)), .val (.ref bA), .val (.ref d_1), .val (.int q), .unset, .unset, .unset, .unset, .unset, .unset, .unset, .unset] [])) rfl (hb hby at_229) _ ?_
    refine XS.iload X1.here hx rfl (hb hby at_232) rfl ?_
    refine XS.i2dS X1.here hx rfl (hb hby at_234) rfl (v := (FP.i2d q)) (rfl) ?_
    show Steps p.tables e below (T1.setTop (mkF m 235 #[.val (.int sel), .val (.int qr), .val (.int base), .val (.long gaps), .second, .val (.int (2 : Int32)), .val (.int (4 : Int32)), .val (.ref bA), .val (.ref d_1), .val (.int q), .unset, .unset, .unset, .unset, .unset, .unset, .unset, .unset] [(.double (FP.i2d q)), (.double (4623226492472524800 : UInt64))])) _
    refine XS.dmulS X1.here hx rfl (hb hby at_235) rfl hm1 (v := (own_m q)) (rfl) ?_
    refine XS.iload X1.here hx rfl (hb hby at_236) rfl ?_
    refine XS.iconst X1.here hx rfl (hb hby at_238) ?_
    show Steps p.tables e below (T1.setTop (mkF m 239 #[.val (.int sel), .val (.int qr), .val (.int base), .val (.long gaps), .second, .val (.int (2 : Int32)), .val (.int (4 : Int32)), .val (.ref bA), .val (.ref d_1), .val (.int q), .unset, .unset, .unset, .unset, .unset, .unset, .unset, .unset] [(.int (1 : Int32)), (.int (4 : Int32)), (.double (own_m q))])) _
    refine XS.iadd X1.here hx rfl (hb hby at_239) rfl ?_
    refine XS.i2dS X1.here hx rfl (hb hby at_240) rfl (v := (FP.i2d ((4 : Int32) + (1 : Int32)))) (rfl) ?_
    refine XS.ddivS X1.here hx rfl (hb hby at_241) rfl hm2 (v := (own_pct (4 : Int32) q)) (rfl) ?_
    show Steps p.tables e below (T1.setTop (mkF m 242 #[.val (.int sel), .val (.int qr), .val (.int base), .val (.long gaps), .second, .val (.int (2 : Int32)), .val (.int (4 : Int32)), .val (.ref bA), .val (.ref d_1), .val (.int q), .unset, .unset, .unset, .unset, .unset, .unset, .unset, .unset] [(.double (own_pct (4 : Int32) q))])) _
    refine XS.dstore X1.here hx rfl (hb hby at_242) rfl (l' := #[.val (.int sel), .val (.int qr), .val (.int base), .val (.long gaps), .second, .val (.int (2 : Int32)), .val (.int (4 : Int32)), .val (.ref bA), .val (.ref d_1), .val (.int q), .val (.double (own_pct (4 : Int32) q)), .second, .unset, .unset, .unset, .unset, .unset, .unset]) rfl ?_
    refine XS.aload X1.here hx rfl (hb hby at_244) rfl rfl ?_
    refine XS.dload X1.here hx rfl (hb hby at_246) rfl ?_
    show Steps p.tables e below (T1.setTop (mkF m 248 #[.val (.int sel), .val (.int qr), .val (.int base), .val (.long gaps), .second, .val (.int (2 : Int32)), .val (.int (4 : Int32)), .val (.ref bA), .val (.ref d_1), .val (.int q), .val (.double (own_pct (4 : Int32) q)), .second, .unset, .unset, .unset, .unset, .unset, .unset] [(.double (own_pct (4 : Int32) q)), (.ref d_1)])) _
    refine st2 _ ?_
    refine XS.dstore X2.here hx rfl (hb hby at_251) rfl (l' := #[.val (.int sel), .val (.int qr), .val (.int base), .val (.long gaps), .second, .val (.int (2 : Int32)), .val (.int (4 : Int32)), .val (.ref bA), .val (.ref d_1), .val (.int q), .val (.double (own_pct (4 : Int32) q)), .second, .val (.double (FP.dadd (FP.l2d lo) (FP.dmul fr (FP.dsub (FP.l2d hi) (FP.l2d lo))))), .second, .unset, .unset, .unset, .unset]) rfl ?_
    refine XS.iload X2.here hx rfl (hb hby at_253) rfl ?_
    show Steps p.tables e below (T2.setTop (mkF m 255 #[.val (.int sel), .val (.int qr), .val (.int base), .val (.long gaps), .second, .val (.int (2 : Int32)), .val (.int (4 : Int32)), .val (.ref bA), .val (.ref d_1), .val (.int q), .val (.double (own_pct (4 : Int32) q)), .second, .val (.double (FP.dadd (FP.l2d lo) (FP.dmul fr (FP.dsub (FP.l2d hi) (FP.l2d lo))))), .second, .unset, .unset, .unset, .unset] [(.int q)])) _
    refine XS.bipush X2.here hx rfl (hb hby at_255) ?_
    refine XS.icmpYes X2.here hx rfl (pc0 := 257) (pc' := 273) rfl (hb hby at_257) rfl (flt (hq8 : ¬ (q < (8 : Int32)))).2.1 (by decide) (by decide) ?_
    refine XS.iload X2.here hx rfl (hb hby at_273) rfl ?_
    show Steps p.tables e below (T2.setTop (mkF m 275 #[.val (.int sel), .val (.int qr), .val (.int base), .val (.long gaps), .second, .val (.int (2 : Int32)), .val (.int (4 : Int32)), .val (.ref bA), .val (.ref d_1), .val (.int q), .val (.double (own_pct (4 : Int32) q)), .second, .val (.double (FP.dadd (FP.l2d lo) (FP.dmul fr (FP.dsub (FP.l2d hi) (FP.l2d lo))))), .second, .unset, .unset, .unset, .unset] [(.int q)])) _
    refine XS.bipush X2.here hx rfl (hb hby at_275) ?_
    refine XS.iload X2.here hx rfl (hb hby at_277) rfl ?_
    refine XS.imul X2.here hx rfl (hb hby at_279) rfl ?_
    show Steps p.tables e below (T2.setTop (mkF m 280 #[.val (.int sel), .val (.int qr), .val (.int base), .val (.long gaps), .second, .val (.int (2 : Int32)), .val (.int (4 : Int32)), .val (.ref bA), .val (.ref d_1), .val (.int q), .val (.double (own_pct (4 : Int32) q)), .second, .val (.double (FP.dadd (FP.l2d lo) (FP.dmul fr (FP.dsub (FP.l2d hi) (FP.l2d lo))))), .second, .unset, .unset, .unset, .unset] [(.int ((8 : Int32) * (4 : Int32))), (.int q)])) _
    refine XS.icmpYes X2.here hx rfl (pc0 := 280) (pc' := 299) rfl (hb hby at_280) rfl (tlt (hq8n : q < ((8 : Int32) * (4 : Int32)))).1 (by decide) (by decide) ?_
    refine XS.iload X2.here hx rfl (hb hby at_299) rfl ?_
    refine XS.bipush X2.here hx rfl (hb hby at_301) ?_
    show Steps p.tables e below (T2.setTop (mkF m 303 #[.val (.int sel), .val (.int qr), .val (.int base), .val (.long gaps), .second, .val (.int (2 : Int32)), .val (.int (4 : Int32)), .val (.ref bA), .val (.ref d_1), .val (.int q), .val (.double (own_pct (4 : Int32) q)), .second, .val (.double (FP.dadd (FP.l2d lo) (FP.dmul fr (FP.dsub (FP.l2d hi) (FP.l2d lo))))), .second, .unset, .unset, .unset, .unset] [(.int (8 : Int32)), (.int q)])) _
    refine XS.idiv X2.here hx rfl (hb hby at_303) rfl (by decide) ?_
    show Steps p.tables e below (T2.setTop (mkF m 304 #[.val (.int sel), .val (.int qr), .val (.int base), .val (.long gaps), .second, .val (.int (2 : Int32)), .val (.int (4 : Int32)), .val (.ref bA), .val (.ref d_1), .val (.int q), .val (.double (own_pct (4 : Int32) q)), .second, .val (.double (FP.dadd (FP.l2d lo) (FP.dmul fr (FP.dsub (FP.l2d hi) (FP.l2d lo))))), .second, .unset, .unset, .unset, .unset] [(.int (q / (8 : Int32)))])) _
    rw [show (q / (8 : Int32)) = bb from hd1]
    refine XS.istore X2.here hx rfl (hb hby at_304) rfl (l' := #[.val (.int sel), .val (.int qr), .val (.int base), .val (.long gaps), .second, .val (.int (2 : Int32)), .val (.int (4 : Int32)), .val (.ref bA), .val (.ref d_1), .val (.int q), .val (.double (own_pct (4 : Int32) q)), .second, .val (.double (FP.dadd (FP.l2d lo) (FP.dmul fr (FP.dsub (FP.l2d hi) (FP.l2d lo))))), .second, .unset, .unset, .val (.int bb), .unset]) rfl ?_
    refine XS.iload X2.here hx rfl (hb hby at_306) rfl ?_
    show Steps p.tables e below (T2.setTop (mkF m 308 #[.val (.int sel), .val (.int qr), .val (.int base), .val (.long gaps), .second, .val (.int (2 : Int32)), .val (.int (4 : Int32)), .val (.ref bA), .val (.ref d_1), .val (.int q), .val (.double (own_pct (4 : Int32) q)), .second, .val (.double (FP.dadd (FP.l2d lo) (FP.dmul fr (FP.dsub (FP.l2d hi) (FP.l2d lo))))), .second, .unset, .unset, .val (.int bb), .unset] [(.int q)])) _
    refine XS.bipush X2.here hx rfl (hb hby at_308) ?_
    refine iremM X2 hx rfl (hb hby at_310) rfl (by decide) ?_
    show Steps p.tables e below (T2.setTop (mkF m 311 #[.val (.int sel), .val (.int qr), .val (.int base), .val (.long gaps), .second, .val (.int (2 : Int32)), .val (.int (4 : Int32)), .val (.ref bA), .val (.ref d_1), .val (.int q), .val (.double (own_pct (4 : Int32) q)), .second, .val (.double (FP.dadd (FP.l2d lo) (FP.dmul fr (FP.dsub (FP.l2d hi) (FP.l2d lo))))), .second, .unset, .unset, .val (.int bb), .unset] [(.int (q % (8 : Int32)))])) _
    rw [show (q % (8 : Int32)) = kk from hd2]
    refine XS.istore X2.here hx rfl (hb hby at_311) rfl (l' := #[.val (.int sel), .val (.int qr), .val (.int base), .val (.long gaps), .second, .val (.int (2 : Int32)), .val (.int (4 : Int32)), .val (.ref bA), .val (.ref d_1), .val (.int q), .val (.double (own_pct (4 : Int32) q)), .second, .val (.double (FP.dadd (FP.l2d lo) (FP.dmul fr (FP.dsub (FP.l2d hi) (FP.l2d lo))))), .second, .unset, .unset, .val (.int bb), .val (.int kk)]) rfl ?_
    show Steps p.tables e below (T2.setTop (mkF m 313 #[.val (.int sel), .val (.int qr), .val (.int base), .val (.long gaps), .second, .val (.int (2 : Int32)), .val (.int (4 : Int32)), .val (.ref bA), .val (.ref d_1), .val (.int q), .val (.double (own_pct (4 : Int32) q)), .second, .val (.double (FP.dadd (FP.l2d lo) (FP.dmul fr (FP.dsub (FP.l2d hi) (FP.l2d lo))))), .second, .unset, .unset, .val (.int bb), .val (.int kk)] [])) _
    refine XS.bipush X2.here hx rfl (hb hby at_313) ?_
    refine XS.iload X2.here hx rfl (hb hby at_315) rfl ?_
    refine XS.isub X2.here hx rfl (hb hby at_317) rfl ?_
    show Steps p.tables e below (T2.setTop (mkF m 318 #[.val (.int sel), .val (.int qr), .val (.int base), .val (.long gaps), .second, .val (.int (2 : Int32)), .val (.int (4 : Int32)), .val (.ref bA), .val (.ref d_1), .val (.int q), .val (.double (own_pct (4 : Int32) q)), .second, .val (.double (FP.dadd (FP.l2d lo) (FP.dmul fr (FP.dsub (FP.l2d hi) (FP.l2d lo))))), .second, .unset, .unset, .val (.int bb), .val (.int kk)] [(.int ((8 : Int32) - kk))])) _
    refine XS.i2l X2.here hx rfl (hb hby at_318) rfl ?_
    refine XS.aload X2.here hx rfl (hb hby at_319) rfl rfl ?_
    refine XS.iload X2.here hx rfl (hb hby at_321) rfl ?_
    show Steps p.tables e below (T2.setTop (mkF m 323 #[.val (.int sel), .val (.int qr), .val (.int base), .val (.long gaps), .second, .val (.int (2 : Int32)), .val (.int (4 : Int32)), .val (.ref bA), .val (.ref d_1), .val (.int q), .val (.double (own_pct (4 : Int32) q)), .second, .val (.double (FP.dadd (FP.l2d lo) (FP.dmul fr (FP.dsub (FP.l2d hi) (FP.l2d lo))))), .second, .unset, .unset, .val (.int bb), .val (.int kk)] [(.int bb), (.ref bA), (.long (((8 : Int32) - kk).toInt64))])) _
    refine XS.iconst X2.here hx rfl (hb hby at_323) ?_
    refine XS.isub X2.here hx rfl (hb hby at_324) rfl ?_
    show Steps p.tables e below (T2.setTop (mkF m 325 #[.val (.int sel), .val (.int qr), .val (.int base), .val (.long gaps), .second, .val (.int (2 : Int32)), .val (.int (4 : Int32)), .val (.ref bA), .val (.ref d_1), .val (.int q), .val (.double (own_pct (4 : Int32) q)), .second, .val (.double (FP.dadd (FP.l2d lo) (FP.dmul fr (FP.dsub (FP.l2d hi) (FP.l2d lo))))), .second, .unset, .unset, .val (.int bb), .val (.int kk)] [(.int (bb - (1 : Int32))), (.ref bA), (.long (((8 : Int32) - kk).toInt64))])) _
    rw [show (bb - (1 : Int32)) = b1 from hb1]
    show Steps p.tables e below (T2.setTop (mkF m 325 #[.val (.int sel), .val (.int qr), .val (.int base), .val (.long gaps), .second, .val (.int (2 : Int32)), .val (.int (4 : Int32)), .val (.ref bA), .val (.ref d_1), .val (.int q), .val (.double (own_pct (4 : Int32) q)), .second, .val (.double (FP.dadd (FP.l2d lo) (FP.dmul fr (FP.dsub (FP.l2d hi) (FP.l2d lo))))), .second, .unset, .unset, .val (.int bb), .val (.int kk)] [(.int b1), (.ref bA), (.long (((8 : Int32) - kk).toInt64))])) _
    refine X2.laload hx (j := b1) (v := (.long lo)) (by rw [eq2]; exact Ar3.1) (State.isArrayOf_alike hZ.alike Ar3.2.1) Ar3.2.2 hin3 hat3 (g := (mkF m 325 #[.val (.int sel), .val (.int qr), .val (.int base), .val (.long gaps), .second, .val (.int (2 : Int32)), .val (.int (4 : Int32)), .val (.ref bA), .val (.ref d_1), .val (.int q), .val (.double (own_pct (4 : Int32) q)), .second, .val (.double (FP.dadd (FP.l2d lo) (FP.dmul fr (FP.dsub (FP.l2d hi) (FP.l2d lo))))), .second, .unset, .unset, .val (.int bb), .val (.int kk)] [(.int b1), (.ref bA), (.long (((8 : Int32) - kk).toInt64))])) rfl rfl (hb hby at_325) _ ?_
    refine XS.lmul X2.here hx rfl (hb hby at_326) rfl ?_
    refine XS.iload X2.here hx rfl (hb hby at_327) rfl ?_
    show Steps p.tables e below (T2.setTop (mkF m 329 #[.val (.int sel), .val (.int qr), .val (.int base), .val (.long gaps), .second, .val (.int (2 : Int32)), .val (.int (4 : Int32)), .val (.ref bA), .val (.ref d_1), .val (.int q), .val (.double (own_pct (4 : Int32) q)), .second, .val (.double (FP.dadd (FP.l2d lo) (FP.dmul fr (FP.dsub (FP.l2d hi) (FP.l2d lo))))), .second, .unset, .unset, .val (.int bb), .val (.int kk)] [(.int kk), (.long ((((8 : Int32) - kk).toInt64) * lo))])) _
    refine XS.i2l X2.here hx rfl (hb hby at_329) rfl ?_
    refine XS.aload X2.here hx rfl (hb hby at_330) rfl rfl ?_
    refine XS.iload X2.here hx rfl (hb hby at_332) rfl ?_
    show Steps p.tables e below (T2.setTop (mkF m 334 #[.val (.int sel), .val (.int qr), .val (.int base), .val (.long gaps), .second, .val (.int (2 : Int32)), .val (.int (4 : Int32)), .val (.ref bA), .val (.ref d_1), .val (.int q), .val (.double (own_pct (4 : Int32) q)), .second, .val (.double (FP.dadd (FP.l2d lo) (FP.dmul fr (FP.dsub (FP.l2d hi) (FP.l2d lo))))), .second, .unset, .unset, .val (.int bb), .val (.int kk)] [(.int bb), (.ref bA), (.long (kk.toInt64)), (.long ((((8 : Int32) - kk).toInt64) * lo))])) _
    refine X2.laload hx (j := bb) (v := (.long hi)) (by rw [eq2]; exact Ar4.1) (State.isArrayOf_alike hZ.alike Ar4.2.1) Ar4.2.2 hin4 hat4 (g := (mkF m 334 #[.val (.int sel), .val (.int qr), .val (.int base), .val (.long gaps), .second, .val (.int (2 : Int32)), .val (.int (4 : Int32)), .val (.ref bA), .val (.ref d_1), .val (.int q), .val (.double (own_pct (4 : Int32) q)), .second, .val (.double (FP.dadd (FP.l2d lo) (FP.dmul fr (FP.dsub (FP.l2d hi) (FP.l2d lo))))), .second, .unset, .unset, .val (.int bb), .val (.int kk)] [(.int bb), (.ref bA), (.long (kk.toInt64)), (.long ((((8 : Int32) - kk).toInt64) * lo))])) rfl rfl (hb hby at_334) _ ?_
    refine XS.lmul X2.here hx rfl (hb hby at_335) rfl ?_
    refine XS.ladd X2.here hx rfl (hb hby at_336) rfl ?_
    show Steps p.tables e below (T2.setTop (mkF m 337 #[.val (.int sel), .val (.int qr), .val (.int base), .val (.long gaps), .second, .val (.int (2 : Int32)), .val (.int (4 : Int32)), .val (.ref bA), .val (.ref d_1), .val (.int q), .val (.double (own_pct (4 : Int32) q)), .second, .val (.double (FP.dadd (FP.l2d lo) (FP.dmul fr (FP.dsub (FP.l2d hi) (FP.l2d lo))))), .second, .unset, .unset, .val (.int bb), .val (.int kk)] [(.long (((((8 : Int32) - kk).toInt64) * lo) + ((kk.toInt64) * hi)))])) _
    refine XS.lstore X2.here hx rfl (hb hby at_337) rfl (l' := #[.val (.int sel), .val (.int qr), .val (.int base), .val (.long gaps), .second, .val (.int (2 : Int32)), .val (.int (4 : Int32)), .val (.ref bA), .val (.ref d_1), .val (.int q), .val (.double (own_pct (4 : Int32) q)), .second, .val (.double (FP.dadd (FP.l2d lo) (FP.dmul fr (FP.dsub (FP.l2d hi) (FP.l2d lo))))), .second, .val (.long (((((8 : Int32) - kk).toInt64) * lo) + ((kk.toInt64) * hi))), .second, .val (.int bb), .val (.int kk)]) rfl ?_
    refine XS.dload X2.here hx rfl (hb hby at_339) rfl ?_
    show Steps p.tables e below (T2.setTop (mkF m 341 #[.val (.int sel), .val (.int qr), .val (.int base), .val (.long gaps), .second, .val (.int (2 : Int32)), .val (.int (4 : Int32)), .val (.ref bA), .val (.ref d_1), .val (.int q), .val (.double (own_pct (4 : Int32) q)), .second, .val (.double (FP.dadd (FP.l2d lo) (FP.dmul fr (FP.dsub (FP.l2d hi) (FP.l2d lo))))), .second, .val (.long (((((8 : Int32) - kk).toInt64) * lo) + ((kk.toInt64) * hi))), .second, .val (.int bb), .val (.int kk)] [(.double (FP.dadd (FP.l2d lo) (FP.dmul fr (FP.dsub (FP.l2d hi) (FP.l2d lo)))))])) _
    refine X2.ldc2DoubleC hx hown (mvT hZ (hw _ (List.mem_of_getElem? (i := 15) rfl))) (g := (mkF m 341 #[.val (.int sel), .val (.int qr), .val (.int base), .val (.long gaps), .second, .val (.int (2 : Int32)), .val (.int (4 : Int32)), .val (.ref bA), .val (.ref d_1), .val (.int q), .val (.double (own_pct (4 : Int32) q)), .second, .val (.double (FP.dadd (FP.l2d lo) (FP.dmul fr (FP.dsub (FP.l2d hi) (FP.l2d lo))))), .second, .val (.long (((((8 : Int32) - kk).toInt64) * lo) + ((kk.toInt64) * hi))), .second, .val (.int bb), .val (.int kk)] [(.double (FP.dadd (FP.l2d lo) (FP.dmul fr (FP.dsub (FP.l2d hi) (FP.l2d lo)))))])) rfl (hb hby at_341) _ ?_
    refine XS.dmulS X2.here hx rfl (hb hby at_344) rfl hn344 (v := (FP.dmul (FP.dadd (FP.l2d lo) (FP.dmul fr (FP.dsub (FP.l2d hi) (FP.l2d lo)))) (4620693217682128896 : UInt64))) (rfl) ?_
    refine XS.lload X2.here hx rfl (hb hby at_345) rfl ?_
    show Steps p.tables e below (T2.setTop (mkF m 347 #[.val (.int sel), .val (.int qr), .val (.int base), .val (.long gaps), .second, .val (.int (2 : Int32)), .val (.int (4 : Int32)), .val (.ref bA), .val (.ref d_1), .val (.int q), .val (.double (own_pct (4 : Int32) q)), .second, .val (.double (FP.dadd (FP.l2d lo) (FP.dmul fr (FP.dsub (FP.l2d hi) (FP.l2d lo))))), .second, .val (.long (((((8 : Int32) - kk).toInt64) * lo) + ((kk.toInt64) * hi))), .second, .val (.int bb), .val (.int kk)] [(.long (((((8 : Int32) - kk).toInt64) * lo) + ((kk.toInt64) * hi))), (.double (FP.dmul (FP.dadd (FP.l2d lo) (FP.dmul fr (FP.dsub (FP.l2d hi) (FP.l2d lo)))) (4620693217682128896 : UInt64)))])) _
    refine XS.l2dS X2.here hx rfl (hb hby at_347) rfl (v := (FP.l2d (((((8 : Int32) - kk).toInt64) * lo) + ((kk.toInt64) * hi)))) (rfl) ?_
    refine XS.dcmpS X2.here hx rfl (hb hby at_348) rfl (v := (0 : Int32)) (hv348) ?_
    refine XS.ifNo X2.here hx rfl (hb hby at_349) rfl ((if0 _ _).trans (teq (by decide : (0 : Int32) = (0 : Int32))).2) ?_
    show Steps p.tables e below (T2.setTop (mkF m 352 #[.val (.int sel), .val (.int qr), .val (.int base), .val (.long gaps), .second, .val (.int (2 : Int32)), .val (.int (4 : Int32)), .val (.ref bA), .val (.ref d_1), .val (.int q), .val (.double (own_pct (4 : Int32) q)), .second, .val (.double (FP.dadd (FP.l2d lo) (FP.dmul fr (FP.dsub (FP.l2d hi) (FP.l2d lo))))), .second, .val (.long (((((8 : Int32) - kk).toInt64) * lo) + ((kk.toInt64) * hi))), .second, .val (.int bb), .val (.int kk)] [])) _
    refine XS.iconst X2.here hx rfl (hb hby at_352) ?_
    refine XS.goto X2.here hx rfl (pc0 := 353) (pc' := 357) rfl (hb hby at_353) (by decide) (by decide) ?_
    show Steps p.tables e below (T2.setTop (mkF m 357 #[.val (.int sel), .val (.int qr), .val (.int base), .val (.long gaps), .second, .val (.int (2 : Int32)), .val (.int (4 : Int32)), .val (.ref bA), .val (.ref d_1), .val (.int q), .val (.double (own_pct (4 : Int32) q)), .second, .val (.double (FP.dadd (FP.l2d lo) (FP.dmul fr (FP.dsub (FP.l2d hi) (FP.l2d lo))))), .second, .val (.long (((((8 : Int32) - kk).toInt64) * lo) + ((kk.toInt64) * hi))), .second, .val (.int bb), .val (.int kk)] [(.int (1 : Int32))])) _
    exact retN X2 hx (t := .boolean) Bd.returns (by simp) (hb hby at_357) hr
  · show QL n0 _ T2.heap _
    rw [eq2]
    exact ⟨rfl, N2⟩
set_option maxRecDepth 65536 in
set_option maxHeartbeats 40000000 in
theorem rm0a7 (l : Launch) (Z : State) (a0 : Array Value) (hw : ∀ d ∈ tables_1, d.before a0 Z = true) (ws : List Jvm.Cond) (sel qr base : Int32) (gaps : Int64) (s0 s1 s2 s3 s4 s5 s6 s7 s8 : Int64) (q : Int32) (h0 : Heap) (n0 : Nat) (Z0 : n0 ≤ h0.size) (hch : ((sel &&& (2147483647 : Int32)) % (5 : Int32)) = (3 : Int32)) (hs0 : (base.toInt64) = s0) (hs1 : s0 + (gaps &&& (255 : Int64)) = s1) (hs2 : s1 + (((gaps.toUInt64 >>> ((8 : Int32) &&& 0x3f).toInt64.toUInt64).toInt64) &&& (255 : Int64)) = s2) (hs3 : s2 + (((gaps.toUInt64 >>> ((16 : Int32) &&& 0x3f).toInt64.toUInt64).toInt64) &&& (255 : Int64)) = s3) (hs4 : s3 + (((gaps.toUInt64 >>> ((24 : Int32) &&& 0x3f).toInt64.toUInt64).toInt64) &&& (255 : Int64)) = s4) (hs5 : s4 + (((gaps.toUInt64 >>> ((32 : Int32) &&& 0x3f).toInt64.toUInt64).toInt64) &&& (255 : Int64)) = s5) (hs6 : s5 + (((gaps.toUInt64 >>> ((40 : Int32) &&& 0x3f).toInt64.toUInt64).toInt64) &&& (255 : Int64)) = s6) (hs7 : s6 + (((gaps.toUInt64 >>> ((48 : Int32) &&& 0x3f).toInt64.toUInt64).toInt64) &&& (255 : Int64)) = s7) (hs8 : s7 + (((gaps.toUInt64 >>> ((56 : Int32) &&& 0x3f).toInt64.toUInt64).toInt64) &&& (255 : Int64)) = s8) (hqq : (((qr &&& (2147483647 : Int32)) % (((8 : Int32) * (7 : Int32)) + (33 : Int32))) - (16 : Int32)) = q) (hm1 : Jvm.Free.Fl.NoNaN64 (own_m q)) (hm2 : Jvm.Free.Fl.NoNaN64 (own_pct (7 : Int32) q)) (hp1 : Jvm.Free.Fl.NoNaN64 (own_pm (7 : Int32) q)) (hp2 : Jvm.Free.Fl.NoNaN64 (own_pos (7 : Int32) q)) (hn344 : Jvm.Free.Fl.NoNaN64 (FP.dmul (FP.l2d s0) (4620693217682128896 : UInt64))) (hv348 : cmpValue (FP.dcmp (FP.dmul (FP.l2d s0) (4620693217682128896 : UInt64)) (FP.l2d ((8 : Int64) * s0))) .l = (0 : Int32)) (hq8 : q < (8 : Int32)) (hcA : own_cA (7 : Int32) q < (0 : Int32))   :
    MetFree l x (head1 (Jvm.Cond.code x code maxLocals ret :: ws) room_1) (fun a U => a = #[(.int sel), (.int qr), (.int base), (.long gaps)] ∧ Z.Warmed39 U.vm ∧ U.heap = h0) (fun _ _ _ _ _ => True) (fun _ U o U' => ∃ v L, o = .returned v ∧ QL n0 v U'.heap L ∧ FrameEnd U o U' L 2 16) := by
  refine MetFree.of_bodySF (plainFor_of_name pn_com_example_bytegauge_bytegauge_stats_JsonTablePercentilePinLaw) hisR ?_
  intro p e s m args below meth c s₁ Bd hml0 hP hK
  obtain ⟨rfl, hZ, hh⟩ := hP
  have hx := Bd.exec
  have hby := Bd.bytes
  have hml : c.maxLocals = 18 := hml0
  have hown : s.vm.findClass "com/example/bytegauge/bytegauge/stats/JsonTablePercentilePinLaw" = some m.cls := findClass_of_methodNamed Bd.named
  have hnm := (name_of_methodNamed Bd.named Bd.method).1
  have X0 : Stand p l e room_1 s m #[(.int sel), (.int qr), (.int base), (.long gaps)] below meth c s₁ [] 0 0 := Stand.of_body Bd
  have e0 : s₁.heap = h0 := by rw [← hh, Bd.state]; rfl
  have N0 := Fr.nil n0
  have pre0 : ∀ t, Steps p.tables e below (s₁.setTop (mkF m 0 #[.val (.int sel), .val (.int qr), .val (.int base), .val (.long gaps), .second, .unset, .unset, .unset, .unset, .unset, .unset, .unset, .unset, .unset, .unset, .unset, .unset, .unset] [])) t → Steps p.tables e below (s₁.setTop (entryFrame m #[(.int sel), (.int qr), (.int base), (.long gaps)] maxLocals)) t := fun t k => castTop (ef_code m sel qr base gaps) k
  obtain ⟨TA, hA, LA, bA, kA, XA, eA, NA, SZA, g_bA, VA, stA⟩ := segA h0 n0 Z0 sel qr base gaps (3 : Int32) (7 : Int32) s0 s1 s2 s3 s4 s5 s6 s7 s8 X0 hx hZ hw hby hml hown e0 hs0 hs1 hs2 hs3 hs4 hs5 hs6 hs7 hs8
  obtain ⟨_, _, ⟨T1, L1, k1, n1⟩, -, X1, ⟨Lc1, hQ1, l1, y1, z1⟩, st1⟩ := Jvm.LawKit.callS XA hx (y := (⟨"com/example/bytegauge/bytegauge/stats/JsonTablePercentilePinLaw", "sortedOf", "(I[J)[D"⟩ : MethodName)) hown (mvT hZ (hw _ (List.mem_of_getElem? (i := 3) rfl))) (mvT hZ (hw _ (List.mem_of_getElem? (i := 4) rfl))) (mvT hZ (hw _ (List.mem_of_getElem? (i := 5) rfl))) (mvT hZ (hw _ (List.mem_of_getElem? (i := 6) rfl))) (by decide) (backOf (W := 0) (rmS7 l Z a0 hw [] bA kA s0 s1 s2 s3 s4 s5 s6 s7 s8 hA n0 SZA VA) hZ (hw _ (List.mem_of_getElem? (i := 6) rfl)) (hw _ (List.mem_of_getElem? (i := 5) rfl)) (by decide) (by decide)) (g := (mkF m 206 #[.val (.int sel), .val (.int qr), .val (.int base), .val (.long gaps), .second, .val (.int (3 : Int32)), .val (.int (7 : Int32)), .val (.ref bA), .unset, .unset, .unset, .unset, .unset, .unset, .unset, .unset, .unset, .unset] [(.ref bA), (.int (7 : Int32))])) rfl (by rw [hml]; rfl) (argsL := [(.int (7 : Int32)), (.ref bA)]) (rest := []) (lenOf pd__I_J__D rfl) rfl (by show 2 * 0 + _ ≤ _; exact Nat.le_of_eq rfl) (hb hby at_206) (fun _ _ => ⟨rfl, eA, (by decide : 1 + 1 ≤ _), (by decide : 9 + 7 ≤ _)⟩)
  dsimp only [Pt.U, Pt.locs, Pt.cells, Pt.slots] at X1 l1 y1 z1 st1 hQ1
  subst l1 y1 z1
  obtain ⟨d_1, kd1, rfl, N1q, g_d_1, sz_d_1, K1q, V1q⟩ := hQ1
  have c1_0 := VA.keep K1q List.not_mem_nil
  have SZ1 := Nat.le_trans SZA K1q.1
  have N1 := Fr.app NA N1q
  obtain ⟨_, _, ⟨T2, L2, k2, n2⟩, -, X2, ⟨Lc2, hQ2, l2, y2, z2⟩, st2⟩ := Jvm.LawKit.callS X1 hx (y := (⟨"com/example/bytegauge/bytegauge/stats/JsonTable", "percentile", "([DD)D"⟩ : MethodName)) hown (mvT hZ (hw _ (List.mem_of_getElem? (i := 9) rfl))) (mvT hZ (hw _ (List.mem_of_getElem? (i := 10) rfl))) (mvT hZ (hw _ (List.mem_of_getElem? (i := 11) rfl))) (mvT hZ (hw _ (List.mem_of_getElem? (i := 12) rfl))) (by decide) (backOf (W := 0) (rmPa7 l Z a0 hw [] d_1 kd1 s0 s1 s2 s3 s4 s5 s6 s7 s8 (own_pct (7 : Int32) q) (own_pos (7 : Int32) q) T1.heap n0 SZ1 V1q hp1 hp2 rfl _ rfl hcA) hZ (hw _ (List.mem_of_getElem? (i := 12) rfl)) (hw _ (List.mem_of_getElem? (i := 11) rfl)) (by decide) (by decide)) (g := (mkF m 248 #[.val (.int sel), .val (.int qr), .val (.int base), .val (.long gaps), .second, .val (.int (3 : Int32)), .val (.int (7 : Int32)), .val (.ref bA), .val (.ref d_1), .val (.int q), .val (.double (own_pct (7 : Int32) q)), .second, .unset, .unset, .unset, .unset, .unset, .unset] [(.double (own_pct (7 : Int32) q)), (.ref d_1)])) rfl (by rw [hml]; rfl) (argsL := [(.ref d_1), (.double (own_pct (7 : Int32) q))]) (rest := []) (lenOf pd___DD_D rfl) rfl (by show 2 * 0 + _ ≤ _; exact Nat.le_of_eq rfl) (hb hby at_248) (fun _ _ => ⟨rfl, rfl, (by decide : 2 + 0 ≤ _), (by decide : 16 + 0 ≤ _)⟩)
  dsimp only [Pt.U, Pt.locs, Pt.cells, Pt.slots] at X2 l2 y2 z2 st2 hQ2
  subst l2 y2 z2
  obtain ⟨rfl, N2q, eq2⟩ := hQ2
  have N2 := Fr.app N1 N2q
  obtain ⟨cl3, Ar3, -, S3, Nn3, H3, -⟩ := id c1_0
  have hin3 : ¬ ((0 : Int32) < 0 ∨ cl3.slots.size ≤ ((0 : Int32)).toNatClampNeg) := inb_of S3 ⟨by decide, by decide⟩
  have hat3 : cl3.slots[((0 : Int32)).toNatClampNeg]? = some (.long s0) := H3.at hin3 rfl
  obtain ⟨fs, hr, hrun, hended, hW, hsame⟩ := X2.leave (v := some (.int (1 : Int32))) (fun h => by rw [Bd.returns] at h; cases h)
  refine ⟨_, _, pre0 _ ?_, hrun, hended, _, _, rfl, ?_, ⟨_, rfl⟩, hW, hsame.mono (by decide) (by decide)⟩
  · show Steps p.tables e below (s₁.setTop (mkF m 0 #[.val (.int sel), .val (.int qr), .val (.int base), .val (.long gaps), .second, .unset, .unset, .unset, .unset, .unset, .unset, .unset, .unset, .unset, .unset, .unset, .unset, .unset] [])) _
    refine XS.iloadN X0.here hx rfl (hb hby at_0) rfl ?_
    show Steps p.tables e below (s₁.setTop (mkF m 1 #[.val (.int sel), .val (.int qr), .val (.int base), .val (.long gaps), .second, .unset, .unset, .unset, .unset, .unset, .unset, .unset, .unset, .unset, .unset, .unset, .unset, .unset] [(.int sel)])) _
    refine X0.ldcInt hx hown (mvT hZ (hw _ (List.mem_of_getElem? (i := 0) rfl))) (g := (mkF m 1 #[.val (.int sel), .val (.int qr), .val (.int base), .val (.long gaps), .second, .unset, .unset, .unset, .unset, .unset, .unset, .unset, .unset, .unset, .unset, .unset, .unset, .unset] [(.int sel)])) rfl (hb hby at_1) _ ?_
    refine XS.iand X0.here hx rfl (hb hby at_3) rfl ?_
    refine XS.iconst X0.here hx rfl (hb hby at_4) ?_
    show Steps p.tables e below (s₁.setTop (mkF m 5 #[.val (.int sel), .val (.int qr), .val (.int base), .val (.long gaps), .second, .unset, .unset, .unset, .unset, .unset, .unset, .unset, .unset, .unset, .unset, .unset, .unset, .unset] [(.int (5 : Int32)), (.int (sel &&& (2147483647 : Int32)))])) _
    refine iremM X0 hx rfl (hb hby at_5) rfl (by decide) ?_
    show Steps p.tables e below (s₁.setTop (mkF m 6 #[.val (.int sel), .val (.int qr), .val (.int base), .val (.long gaps), .second, .unset, .unset, .unset, .unset, .unset, .unset, .unset, .unset, .unset, .unset, .unset, .unset, .unset] [(.int ((sel &&& (2147483647 : Int32)) % (5 : Int32)))])) _
    rw [show ((sel &&& (2147483647 : Int32)) % (5 : Int32)) = (3 : Int32) from hch]
    refine XS.istore X0.here hx rfl (hb hby at_6) rfl (l' := #[.val (.int sel), .val (.int qr), .val (.int base), .val (.long gaps), .second, .val (.int (3 : Int32)), .unset, .unset, .unset, .unset, .unset, .unset, .unset, .unset, .unset, .unset, .unset, .unset]) rfl ?_
    refine XS.iload X0.here hx rfl (hb hby at_8) rfl ?_
    show Steps p.tables e below (s₁.setTop (mkF m 10 #[.val (.int sel), .val (.int qr), .val (.int base), .val (.long gaps), .second, .val (.int (3 : Int32)), .unset, .unset, .unset, .unset, .unset, .unset, .unset, .unset, .unset, .unset, .unset, .unset] [(.int (3 : Int32))])) _
    refine XS.ifYes X0.here hx rfl (pc0 := 10) (pc' := 17) rfl (hb hby at_10) rfl ((if0 _ _).trans (feq (by decide : ¬ ((3 : Int32) = (0 : Int32)))).2) (by decide) (by decide) ?_
    refine XS.iload X0.here hx rfl (hb hby at_17) rfl ?_
    refine XS.iconst X0.here hx rfl (hb hby at_19) ?_
    show Steps p.tables e below (s₁.setTop (mkF m 20 #[.val (.int sel), .val (.int qr), .val (.int base), .val (.long gaps), .second, .val (.int (3 : Int32)), .unset, .unset, .unset, .unset, .unset, .unset, .unset, .unset, .unset, .unset, .unset, .unset] [(.int (1 : Int32)), (.int (3 : Int32))])) _
    refine XS.icmpYes X0.here hx rfl (pc0 := 20) (pc' := 27) rfl (hb hby at_20) rfl (feq (by decide : ¬ ((3 : Int32) = (1 : Int32)))).2 (by decide) (by decide) ?_
    refine XS.iload X0.here hx rfl (hb hby at_27) rfl ?_
    refine XS.iconst X0.here hx rfl (hb hby at_29) ?_
    show Steps p.tables e below (s₁.setTop (mkF m 30 #[.val (.int sel), .val (.int qr), .val (.int base), .val (.long gaps), .second, .val (.int (3 : Int32)), .unset, .unset, .unset, .unset, .unset, .unset, .unset, .unset, .unset, .unset, .unset, .unset] [(.int (2 : Int32)), (.int (3 : Int32))])) _
    refine XS.icmpYes X0.here hx rfl (pc0 := 30) (pc' := 37) rfl (hb hby at_30) rfl (feq (by decide : ¬ ((3 : Int32) = (2 : Int32)))).2 (by decide) (by decide) ?_
    refine XS.iload X0.here hx rfl (hb hby at_37) rfl ?_
    refine XS.iconst X0.here hx rfl (hb hby at_39) ?_
    show Steps p.tables e below (s₁.setTop (mkF m 40 #[.val (.int sel), .val (.int qr), .val (.int base), .val (.long gaps), .second, .val (.int (3 : Int32)), .unset, .unset, .unset, .unset, .unset, .unset, .unset, .unset, .unset, .unset, .unset, .unset] [(.int (3 : Int32)), (.int (3 : Int32))])) _
    refine XS.icmpNo X0.here hx rfl (hb hby at_40) rfl (teq (by decide : (3 : Int32) = (3 : Int32))).2 ?_
    refine XS.bipush X0.here hx rfl (hb hby at_43) ?_
    refine XS.goto X0.here hx rfl (pc0 := 45) (pc' := 50) rfl (hb hby at_45) (by decide) (by decide) ?_
    show Steps p.tables e below (s₁.setTop (mkF m 50 #[.val (.int sel), .val (.int qr), .val (.int base), .val (.long gaps), .second, .val (.int (3 : Int32)), .unset, .unset, .unset, .unset, .unset, .unset, .unset, .unset, .unset, .unset, .unset, .unset] [(.int (7 : Int32))])) _
    refine XS.istore X0.here hx rfl (hb hby at_50) rfl (l' := #[.val (.int sel), .val (.int qr), .val (.int base), .val (.long gaps), .second, .val (.int (3 : Int32)), .val (.int (7 : Int32)), .unset, .unset, .unset, .unset, .unset, .unset, .unset, .unset, .unset, .unset, .unset]) rfl ?_
    show Steps p.tables e below (s₁.setTop (mkF m 52 #[.val (.int sel), .val (.int qr), .val (.int base), .val (.long gaps), .second, .val (.int (3 : Int32)), .val (.int (7 : Int32)), .unset, .unset, .unset, .unset, .unset, .unset, .unset, .unset, .unset, .unset, .unset] [])) _
    refine stA _ ?_
    show Steps p.tables e below (TA.setTop (mkF m 202 #[.val (.int sel), .val (.int qr), .val (.int base), .val (.long gaps), .second, .val (.int (3 : Int32)), .val (.int (7 : Int32)), .val (.ref bA), .unset, .unset, .unset, .unset, .unset, .unset, .unset, .unset, .unset, .unset] [])) _
    refine XS.iload XA.here hx rfl (hb hby at_202) rfl ?_
    refine XS.aload XA.here hx rfl (hb hby at_204) rfl rfl ?_
    show Steps p.tables e below (TA.setTop (mkF m 206 #[.val (.int sel), .val (.int qr), .val (.int base), .val (.long gaps), .second, .val (.int (3 : Int32)), .val (.int (7 : Int32)), .val (.ref bA), .unset, .unset, .unset, .unset, .unset, .unset, .unset, .unset, .unset, .unset] [(.ref bA), (.int (7 : Int32))])) _
    refine st1 _ ?_
    refine XS.astore X1.here hx rfl (hb hby at_209) rfl rfl (l' := #[.val (.int sel), .val (.int qr), .val (.int base), .val (.long gaps), .second, .val (.int (3 : Int32)), .val (.int (7 : Int32)), .val (.ref bA), .val (.ref d_1), .unset, .unset, .unset, .unset, .unset, .unset, .unset, .unset, .unset]) rfl ?_
    refine XS.iloadN X1.here hx rfl (hb hby at_211) rfl ?_
    show Steps p.tables e below (T1.setTop (mkF m 212 #[.val (.int sel), .val (.int qr), .val (.int base), .val (.long gaps), .second, .val (.int (3 : Int32)), .val (.int (7 : Int32)), .val (.ref bA), .val (.ref d_1), .unset, .unset, .unset, .unset, .unset, .unset, .unset, .unset, .unset] [(.int qr)])) _
    refine X1.ldcInt hx hown (mvT hZ (hw _ (List.mem_of_getElem? (i := 0) rfl))) (g := (mkF m 212 #[.val (.int sel), .val (.int qr), .val (.int base), .val (.long gaps), .second, .val (.int (3 : Int32)), .val (.int (7 : Int32)), .val (.ref bA), .val (.ref d_1), .unset, .unset, .unset, .unset, .unset, .unset, .unset, .unset, .unset] [(.int qr)])) rfl (hb hby at_212) _ ?_
    refine XS.iand X1.here hx rfl (hb hby at_214) rfl ?_
    refine XS.bipush X1.here hx rfl (hb hby at_215) ?_
    show Steps p.tables e below (T1.setTop (mkF m 217 #[.val (.int sel), .val (.int qr), .val (.int base), .val (.long gaps), .second, .val (.int (3 : Int32)), .val (.int (7 : Int32)), .val (.ref bA), .val (.ref d_1), .unset, .unset, .unset, .unset, .unset, .unset, .unset, .unset, .unset] [(.int (8 : Int32)), (.int (qr &&& (2147483647 : Int32)))])) _
    refine XS.iload X1.here hx rfl (hb hby at_217) rfl ?_
    refine XS.imul X1.here hx rfl (hb hby at_219) rfl ?_
    refine XS.bipush X1.here hx rfl (hb hby at_220) ?_
    show Steps p.tables e below (T1.setTop (mkF m 222 #[.val (.int sel), .val (.int qr), .val (.int base), .val (.long gaps), .second, .val (.int (3 : Int32)), .val (.int (7 : Int32)), .val (.ref bA), .val (.ref d_1), .unset, .unset, .unset, .unset, .unset, .unset, .unset, .unset, .unset] [(.int (33 : Int32)), (.int ((8 : Int32) * (7 : Int32))), (.int (qr &&& (2147483647 : Int32)))])) _
    refine XS.iadd X1.here hx rfl (hb hby at_222) rfl ?_
    refine iremM X1 hx rfl (hb hby at_223) rfl (by decide) ?_
    refine XS.bipush X1.here hx rfl (hb hby at_224) ?_
    show Steps p.tables e below (T1.setTop (mkF m 226 #[.val (.int sel), .val (.int qr), .val (.int base), .val (.long gaps), .second, .val (.int (3 : Int32)), .val (.int (7 : Int32)), .val (.ref bA), .val (.ref d_1), .unset, .unset, .unset, .unset, .unset, .unset, .unset, .unset, .unset] [(.int (16 : Int32)), (.int ((qr &&& (2147483647 : Int32)) % (((8 : Int32) * (7 : Int32)) + (33 : Int32))))])) _
    refine XS.isub X1.here hx rfl (hb hby at_226) rfl ?_
    show Steps p.tables e below (T1.setTop (mkF m 227 #[.val (.int sel), .val (.int qr), .val (.int base), .val (.long gaps), .second, .val (.int (3 : Int32)), .val (.int (7 : Int32)), .val (.ref bA), .val (.ref d_1), .unset, .unset, .unset, .unset, .unset, .unset, .unset, .unset, .unset] [(.int (((qr &&& (2147483647 : Int32)) % (((8 : Int32) * (7 : Int32)) + (33 : Int32))) - (16 : Int32)))])) _
    rw [show (((qr &&& (2147483647 : Int32)) % (((8 : Int32) * (7 : Int32)) + (33 : Int32))) - (16 : Int32)) = q from hqq]
    refine XS.istore X1.here hx rfl (hb hby at_227) rfl (l' := #[.val (.int sel), .val (.int qr), .val (.int base), .val (.long gaps), .second, .val (.int (3 : Int32)), .val (.int (7 : Int32)), .val (.ref bA), .val (.ref d_1), .val (.int q), .unset, .unset, .unset, .unset, .unset, .unset, .unset, .unset]) rfl ?_
    show Steps p.tables e below (T1.setTop (mkF m 229 #[.val (.int sel), .val (.int qr), .val (.int base), .val (.long gaps), .second, .val (.int (3 : Int32)), .val (.int (7 : Int32)), .val (.ref bA), .val (.ref d_1), .val (.int q), .unset, .unset, .unset, .unset, .unset, .unset, .unset, .unset] [])) _
    refine X1.ldc2DoubleC hx hown (mvT hZ (hw _ (List.mem_of_getElem? (i := 8) rfl))) (g := (mkF m 229 #[.val (.int sel), .val (.int qr), .val (.int base), .val (.long gaps), .second, .val (.int (3 : Int32)), .val (.int (7 : Int32)), .val (.ref bA), .val (.ref d_1), .val (.int q), .unset, .unset, .unset, .unset, .unset, .unset, .unset, .unset] [])) rfl (hb hby at_229) _ ?_
    refine XS.iload X1.here hx rfl (hb hby at_232) rfl ?_
    refine XS.i2dS X1.here hx rfl (hb hby at_234) rfl (v := (FP.i2d q)) (rfl) ?_
    show Steps p.tables e below (T1.setTop (mkF m 235 #[.val (.int sel), .val (.int qr), .val (.int base), .val (.long gaps), .second, .val (.int (3 : Int32)), .val (.int (7 : Int32)), .val (.ref bA), .val (.ref d_1), .val (.int q), .unset, .unset, .unset, .unset, .unset, .unset, .unset, .unset] [(.double (FP.i2d q)), (.double (4623226492472524800 : UInt64))])) _
    refine XS.dmulS X1.here hx rfl (hb hby at_235) rfl hm1 (v := (own_m q)) (rfl) ?_
    refine XS.iload X1.here hx rfl (hb hby at_236) rfl ?_
    refine XS.iconst X1.here hx rfl (hb hby at_238) ?_
    show Steps p.tables e below (T1.setTop (mkF m 239 #[.val (.int sel), .val (.int qr), .val (.int base), .val (.long gaps), .second, .val (.int (3 : Int32)), .val (.int (7 : Int32)), .val (.ref bA), .val (.ref d_1), .val (.int q), .unset, .unset, .unset, .unset, .unset, .unset, .unset, .unset] [(.int (1 : Int32)), (.int (7 : Int32)), (.double (own_m q))])) _
    refine XS.iadd X1.here hx rfl (hb hby at_239) rfl ?_
    refine XS.i2dS X1.here hx rfl (hb hby at_240) rfl (v := (FP.i2d ((7 : Int32) + (1 : Int32)))) (rfl) ?_
    refine XS.ddivS X1.here hx rfl (hb hby at_241) rfl hm2 (v := (own_pct (7 : Int32) q)) (rfl) ?_
    show Steps p.tables e below (T1.setTop (mkF m 242 #[.val (.int sel), .val (.int qr), .val (.int base), .val (.long gaps), .second, .val (.int (3 : Int32)), .val (.int (7 : Int32)), .val (.ref bA), .val (.ref d_1), .val (.int q), .unset, .unset, .unset, .unset, .unset, .unset, .unset, .unset] [(.double (own_pct (7 : Int32) q))])) _
    refine XS.dstore X1.here hx rfl (hb hby at_242) rfl (l' := #[.val (.int sel), .val (.int qr), .val (.int base), .val (.long gaps), .second, .val (.int (3 : Int32)), .val (.int (7 : Int32)), .val (.ref bA), .val (.ref d_1), .val (.int q), .val (.double (own_pct (7 : Int32) q)), .second, .unset, .unset, .unset, .unset, .unset, .unset]) rfl ?_
    refine XS.aload X1.here hx rfl (hb hby at_244) rfl rfl ?_
    refine XS.dload X1.here hx rfl (hb hby at_246) rfl ?_
    show Steps p.tables e below (T1.setTop (mkF m 248 #[.val (.int sel), .val (.int qr), .val (.int base), .val (.long gaps), .second, .val (.int (3 : Int32)), .val (.int (7 : Int32)), .val (.ref bA), .val (.ref d_1), .val (.int q), .val (.double (own_pct (7 : Int32) q)), .second, .unset, .unset, .unset, .unset, .unset, .unset] [(.double (own_pct (7 : Int32) q)), (.ref d_1)])) _
    refine st2 _ ?_
    refine XS.dstore X2.here hx rfl (hb hby at_251) rfl (l' := #[.val (.int sel), .val (.int qr), .val (.int base), .val (.long gaps), .second, .val (.int (3 : Int32)), .val (.int (7 : Int32)), .val (.ref bA), .val (.ref d_1), .val (.int q), .val (.double (own_pct (7 : Int32) q)), .second, .val (.double (FP.l2d s0)), .second, .unset, .unset, .unset, .unset]) rfl ?_
    refine XS.iload X2.here hx rfl (hb hby at_253) rfl ?_
    show Steps p.tables e below (T2.setTop (mkF m 255 #[.val (.int sel), .val (.int qr), .val (.int base), .val (.long gaps), .second, .val (.int (3 : Int32)), .val (.int (7 : Int32)), .val (.ref bA), .val (.ref d_1), .val (.int q), .val (.double (own_pct (7 : Int32) q)), .second, .val (.double (FP.l2d s0)), .second, .unset, .unset, .unset, .unset] [(.int q)])) _
    refine XS.bipush X2.here hx rfl (hb hby at_255) ?_
    refine XS.icmpNo X2.here hx rfl (hb hby at_257) rfl (tlt (hq8 : q < (8 : Int32))).2.1 ?_
    show Steps p.tables e below (T2.setTop (mkF m 260 #[.val (.int sel), .val (.int qr), .val (.int base), .val (.long gaps), .second, .val (.int (3 : Int32)), .val (.int (7 : Int32)), .val (.ref bA), .val (.ref d_1), .val (.int q), .val (.double (own_pct (7 : Int32) q)), .second, .val (.double (FP.l2d s0)), .second, .unset, .unset, .unset, .unset] [])) _
    refine X2.ldc2Long hx hown (mvT hZ (hw _ (List.mem_of_getElem? (i := 14) rfl))) (g := (mkF m 260 #[.val (.int sel), .val (.int qr), .val (.int base), .val (.long gaps), .second, .val (.int (3 : Int32)), .val (.int (7 : Int32)), .val (.ref bA), .val (.ref d_1), .val (.int q), .val (.double (own_pct (7 : Int32) q)), .second, .val (.double (FP.l2d s0)), .second, .unset, .unset, .unset, .unset] [])) rfl (hb hby at_260) _ ?_
    refine XS.aload X2.here hx rfl (hb hby at_263) rfl rfl ?_
    refine XS.iconst X2.here hx rfl (hb hby at_265) ?_
    show Steps p.tables e below (T2.setTop (mkF m 266 #[.val (.int sel), .val (.int qr), .val (.int base), .val (.long gaps), .second, .val (.int (3 : Int32)), .val (.int (7 : Int32)), .val (.ref bA), .val (.ref d_1), .val (.int q), .val (.double (own_pct (7 : Int32) q)), .second, .val (.double (FP.l2d s0)), .second, .unset, .unset, .unset, .unset] [(.int (0 : Int32)), (.ref bA), (.long (8 : Int64))])) _
    refine X2.laload hx (j := (0 : Int32)) (v := (.long s0)) (by rw [eq2]; exact Ar3.1) (State.isArrayOf_alike hZ.alike Ar3.2.1) Ar3.2.2 hin3 hat3 (g := (mkF m 266 #[.val (.int sel), .val (.int qr), .val (.int base), .val (.long gaps), .second, .val (.int (3 : Int32)), .val (.int (7 : Int32)), .val (.ref bA), .val (.ref d_1), .val (.int q), .val (.double (own_pct (7 : Int32) q)), .second, .val (.double (FP.l2d s0)), .second, .unset, .unset, .unset, .unset] [(.int (0 : Int32)), (.ref bA), (.long (8 : Int64))])) rfl rfl (hb hby at_266) _ ?_
    refine XS.lmul X2.here hx rfl (hb hby at_267) rfl ?_
    refine XS.lstore X2.here hx rfl (hb hby at_268) rfl (l' := #[.val (.int sel), .val (.int qr), .val (.int base), .val (.long gaps), .second, .val (.int (3 : Int32)), .val (.int (7 : Int32)), .val (.ref bA), .val (.ref d_1), .val (.int q), .val (.double (own_pct (7 : Int32) q)), .second, .val (.double (FP.l2d s0)), .second, .val (.long ((8 : Int64) * s0)), .second, .unset, .unset]) rfl ?_
    show Steps p.tables e below (T2.setTop (mkF m 270 #[.val (.int sel), .val (.int qr), .val (.int base), .val (.long gaps), .second, .val (.int (3 : Int32)), .val (.int (7 : Int32)), .val (.ref bA), .val (.ref d_1), .val (.int q), .val (.double (own_pct (7 : Int32) q)), .second, .val (.double (FP.l2d s0)), .second, .val (.long ((8 : Int64) * s0)), .second, .unset, .unset] [])) _
    refine XS.goto X2.here hx rfl (pc0 := 270) (pc' := 339) rfl (hb hby at_270) (by decide) (by decide) ?_
    refine XS.dload X2.here hx rfl (hb hby at_339) rfl ?_
    show Steps p.tables e below (T2.setTop (mkF m 341 #[.val (.int sel), .val (.int qr), .val (.int base), .val (.long gaps), .second, .val (.int (3 : Int32)), .val (.int (7 : Int32)), .val (.ref bA), .val (.ref d_1), .val (.int q), .val (.double (own_pct (7 : Int32) q)), .second, .val (.double (FP.l2d s0)), .second, .val (.long ((8 : Int64) * s0)), .second, .unset, .unset] [(.double (FP.l2d s0))])) _
    refine X2.ldc2DoubleC hx hown (mvT hZ (hw _ (List.mem_of_getElem? (i := 15) rfl))) (g := (mkF m 341 #[.val (.int sel), .val (.int qr), .val (.int base), .val (.long gaps), .second, .val (.int (3 : Int32)), .val (.int (7 : Int32)), .val (.ref bA), .val (.ref d_1), .val (.int q), .val (.double (own_pct (7 : Int32) q)), .second, .val (.double (FP.l2d s0)), .second, .val (.long ((8 : Int64) * s0)), .second, .unset, .unset] [(.double (FP.l2d s0))])) rfl (hb hby at_341) _ ?_
    refine XS.dmulS X2.here hx rfl (hb hby at_344) rfl hn344 (v := (FP.dmul (FP.l2d s0) (4620693217682128896 : UInt64))) (rfl) ?_
    refine XS.lload X2.here hx rfl (hb hby at_345) rfl ?_
    show Steps p.tables e below (T2.setTop (mkF m 347 #[.val (.int sel), .val (.int qr), .val (.int base), .val (.long gaps), .second, .val (.int (3 : Int32)), .val (.int (7 : Int32)), .val (.ref bA), .val (.ref d_1), .val (.int q), .val (.double (own_pct (7 : Int32) q)), .second, .val (.double (FP.l2d s0)), .second, .val (.long ((8 : Int64) * s0)), .second, .unset, .unset] [(.long ((8 : Int64) * s0)), (.double (FP.dmul (FP.l2d s0) (4620693217682128896 : UInt64)))])) _
    refine XS.l2dS X2.here hx rfl (hb hby at_347) rfl (v := (FP.l2d ((8 : Int64) * s0))) (rfl) ?_
    refine XS.dcmpS X2.here hx rfl (hb hby at_348) rfl (v := (0 : Int32)) (hv348) ?_
    refine XS.ifNo X2.here hx rfl (hb hby at_349) rfl ((if0 _ _).trans (teq (by decide : (0 : Int32) = (0 : Int32))).2) ?_
    show Steps p.tables e below (T2.setTop (mkF m 352 #[.val (.int sel), .val (.int qr), .val (.int base), .val (.long gaps), .second, .val (.int (3 : Int32)), .val (.int (7 : Int32)), .val (.ref bA), .val (.ref d_1), .val (.int q), .val (.double (own_pct (7 : Int32) q)), .second, .val (.double (FP.l2d s0)), .second, .val (.long ((8 : Int64) * s0)), .second, .unset, .unset] [])) _
    refine XS.iconst X2.here hx rfl (hb hby at_352) ?_
    refine XS.goto X2.here hx rfl (pc0 := 353) (pc' := 357) rfl (hb hby at_353) (by decide) (by decide) ?_
    show Steps p.tables e below (T2.setTop (mkF m 357 #[.val (.int sel), .val (.int qr), .val (.int base), .val (.long gaps), .second, .val (.int (3 : Int32)), .val (.int (7 : Int32)), .val (.ref bA), .val (.ref d_1), .val (.int q), .val (.double (own_pct (7 : Int32) q)), .second, .val (.double (FP.l2d s0)), .second, .val (.long ((8 : Int64) * s0)), .second, .unset, .unset] [(.int (1 : Int32))])) _
    exact retN X2 hx (t := .boolean) Bd.returns (by simp) (hb hby at_357) hr
  · show QL n0 _ T2.heap _
    rw [eq2]
    exact ⟨rfl, N2⟩
set_option maxRecDepth 65536 in
set_option maxHeartbeats 40000000 in
theorem rm0b7 (l : Launch) (Z : State) (a0 : Array Value) (hw : ∀ d ∈ tables_1, d.before a0 Z = true) (ws : List Jvm.Cond) (sel qr base : Int32) (gaps : Int64) (s0 s1 s2 s3 s4 s5 s6 s7 s8 : Int64) (q : Int32) (h0 : Heap) (n0 : Nat) (Z0 : n0 ≤ h0.size) (hch : ((sel &&& (2147483647 : Int32)) % (5 : Int32)) = (3 : Int32)) (hs0 : (base.toInt64) = s0) (hs1 : s0 + (gaps &&& (255 : Int64)) = s1) (hs2 : s1 + (((gaps.toUInt64 >>> ((8 : Int32) &&& 0x3f).toInt64.toUInt64).toInt64) &&& (255 : Int64)) = s2) (hs3 : s2 + (((gaps.toUInt64 >>> ((16 : Int32) &&& 0x3f).toInt64.toUInt64).toInt64) &&& (255 : Int64)) = s3) (hs4 : s3 + (((gaps.toUInt64 >>> ((24 : Int32) &&& 0x3f).toInt64.toUInt64).toInt64) &&& (255 : Int64)) = s4) (hs5 : s4 + (((gaps.toUInt64 >>> ((32 : Int32) &&& 0x3f).toInt64.toUInt64).toInt64) &&& (255 : Int64)) = s5) (hs6 : s5 + (((gaps.toUInt64 >>> ((40 : Int32) &&& 0x3f).toInt64.toUInt64).toInt64) &&& (255 : Int64)) = s6) (hs7 : s6 + (((gaps.toUInt64 >>> ((48 : Int32) &&& 0x3f).toInt64.toUInt64).toInt64) &&& (255 : Int64)) = s7) (hs8 : s7 + (((gaps.toUInt64 >>> ((56 : Int32) &&& 0x3f).toInt64.toUInt64).toInt64) &&& (255 : Int64)) = s8) (hqq : (((qr &&& (2147483647 : Int32)) % (((8 : Int32) * (7 : Int32)) + (33 : Int32))) - (16 : Int32)) = q) (hm1 : Jvm.Free.Fl.NoNaN64 (own_m q)) (hm2 : Jvm.Free.Fl.NoNaN64 (own_pct (7 : Int32) q)) (hp1 : Jvm.Free.Fl.NoNaN64 (own_pm (7 : Int32) q)) (hp2 : Jvm.Free.Fl.NoNaN64 (own_pos (7 : Int32) q)) (hn344 : Jvm.Free.Fl.NoNaN64 (FP.dmul (FP.l2d s6) (4620693217682128896 : UInt64))) (hv348 : cmpValue (FP.dcmp (FP.dmul (FP.l2d s6) (4620693217682128896 : UInt64)) (FP.l2d ((8 : Int64) * s6))) .l = (0 : Int32)) (hq8 : ¬ (q < (8 : Int32))) (hcA : ¬ own_cA (7 : Int32) q < (0 : Int32)) (hq8n : ¬ (q < ((8 : Int32) * (7 : Int32)))) (hcB : ¬ own_cB (7 : Int32) q < (0 : Int32))   :
    MetFree l x (head1 (Jvm.Cond.code x code maxLocals ret :: ws) room_1) (fun a U => a = #[(.int sel), (.int qr), (.int base), (.long gaps)] ∧ Z.Warmed39 U.vm ∧ U.heap = h0) (fun _ _ _ _ _ => True) (fun _ U o U' => ∃ v L, o = .returned v ∧ QL n0 v U'.heap L ∧ FrameEnd U o U' L 2 16) := by
  refine MetFree.of_bodySF (plainFor_of_name pn_com_example_bytegauge_bytegauge_stats_JsonTablePercentilePinLaw) hisR ?_
  intro p e s m args below meth c s₁ Bd hml0 hP hK
  obtain ⟨rfl, hZ, hh⟩ := hP
  have hx := Bd.exec
  have hby := Bd.bytes
  have hml : c.maxLocals = 18 := hml0
  have hown : s.vm.findClass "com/example/bytegauge/bytegauge/stats/JsonTablePercentilePinLaw" = some m.cls := findClass_of_methodNamed Bd.named
  have hnm := (name_of_methodNamed Bd.named Bd.method).1
  have X0 : Stand p l e room_1 s m #[(.int sel), (.int qr), (.int base), (.long gaps)] below meth c s₁ [] 0 0 := Stand.of_body Bd
  have e0 : s₁.heap = h0 := by rw [← hh, Bd.state]; rfl
  have N0 := Fr.nil n0
  have pre0 : ∀ t, Steps p.tables e below (s₁.setTop (mkF m 0 #[.val (.int sel), .val (.int qr), .val (.int base), .val (.long gaps), .second, .unset, .unset, .unset, .unset, .unset, .unset, .unset, .unset, .unset, .unset, .unset, .unset, .unset] [])) t → Steps p.tables e below (s₁.setTop (entryFrame m #[(.int sel), (.int qr), (.int base), (.long gaps)] maxLocals)) t := fun t k => castTop (ef_code m sel qr base gaps) k
  obtain ⟨TA, hA, LA, bA, kA, XA, eA, NA, SZA, g_bA, VA, stA⟩ := segA h0 n0 Z0 sel qr base gaps (3 : Int32) (7 : Int32) s0 s1 s2 s3 s4 s5 s6 s7 s8 X0 hx hZ hw hby hml hown e0 hs0 hs1 hs2 hs3 hs4 hs5 hs6 hs7 hs8
  obtain ⟨_, _, ⟨T1, L1, k1, n1⟩, -, X1, ⟨Lc1, hQ1, l1, y1, z1⟩, st1⟩ := Jvm.LawKit.callS XA hx (y := (⟨"com/example/bytegauge/bytegauge/stats/JsonTablePercentilePinLaw", "sortedOf", "(I[J)[D"⟩ : MethodName)) hown (mvT hZ (hw _ (List.mem_of_getElem? (i := 3) rfl))) (mvT hZ (hw _ (List.mem_of_getElem? (i := 4) rfl))) (mvT hZ (hw _ (List.mem_of_getElem? (i := 5) rfl))) (mvT hZ (hw _ (List.mem_of_getElem? (i := 6) rfl))) (by decide) (backOf (W := 0) (rmS7 l Z a0 hw [] bA kA s0 s1 s2 s3 s4 s5 s6 s7 s8 hA n0 SZA VA) hZ (hw _ (List.mem_of_getElem? (i := 6) rfl)) (hw _ (List.mem_of_getElem? (i := 5) rfl)) (by decide) (by decide)) (g := (mkF m 206 #[.val (.int sel), .val (.int qr), .val (.int base), .val (.long gaps), .second, .val (.int (3 : Int32)), .val (.int (7 : Int32)), .val (.ref bA), .unset, .unset, .unset, .unset, .unset, .unset, .unset, .unset, .unset, .unset] [(.ref bA), (.int (7 : Int32))])) rfl (by rw [hml]; rfl) (argsL := [(.int (7 : Int32)), (.ref bA)]) (rest := []) (lenOf pd__I_J__D rfl) rfl (by show 2 * 0 + _ ≤ _; exact Nat.le_of_eq rfl) (hb hby at_206) (fun _ _ => ⟨rfl, eA, (by decide : 1 + 1 ≤ _), (by decide : 9 + 7 ≤ _)⟩)
  dsimp only [Pt.U, Pt.locs, Pt.cells, Pt.slots] at X1 l1 y1 z1 st1 hQ1
  subst l1 y1 z1
  obtain ⟨d_1, kd1, rfl, N1q, g_d_1, sz_d_1, K1q, V1q⟩ := hQ1
  have c1_0 := VA.keep K1q List.not_mem_nil
  have SZ1 := Nat.le_trans SZA K1q.1
  have N1 := Fr.app NA N1q
  obtain ⟨_, _, ⟨T2, L2, k2, n2⟩, -, X2, ⟨Lc2, hQ2, l2, y2, z2⟩, st2⟩ := Jvm.LawKit.callS X1 hx (y := (⟨"com/example/bytegauge/bytegauge/stats/JsonTable", "percentile", "([DD)D"⟩ : MethodName)) hown (mvT hZ (hw _ (List.mem_of_getElem? (i := 9) rfl))) (mvT hZ (hw _ (List.mem_of_getElem? (i := 10) rfl))) (mvT hZ (hw _ (List.mem_of_getElem? (i := 11) rfl))) (mvT hZ (hw _ (List.mem_of_getElem? (i := 12) rfl))) (by decide) (backOf (W := 0) (rmPb7 l Z a0 hw [] d_1 kd1 s0 s1 s2 s3 s4 s5 s6 s7 s8 (own_pct (7 : Int32) q) (own_pos (7 : Int32) q) T1.heap n0 SZ1 V1q hp1 hp2 rfl _ rfl _ rfl hcA hcB) hZ (hw _ (List.mem_of_getElem? (i := 12) rfl)) (hw _ (List.mem_of_getElem? (i := 11) rfl)) (by decide) (by decide)) (g := (mkF m 248 #[.val (.int sel), .val (.int qr), .val (.int base), .val (.long gaps), .second, .val (.int (3 : Int32)), .val (.int (7 : Int32)), .val (.ref bA), .val (.ref d_1), .val (.int q), .val (.double (own_pct (7 : Int32) q)), .second, .unset, .unset, .unset, .unset, .unset, .unset] [(.double (own_pct (7 : Int32) q)), (.ref d_1)])) rfl (by rw [hml]; rfl) (argsL := [(.ref d_1), (.double (own_pct (7 : Int32) q))]) (rest := []) (lenOf pd___DD_D rfl) rfl (by show 2 * 0 + _ ≤ _; exact Nat.le_of_eq rfl) (hb hby at_248) (fun _ _ => ⟨rfl, rfl, (by decide : 2 + 0 ≤ _), (by decide : 16 + 0 ≤ _)⟩)
  dsimp only [Pt.U, Pt.locs, Pt.cells, Pt.slots] at X2 l2 y2 z2 st2 hQ2
  subst l2 y2 z2
  obtain ⟨rfl, N2q, eq2⟩ := hQ2
  have N2 := Fr.app N1 N2q
  obtain ⟨cl3, Ar3, -, S3, Nn3, H3, -⟩ := id c1_0
  have hin3 : ¬ ((6 : Int32) < 0 ∨ cl3.slots.size ≤ ((6 : Int32)).toNatClampNeg) := inb_of S3 ⟨by decide, by decide⟩
  have hat3 : cl3.slots[((6 : Int32)).toNatClampNeg]? = some (.long s6) := H3.at hin3 rfl
  obtain ⟨fs, hr, hrun, hended, hW, hsame⟩ := X2.leave (v := some (.int (1 : Int32))) (fun h => by rw [Bd.returns] at h; cases h)
  refine ⟨_, _, pre0 _ ?_, hrun, hended, _, _, rfl, ?_, ⟨_, rfl⟩, hW, hsame.mono (by decide) (by decide)⟩
  · show Steps p.tables e below (s₁.setTop (mkF m 0 #[.val (.int sel), .val (.int qr), .val (.int base), .val (.long gaps), .second, .unset, .unset, .unset, .unset, .unset, .unset, .unset, .unset, .unset, .unset, .unset, .unset, .unset] [])) _
    refine XS.iloadN X0.here hx rfl (hb hby at_0) rfl ?_
    show Steps p.tables e below (s₁.setTop (mkF m 1 #[.val (.int sel), .val (.int qr), .val (.int base), .val (.long gaps), .second, .unset, .unset, .unset, .unset, .unset, .unset, .unset, .unset, .unset, .unset, .unset, .unset, .unset] [(.int sel)])) _
    refine X0.ldcInt hx hown (mvT hZ (hw _ (List.mem_of_getElem? (i := 0) rfl))) (g := (mkF m 1 #[.val (.int sel), .val (.int qr), .val (.int base), .val (.long gaps), .second, .unset, .unset, .unset, .unset, .unset, .unset, .unset, .unset, .unset, .unset, .unset, .unset, .unset] [(.int sel)])) rfl (hb hby at_1) _ ?_
    refine XS.iand X0.here hx rfl (hb hby at_3) rfl ?_
    refine XS.iconst X0.here hx rfl (hb hby at_4) ?_
    show Steps p.tables e below (s₁.setTop (mkF m 5 #[.val (.int sel), .val (.int qr), .val (.int base), .val (.long gaps), .second, .unset, .unset, .unset, .unset, .unset, .unset, .unset, .unset, .unset, .unset, .unset, .unset, .unset] [(.int (5 : Int32)), (.int (sel &&& (2147483647 : Int32)))])) _
    refine iremM X0 hx rfl (hb hby at_5) rfl (by decide) ?_
    show Steps p.tables e below (s₁.setTop (mkF m 6 #[.val (.int sel), .val (.int qr), .val (.int base), .val (.long gaps), .second, .unset, .unset, .unset, .unset, .unset, .unset, .unset, .unset, .unset, .unset, .unset, .unset, .unset] [(.int ((sel &&& (2147483647 : Int32)) % (5 : Int32)))])) _
    rw [show ((sel &&& (2147483647 : Int32)) % (5 : Int32)) = (3 : Int32) from hch]
    refine XS.istore X0.here hx rfl (hb hby at_6) rfl (l' := #[.val (.int sel), .val (.int qr), .val (.int base), .val (.long gaps), .second, .val (.int (3 : Int32)), .unset, .unset, .unset, .unset, .unset, .unset, .unset, .unset, .unset, .unset, .unset, .unset]) rfl ?_
    refine XS.iload X0.here hx rfl (hb hby at_8) rfl ?_
    show Steps p.tables e below (s₁.setTop (mkF m 10 #[.val (.int sel), .val (.int qr), .val (.int base), .val (.long gaps), .second, .val (.int (3 : Int32)), .unset, .unset, .unset, .unset, .unset, .unset, .unset, .unset, .unset, .unset, .unset, .unset] [(.int (3 : Int32))])) _
    refine XS.ifYes X0.here hx rfl (pc0 := 10) (pc' := 17) rfl (hb hby at_10) rfl ((if0 _ _).trans (feq (by decide : ¬ ((3 : Int32) = (0 : Int32)))).2) (by decide) (by decide) ?_
    refine XS.iload X0.here hx rfl (hb hby at_17) rfl ?_
    refine XS.iconst X0.here hx rfl (hb hby at_19) ?_
    show Steps p.tables e below (s₁.setTop (mkF m 20 #[.val (.int sel), .val (.int qr), .val (.int base), .val (.long gaps), .second, .val (.int (3 : Int32)), .unset, .unset, .unset, .unset, .unset, .unset, .unset, .unset, .unset, .unset, .unset, .unset] [(.int (1 : Int32)), (.int (3 : Int32))])) _
    refine XS.icmpYes X0.here hx rfl (pc0 := 20) (pc' := 27) rfl (hb hby at_20) rfl (feq (by decide : ¬ ((3 : Int32) = (1 : Int32)))).2 (by decide) (by decide) ?_
    refine XS.iload X0.here hx rfl (hb hby at_27) rfl ?_
    refine XS.iconst X0.here hx rfl (hb hby at_29) ?_
    show Steps p.tables e below (s₁.setTop (mkF m 30 #[.val (.int sel), .val (.int qr), .val (.int base), .val (.long gaps), .second, .val (.int (3 : Int32)), .unset, .unset, .unset, .unset, .unset, .unset, .unset, .unset, .unset, .unset, .unset, .unset] [(.int (2 : Int32)), (.int (3 : Int32))])) _
    refine XS.icmpYes X0.here hx rfl (pc0 := 30) (pc' := 37) rfl (hb hby at_30) rfl (feq (by decide : ¬ ((3 : Int32) = (2 : Int32)))).2 (by decide) (by decide) ?_
    refine XS.iload X0.here hx rfl (hb hby at_37) rfl ?_
    refine XS.iconst X0.here hx rfl (hb hby at_39) ?_
    show Steps p.tables e below (s₁.setTop (mkF m 40 #[.val (.int sel), .val (.int qr), .val (.int base), .val (.long gaps), .second, .val (.int (3 : Int32)), .unset, .unset, .unset, .unset, .unset, .unset, .unset, .unset, .unset, .unset, .unset, .unset] [(.int (3 : Int32)), (.int (3 : Int32))])) _
    refine XS.icmpNo X0.here hx rfl (hb hby at_40) rfl (teq (by decide : (3 : Int32) = (3 : Int32))).2 ?_
    refine XS.bipush X0.here hx rfl (hb hby at_43) ?_
    refine XS.goto X0.here hx rfl (pc0 := 45) (pc' := 50) rfl (hb hby at_45) (by decide) (by decide) ?_
    show Steps p.tables e below (s₁.setTop (mkF m 50 #[.val (.int sel), .val (.int qr), .val (.int base), .val (.long gaps), .second, .val (.int (3 : Int32)), .unset, .unset, .unset, .unset, .unset, .unset, .unset, .unset, .unset, .unset, .unset, .unset] [(.int (7 : Int32))])) _
    refine XS.istore X0.here hx rfl (hb hby at_50) rfl (l' := #[.val (.int sel), .val (.int qr), .val (.int base), .val (.long gaps), .second, .val (.int (3 : Int32)), .val (.int (7 : Int32)), .unset, .unset, .unset, .unset, .unset, .unset, .unset, .unset, .unset, .unset, .unset]) rfl ?_
    show Steps p.tables e below (s₁.setTop (mkF m 52 #[.val (.int sel), .val (.int qr), .val (.int base), .val (.long gaps), .second, .val (.int (3 : Int32)), .val (.int (7 : Int32)), .unset, .unset, .unset, .unset, .unset, .unset, .unset, .unset, .unset, .unset, .unset] [])) _
    refine stA _ ?_
    show Steps p.tables e below (TA.setTop (mkF m 202 #[.val (.int sel), .val (.int qr), .val (.int base), .val (.long gaps), .second, .val (.int (3 : Int32)), .val (.int (7 : Int32)), .val (.ref bA), .unset, .unset, .unset, .unset, .unset, .unset, .unset, .unset, .unset, .unset] [])) _
    refine XS.iload XA.here hx rfl (hb hby at_202) rfl ?_
    refine XS.aload XA.here hx rfl (hb hby at_204) rfl rfl ?_
    show Steps p.tables e below (TA.setTop (mkF m 206 #[.val (.int sel), .val (.int qr), .val (.int base), .val (.long gaps), .second, .val (.int (3 : Int32)), .val (.int (7 : Int32)), .val (.ref bA), .unset, .unset, .unset, .unset, .unset, .unset, .unset, .unset, .unset, .unset] [(.ref bA), (.int (7 : Int32))])) _
    refine st1 _ ?_
    refine XS.astore X1.here hx rfl (hb hby at_209) rfl rfl (l' := #[.val (.int sel), .val (.int qr), .val (.int base), .val (.long gaps), .second, .val (.int (3 : Int32)), .val (.int (7 : Int32)), .val (.ref bA), .val (.ref d_1), .unset, .unset, .unset, .unset, .unset, .unset, .unset, .unset, .unset]) rfl ?_
    refine XS.iloadN X1.here hx rfl (hb hby at_211) rfl ?_
    show Steps p.tables e below (T1.setTop (mkF m 212 #[.val (.int sel), .val (.int qr), .val (.int base), .val (.long gaps), .second, .val (.int (3 : Int32)), .val (.int (7 : Int32)), .val (.ref bA), .val (.ref d_1), .unset, .unset, .unset, .unset, .unset, .unset, .unset, .unset, .unset] [(.int qr)])) _
    refine X1.ldcInt hx hown (mvT hZ (hw _ (List.mem_of_getElem? (i := 0) rfl))) (g := (mkF m 212 #[.val (.int sel), .val (.int qr), .val (.int base), .val (.long gaps), .second, .val (.int (3 : Int32)), .val (.int (7 : Int32)), .val (.ref bA), .val (.ref d_1), .unset, .unset, .unset, .unset, .unset, .unset, .unset, .unset, .unset] [(.int qr)])) rfl (hb hby at_212) _ ?_
    refine XS.iand X1.here hx rfl (hb hby at_214) rfl ?_
    refine XS.bipush X1.here hx rfl (hb hby at_215) ?_
    show Steps p.tables e below (T1.setTop (mkF m 217 #[.val (.int sel), .val (.int qr), .val (.int base), .val (.long gaps), .second, .val (.int (3 : Int32)), .val (.int (7 : Int32)), .val (.ref bA), .val (.ref d_1), .unset, .unset, .unset, .unset, .unset, .unset, .unset, .unset, .unset] [(.int (8 : Int32)), (.int (qr &&& (2147483647 : Int32)))])) _
    refine XS.iload X1.here hx rfl (hb hby at_217) rfl ?_
    refine XS.imul X1.here hx rfl (hb hby at_219) rfl ?_
    refine XS.bipush X1.here hx rfl (hb hby at_220) ?_
    show Steps p.tables e below (T1.setTop (mkF m 222 #[.val (.int sel), .val (.int qr), .val (.int base), .val (.long gaps), .second, .val (.int (3 : Int32)), .val (.int (7 : Int32)), .val (.ref bA), .val (.ref d_1), .unset, .unset, .unset, .unset, .unset, .unset, .unset, .unset, .unset] [(.int (33 : Int32)), (.int ((8 : Int32) * (7 : Int32))), (.int (qr &&& (2147483647 : Int32)))])) _
    refine XS.iadd X1.here hx rfl (hb hby at_222) rfl ?_
    refine iremM X1 hx rfl (hb hby at_223) rfl (by decide) ?_
    refine XS.bipush X1.here hx rfl (hb hby at_224) ?_
    show Steps p.tables e below (T1.setTop (mkF m 226 #[.val (.int sel), .val (.int qr), .val (.int base), .val (.long gaps), .second, .val (.int (3 : Int32)), .val (.int (7 : Int32)), .val (.ref bA), .val (.ref d_1), .unset, .unset, .unset, .unset, .unset, .unset, .unset, .unset, .unset] [(.int (16 : Int32)), (.int ((qr &&& (2147483647 : Int32)) % (((8 : Int32) * (7 : Int32)) + (33 : Int32))))])) _
    refine XS.isub X1.here hx rfl (hb hby at_226) rfl ?_
    show Steps p.tables e below (T1.setTop (mkF m 227 #[.val (.int sel), .val (.int qr), .val (.int base), .val (.long gaps), .second, .val (.int (3 : Int32)), .val (.int (7 : Int32)), .val (.ref bA), .val (.ref d_1), .unset, .unset, .unset, .unset, .unset, .unset, .unset, .unset, .unset] [(.int (((qr &&& (2147483647 : Int32)) % (((8 : Int32) * (7 : Int32)) + (33 : Int32))) - (16 : Int32)))])) _
    rw [show (((qr &&& (2147483647 : Int32)) % (((8 : Int32) * (7 : Int32)) + (33 : Int32))) - (16 : Int32)) = q from hqq]
    refine XS.istore X1.here hx rfl (hb hby at_227) rfl (l' := #[.val (.int sel), .val (.int qr), .val (.int base), .val (.long gaps), .second, .val (.int (3 : Int32)), .val (.int (7 : Int32)), .val (.ref bA), .val (.ref d_1), .val (.int q), .unset, .unset, .unset, .unset, .unset, .unset, .unset, .unset]) rfl ?_
    show Steps p.tables e below (T1.setTop (mkF m 229 #[.val (.int sel), .val (.int qr), .val (.int base), .val (.long gaps), .second, .val (.int (3 : Int32)), .val (.int (7 : Int32)), .val (.ref bA), .val (.ref d_1), .val (.int q), .unset, .unset, .unset, .unset, .unset, .unset, .unset, .unset] [])) _
    refine X1.ldc2DoubleC hx hown (mvT hZ (hw _ (List.mem_of_getElem? (i := 8) rfl))) (g := (mkF m 229 #[.val (.int sel), .val (.int qr), .val (.int base), .val (.long gaps), .second, .val (.int (3 : Int32)), .val (.int (7 : Int32)), .val (.ref bA), .val (.ref d_1), .val (.int q), .unset, .unset, .unset, .unset, .unset, .unset, .unset, .unset] [])) rfl (hb hby at_229) _ ?_
    refine XS.iload X1.here hx rfl (hb hby at_232) rfl ?_
    refine XS.i2dS X1.here hx rfl (hb hby at_234) rfl (v := (FP.i2d q)) (rfl) ?_
    show Steps p.tables e below (T1.setTop (mkF m 235 #[.val (.int sel), .val (.int qr), .val (.int base), .val (.long gaps), .second, .val (.int (3 : Int32)), .val (.int (7 : Int32)), .val (.ref bA), .val (.ref d_1), .val (.int q), .unset, .unset, .unset, .unset, .unset, .unset, .unset, .unset] [(.double (FP.i2d q)), (.double (4623226492472524800 : UInt64))])) _
    refine XS.dmulS X1.here hx rfl (hb hby at_235) rfl hm1 (v := (own_m q)) (rfl) ?_
    refine XS.iload X1.here hx rfl (hb hby at_236) rfl ?_
    refine XS.iconst X1.here hx rfl (hb hby at_238) ?_
    show Steps p.tables e below (T1.setTop (mkF m 239 #[.val (.int sel), .val (.int qr), .val (.int base), .val (.long gaps), .second, .val (.int (3 : Int32)), .val (.int (7 : Int32)), .val (.ref bA), .val (.ref d_1), .val (.int q), .unset, .unset, .unset, .unset, .unset, .unset, .unset, .unset] [(.int (1 : Int32)), (.int (7 : Int32)), (.double (own_m q))])) _
    refine XS.iadd X1.here hx rfl (hb hby at_239) rfl ?_
    refine XS.i2dS X1.here hx rfl (hb hby at_240) rfl (v := (FP.i2d ((7 : Int32) + (1 : Int32)))) (rfl) ?_
    refine XS.ddivS X1.here hx rfl (hb hby at_241) rfl hm2 (v := (own_pct (7 : Int32) q)) (rfl) ?_
    show Steps p.tables e below (T1.setTop (mkF m 242 #[.val (.int sel), .val (.int qr), .val (.int base), .val (.long gaps), .second, .val (.int (3 : Int32)), .val (.int (7 : Int32)), .val (.ref bA), .val (.ref d_1), .val (.int q), .unset, .unset, .unset, .unset, .unset, .unset, .unset, .unset] [(.double (own_pct (7 : Int32) q))])) _
    refine XS.dstore X1.here hx rfl (hb hby at_242) rfl (l' := #[.val (.int sel), .val (.int qr), .val (.int base), .val (.long gaps), .second, .val (.int (3 : Int32)), .val (.int (7 : Int32)), .val (.ref bA), .val (.ref d_1), .val (.int q), .val (.double (own_pct (7 : Int32) q)), .second, .unset, .unset, .unset, .unset, .unset, .unset]) rfl ?_
    refine XS.aload X1.here hx rfl (hb hby at_244) rfl rfl ?_
    refine XS.dload X1.here hx rfl (hb hby at_246) rfl ?_
    show Steps p.tables e below (T1.setTop (mkF m 248 #[.val (.int sel), .val (.int qr), .val (.int base), .val (.long gaps), .second, .val (.int (3 : Int32)), .val (.int (7 : Int32)), .val (.ref bA), .val (.ref d_1), .val (.int q), .val (.double (own_pct (7 : Int32) q)), .second, .unset, .unset, .unset, .unset, .unset, .unset] [(.double (own_pct (7 : Int32) q)), (.ref d_1)])) _
    refine st2 _ ?_
    refine XS.dstore X2.here hx rfl (hb hby at_251) rfl (l' := #[.val (.int sel), .val (.int qr), .val (.int base), .val (.long gaps), .second, .val (.int (3 : Int32)), .val (.int (7 : Int32)), .val (.ref bA), .val (.ref d_1), .val (.int q), .val (.double (own_pct (7 : Int32) q)), .second, .val (.double (FP.l2d s6)), .second, .unset, .unset, .unset, .unset]) rfl ?_
    refine XS.iload X2.here hx rfl (hb hby at_253) rfl ?_
    show Steps p.tables e below (T2.setTop (mkF m 255 #[.val (.int sel), .val (.int qr), .val (.int base), .val (.long gaps), .second, .val (.int (3 : Int32)), .val (.int (7 : Int32)), .val (.ref bA), .val (.ref d_1), .val (.int q), .val (.double (own_pct (7 : Int32) q)), .second, .val (.double (FP.l2d s6)), .second, .unset, .unset, .unset, .unset] [(.int q)])) _
    refine XS.bipush X2.here hx rfl (hb hby at_255) ?_
    refine XS.icmpYes X2.here hx rfl (pc0 := 257) (pc' := 273) rfl (hb hby at_257) rfl (flt (hq8 : ¬ (q < (8 : Int32)))).2.1 (by decide) (by decide) ?_
    refine XS.iload X2.here hx rfl (hb hby at_273) rfl ?_
    show Steps p.tables e below (T2.setTop (mkF m 275 #[.val (.int sel), .val (.int qr), .val (.int base), .val (.long gaps), .second, .val (.int (3 : Int32)), .val (.int (7 : Int32)), .val (.ref bA), .val (.ref d_1), .val (.int q), .val (.double (own_pct (7 : Int32) q)), .second, .val (.double (FP.l2d s6)), .second, .unset, .unset, .unset, .unset] [(.int q)])) _
    refine XS.bipush X2.here hx rfl (hb hby at_275) ?_
    refine XS.iload X2.here hx rfl (hb hby at_277) rfl ?_
    refine XS.imul X2.here hx rfl (hb hby at_279) rfl ?_
    show Steps p.tables e below (T2.setTop (mkF m 280 #[.val (.int sel), .val (.int qr), .val (.int base), .val (.long gaps), .second, .val (.int (3 : Int32)), .val (.int (7 : Int32)), .val (.ref bA), .val (.ref d_1), .val (.int q), .val (.double (own_pct (7 : Int32) q)), .second, .val (.double (FP.l2d s6)), .second, .unset, .unset, .unset, .unset] [(.int ((8 : Int32) * (7 : Int32))), (.int q)])) _
    refine XS.icmpNo X2.here hx rfl (hb hby at_280) rfl (flt (hq8n : ¬ (q < ((8 : Int32) * (7 : Int32))))).1 ?_
    show Steps p.tables e below (T2.setTop (mkF m 283 #[.val (.int sel), .val (.int qr), .val (.int base), .val (.long gaps), .second, .val (.int (3 : Int32)), .val (.int (7 : Int32)), .val (.ref bA), .val (.ref d_1), .val (.int q), .val (.double (own_pct (7 : Int32) q)), .second, .val (.double (FP.l2d s6)), .second, .unset, .unset, .unset, .unset] [])) _
    refine X2.ldc2Long hx hown (mvT hZ (hw _ (List.mem_of_getElem? (i := 14) rfl))) (g := (mkF m 283 #[.val (.int sel), .val (.int qr), .val (.int base), .val (.long gaps), .second, .val (.int (3 : Int32)), .val (.int (7 : Int32)), .val (.ref bA), .val (.ref d_1), .val (.int q), .val (.double (own_pct (7 : Int32) q)), .second, .val (.double (FP.l2d s6)), .second, .unset, .unset, .unset, .unset] [])) rfl (hb hby at_283) _ ?_
    refine XS.aload X2.here hx rfl (hb hby at_286) rfl rfl ?_
    refine XS.iload X2.here hx rfl (hb hby at_288) rfl ?_
    show Steps p.tables e below (T2.setTop (mkF m 290 #[.val (.int sel), .val (.int qr), .val (.int base), .val (.long gaps), .second, .val (.int (3 : Int32)), .val (.int (7 : Int32)), .val (.ref bA), .val (.ref d_1), .val (.int q), .val (.double (own_pct (7 : Int32) q)), .second, .val (.double (FP.l2d s6)), .second, .unset, .unset, .unset, .unset] [(.int (7 : Int32)), (.ref bA), (.long (8 : Int64))])) _
    refine XS.iconst X2.here hx rfl (hb hby at_290) ?_
    refine XS.isub X2.here hx rfl (hb hby at_291) rfl ?_
    show Steps p.tables e below (T2.setTop (mkF m 292 #[.val (.int sel), .val (.int qr), .val (.int base), .val (.long gaps), .second, .val (.int (3 : Int32)), .val (.int (7 : Int32)), .val (.ref bA), .val (.ref d_1), .val (.int q), .val (.double (own_pct (7 : Int32) q)), .second, .val (.double (FP.l2d s6)), .second, .unset, .unset, .unset, .unset] [(.int ((7 : Int32) - (1 : Int32))), (.ref bA), (.long (8 : Int64))])) _
    rw [show ((7 : Int32) - (1 : Int32)) = (6 : Int32) from (by decide)]
    show Steps p.tables e below (T2.setTop (mkF m 292 #[.val (.int sel), .val (.int qr), .val (.int base), .val (.long gaps), .second, .val (.int (3 : Int32)), .val (.int (7 : Int32)), .val (.ref bA), .val (.ref d_1), .val (.int q), .val (.double (own_pct (7 : Int32) q)), .second, .val (.double (FP.l2d s6)), .second, .unset, .unset, .unset, .unset] [(.int (6 : Int32)), (.ref bA), (.long (8 : Int64))])) _
    refine X2.laload hx (j := (6 : Int32)) (v := (.long s6)) (by rw [eq2]; exact Ar3.1) (State.isArrayOf_alike hZ.alike Ar3.2.1) Ar3.2.2 hin3 hat3 (g := (mkF m 292 #[.val (.int sel), .val (.int qr), .val (.int base), .val (.long gaps), .second, .val (.int (3 : Int32)), .val (.int (7 : Int32)), .val (.ref bA), .val (.ref d_1), .val (.int q), .val (.double (own_pct (7 : Int32) q)), .second, .val (.double (FP.l2d s6)), .second, .unset, .unset, .unset, .unset] [(.int (6 : Int32)), (.ref bA), (.long (8 : Int64))])) rfl rfl (hb hby at_292) _ ?_
    refine XS.lmul X2.here hx rfl (hb hby at_293) rfl ?_
    refine XS.lstore X2.here hx rfl (hb hby at_294) rfl (l' := #[.val (.int sel), .val (.int qr), .val (.int base), .val (.long gaps), .second, .val (.int (3 : Int32)), .val (.int (7 : Int32)), .val (.ref bA), .val (.ref d_1), .val (.int q), .val (.double (own_pct (7 : Int32) q)), .second, .val (.double (FP.l2d s6)), .second, .val (.long ((8 : Int64) * s6)), .second, .unset, .unset]) rfl ?_
    show Steps p.tables e below (T2.setTop (mkF m 296 #[.val (.int sel), .val (.int qr), .val (.int base), .val (.long gaps), .second, .val (.int (3 : Int32)), .val (.int (7 : Int32)), .val (.ref bA), .val (.ref d_1), .val (.int q), .val (.double (own_pct (7 : Int32) q)), .second, .val (.double (FP.l2d s6)), .second, .val (.long ((8 : Int64) * s6)), .second, .unset, .unset] [])) _
    refine XS.goto X2.here hx rfl (pc0 := 296) (pc' := 339) rfl (hb hby at_296) (by decide) (by decide) ?_
    refine XS.dload X2.here hx rfl (hb hby at_339) rfl ?_
    show Steps p.tables e below (T2.setTop (mkF m 341 #[.val (.int sel), .val (.int qr), .val (.int base), .val (.long gaps), .second, .val (.int (3 : Int32)), .val (.int (7 : Int32)), .val (.ref bA), .val (.ref d_1), .val (.int q), .val (.double (own_pct (7 : Int32) q)), .second, .val (.double (FP.l2d s6)), .second, .val (.long ((8 : Int64) * s6)), .second, .unset, .unset] [(.double (FP.l2d s6))])) _
    refine X2.ldc2DoubleC hx hown (mvT hZ (hw _ (List.mem_of_getElem? (i := 15) rfl))) (g := (mkF m 341 #[.val (.int sel), .val (.int qr), .val (.int base), .val (.long gaps), .second, .val (.int (3 : Int32)), .val (.int (7 : Int32)), .val (.ref bA), .val (.ref d_1), .val (.int q), .val (.double (own_pct (7 : Int32) q)), .second, .val (.double (FP.l2d s6)), .second, .val (.long ((8 : Int64) * s6)), .second, .unset, .unset] [(.double (FP.l2d s6))])) rfl (hb hby at_341) _ ?_
    refine XS.dmulS X2.here hx rfl (hb hby at_344) rfl hn344 (v := (FP.dmul (FP.l2d s6) (4620693217682128896 : UInt64))) (rfl) ?_
    refine XS.lload X2.here hx rfl (hb hby at_345) rfl ?_
    show Steps p.tables e below (T2.setTop (mkF m 347 #[.val (.int sel), .val (.int qr), .val (.int base), .val (.long gaps), .second, .val (.int (3 : Int32)), .val (.int (7 : Int32)), .val (.ref bA), .val (.ref d_1), .val (.int q), .val (.double (own_pct (7 : Int32) q)), .second, .val (.double (FP.l2d s6)), .second, .val (.long ((8 : Int64) * s6)), .second, .unset, .unset] [(.long ((8 : Int64) * s6)), (.double (FP.dmul (FP.l2d s6) (4620693217682128896 : UInt64)))])) _
    refine XS.l2dS X2.here hx rfl (hb hby at_347) rfl (v := (FP.l2d ((8 : Int64) * s6))) (rfl) ?_
    refine XS.dcmpS X2.here hx rfl (hb hby at_348) rfl (v := (0 : Int32)) (hv348) ?_
    refine XS.ifNo X2.here hx rfl (hb hby at_349) rfl ((if0 _ _).trans (teq (by decide : (0 : Int32) = (0 : Int32))).2) ?_
    show Steps p.tables e below (T2.setTop (mkF m 352 #[.val (.int sel), .val (.int qr), .val (.int base), .val (.long gaps), .second, .val (.int (3 : Int32)), .val (.int (7 : Int32)), .val (.ref bA), .val (.ref d_1), .val (.int q), .val (.double (own_pct (7 : Int32) q)), .second, .val (.double (FP.l2d s6)), .second, .val (.long ((8 : Int64) * s6)), .second, .unset, .unset] [])) _
    refine XS.iconst X2.here hx rfl (hb hby at_352) ?_
    refine XS.goto X2.here hx rfl (pc0 := 353) (pc' := 357) rfl (hb hby at_353) (by decide) (by decide) ?_
    show Steps p.tables e below (T2.setTop (mkF m 357 #[.val (.int sel), .val (.int qr), .val (.int base), .val (.long gaps), .second, .val (.int (3 : Int32)), .val (.int (7 : Int32)), .val (.ref bA), .val (.ref d_1), .val (.int q), .val (.double (own_pct (7 : Int32) q)), .second, .val (.double (FP.l2d s6)), .second, .val (.long ((8 : Int64) * s6)), .second, .unset, .unset] [(.int (1 : Int32))])) _
    exact retN X2 hx (t := .boolean) Bd.returns (by simp) (hb hby at_357) hr
  · show QL n0 _ T2.heap _
    rw [eq2]
    exact ⟨rfl, N2⟩
set_option maxRecDepth 65536 in
set_option maxHeartbeats 40000000 in
theorem rm0c7 (l : Launch) (Z : State) (a0 : Array Value) (hw : ∀ d ∈ tables_1, d.before a0 Z = true) (ws : List Jvm.Cond) (sel qr base : Int32) (gaps : Int64) (s0 s1 s2 s3 s4 s5 s6 s7 s8 : Int64) (q : Int32) (fr : UInt64) (lo hi : Int64) (bb b1 kk : Int32) (h0 : Heap) (n0 : Nat) (Z0 : n0 ≤ h0.size) (hch : ((sel &&& (2147483647 : Int32)) % (5 : Int32)) = (3 : Int32)) (hs0 : (base.toInt64) = s0) (hs1 : s0 + (gaps &&& (255 : Int64)) = s1) (hs2 : s1 + (((gaps.toUInt64 >>> ((8 : Int32) &&& 0x3f).toInt64.toUInt64).toInt64) &&& (255 : Int64)) = s2) (hs3 : s2 + (((gaps.toUInt64 >>> ((16 : Int32) &&& 0x3f).toInt64.toUInt64).toInt64) &&& (255 : Int64)) = s3) (hs4 : s3 + (((gaps.toUInt64 >>> ((24 : Int32) &&& 0x3f).toInt64.toUInt64).toInt64) &&& (255 : Int64)) = s4) (hs5 : s4 + (((gaps.toUInt64 >>> ((32 : Int32) &&& 0x3f).toInt64.toUInt64).toInt64) &&& (255 : Int64)) = s5) (hs6 : s5 + (((gaps.toUInt64 >>> ((40 : Int32) &&& 0x3f).toInt64.toUInt64).toInt64) &&& (255 : Int64)) = s6) (hs7 : s6 + (((gaps.toUInt64 >>> ((48 : Int32) &&& 0x3f).toInt64.toUInt64).toInt64) &&& (255 : Int64)) = s7) (hs8 : s7 + (((gaps.toUInt64 >>> ((56 : Int32) &&& 0x3f).toInt64.toUInt64).toInt64) &&& (255 : Int64)) = s8) (hqq : (((qr &&& (2147483647 : Int32)) % (((8 : Int32) * (7 : Int32)) + (33 : Int32))) - (16 : Int32)) = q) (hm1 : Jvm.Free.Fl.NoNaN64 (own_m q)) (hm2 : Jvm.Free.Fl.NoNaN64 (own_pct (7 : Int32) q)) (hp1 : Jvm.Free.Fl.NoNaN64 (own_pm (7 : Int32) q)) (hp2 : Jvm.Free.Fl.NoNaN64 (own_pos (7 : Int32) q)) (hn344 : Jvm.Free.Fl.NoNaN64 (FP.dmul (FP.dadd (FP.l2d lo) (FP.dmul fr (FP.dsub (FP.l2d hi) (FP.l2d lo)))) (4620693217682128896 : UInt64))) (hv348 : cmpValue (FP.dcmp (FP.dmul (FP.dadd (FP.l2d lo) (FP.dmul fr (FP.dsub (FP.l2d hi) (FP.l2d lo)))) (4620693217682128896 : UInt64)) (FP.l2d (((((8 : Int32) - kk).toInt64) * lo) + ((kk.toInt64) * hi)))) .l = (0 : Int32)) (hq8 : ¬ (q < (8 : Int32))) (hcA : ¬ own_cA (7 : Int32) q < (0 : Int32)) (hq8n : q < ((8 : Int32) * (7 : Int32))) (hcB : own_cB (7 : Int32) q < (0 : Int32)) (hd1 : (q / (8 : Int32)) = bb) (hd2 : (q % (8 : Int32)) = kk) (hbb : FP.d2i (own_pos (7 : Int32) q) = bb) (hn58 : Jvm.Free.Fl.NoNaN64 (FP.dsub (own_pos (7 : Int32) q) (FP.i2d bb))) (hfr : FP.dsub (own_pos (7 : Int32) q) (FP.i2d bb) = fr) (hb1 : (bb - (1 : Int32)) = b1) (hi1 : ¬ b1 < 0 ∧ b1 < (7 : Int32)) (hi2 : ¬ bb < 0 ∧ bb < (7 : Int32)) (ht1 : ([(.double (FP.l2d s0)), (.double (FP.l2d s1)), (.double (FP.l2d s2)), (.double (FP.l2d s3)), (.double (FP.l2d s4)), (.double (FP.l2d s5)), (.double (FP.l2d s6))] : List Value).getD b1.toNatClampNeg (.double (0 : UInt64)) = (.double (FP.l2d lo))) (ht2 : ([(.double (FP.l2d s0)), (.double (FP.l2d s1)), (.double (FP.l2d s2)), (.double (FP.l2d s3)), (.double (FP.l2d s4)), (.double (FP.l2d s5)), (.double (FP.l2d s6))] : List Value).getD bb.toNatClampNeg (.double (0 : UInt64)) = (.double (FP.l2d hi))) (hj1 : ¬ b1 < 0 ∧ b1 < (9 : Int32)) (hj2 : ¬ bb < 0 ∧ bb < (9 : Int32)) (hu1 : ([(.long s0), (.long s1), (.long s2), (.long s3), (.long s4), (.long s5), (.long s6), (.long s7), (.long s8)] : List Value).getD b1.toNatClampNeg (.long (0 : Int64)) = (.long lo)) (hu2 : ([(.long s0), (.long s1), (.long s2), (.long s3), (.long s4), (.long s5), (.long s6), (.long s7), (.long s8)] : List Value).getD bb.toNatClampNeg (.long (0 : Int64)) = (.long hi)) (hn79 : Jvm.Free.Fl.NoNaN64 (FP.dsub (FP.l2d hi) (FP.l2d lo))) (hn80 : Jvm.Free.Fl.NoNaN64 (FP.dmul fr (FP.dsub (FP.l2d hi) (FP.l2d lo)))) (hn81 : Jvm.Free.Fl.NoNaN64 (FP.dadd (FP.l2d lo) (FP.dmul fr (FP.dsub (FP.l2d hi) (FP.l2d lo)))))  :
    MetFree l x (head1 (Jvm.Cond.code x code maxLocals ret :: ws) room_1) (fun a U => a = #[(.int sel), (.int qr), (.int base), (.long gaps)] ∧ Z.Warmed39 U.vm ∧ U.heap = h0) (fun _ _ _ _ _ => True) (fun _ U o U' => ∃ v L, o = .returned v ∧ QL n0 v U'.heap L ∧ FrameEnd U o U' L 2 16) := by
  refine MetFree.of_bodySF (plainFor_of_name pn_com_example_bytegauge_bytegauge_stats_JsonTablePercentilePinLaw) hisR ?_
  intro p e s m args below meth c s₁ Bd hml0 hP hK
  obtain ⟨rfl, hZ, hh⟩ := hP
  have hx := Bd.exec
  have hby := Bd.bytes
  have hml : c.maxLocals = 18 := hml0
  have hown : s.vm.findClass "com/example/bytegauge/bytegauge/stats/JsonTablePercentilePinLaw" = some m.cls := findClass_of_methodNamed Bd.named
  have hnm := (name_of_methodNamed Bd.named Bd.method).1
  have X0 : Stand p l e room_1 s m #[(.int sel), (.int qr), (.int base), (.long gaps)] below meth c s₁ [] 0 0 := Stand.of_body Bd
  have e0 : s₁.heap = h0 := by rw [← hh, Bd.state]; rfl
  have N0 := Fr.nil n0
  have pre0 : ∀ t, Steps p.tables e below (s₁.setTop (mkF m 0 #[.val (.int sel), .val (.int qr), .val (.int base), .val (.long gaps), .second, .unset, .unset, .unset, .unset, .unset, .unset, .unset, .unset, .unset, .unset, .unset, .unset, .unset] [])) t → Steps p.tables e below (s₁.setTop (entryFrame m #[(.int sel), (.int qr), (.int base), (.long gaps)] maxLocals)) t := fun t k => castTop (ef_code m sel qr base gaps) k
  obtain ⟨TA, hA, LA, bA, kA, XA, eA, NA, SZA, g_bA, VA, stA⟩ := segA h0 n0 Z0 sel qr base gaps (3 : Int32) (7 : Int32) s0 s1 s2 s3 s4 s5 s6 s7 s8 X0 hx hZ hw hby hml hown e0 hs0 hs1 hs2 hs3 hs4 hs5 hs6 hs7 hs8
  obtain ⟨_, _, ⟨T1, L1, k1, n1⟩, -, X1, ⟨Lc1, hQ1, l1, y1, z1⟩, st1⟩ := Jvm.LawKit.callS XA hx (y := (⟨"com/example/bytegauge/bytegauge/stats/JsonTablePercentilePinLaw", "sortedOf", "(I[J)[D"⟩ : MethodName)) hown (mvT hZ (hw _ (List.mem_of_getElem? (i := 3) rfl))) (mvT hZ (hw _ (List.mem_of_getElem? (i := 4) rfl))) (mvT hZ (hw _ (List.mem_of_getElem? (i := 5) rfl))) (mvT hZ (hw _ (List.mem_of_getElem? (i := 6) rfl))) (by decide) (backOf (W := 0) (rmS7 l Z a0 hw [] bA kA s0 s1 s2 s3 s4 s5 s6 s7 s8 hA n0 SZA VA) hZ (hw _ (List.mem_of_getElem? (i := 6) rfl)) (hw _ (List.mem_of_getElem? (i := 5) rfl)) (by decide) (by decide)) (g := (mkF m 206 #[.val (.int sel), .val (.int qr), .val (.int base), .val (.long gaps), .second, .val (.int (3 : Int32)), .val (.int (7 : Int32)), .val (.ref bA), .unset, .unset, .unset, .unset, .unset, .unset, .unset, .unset, .unset, .unset] [(.ref bA), (.int (7 : Int32))])) rfl (by rw [hml]; rfl) (argsL := [(.int (7 : Int32)), (.ref bA)]) (rest := []) (lenOf pd__I_J__D rfl) rfl (by show 2 * 0 + _ ≤ _; exact Nat.le_of_eq rfl) (hb hby at_206) (fun _ _ => ⟨rfl, eA, (by decide : 1 + 1 ≤ _), (by decide : 9 + 7 ≤ _)⟩)
  dsimp only [Pt.U, Pt.locs, Pt.cells, Pt.slots] at X1 l1 y1 z1 st1 hQ1
  subst l1 y1 z1
  obtain ⟨d_1, kd1, rfl, N1q, g_d_1, sz_d_1, K1q, V1q⟩ := hQ1
  have c1_0 := VA.keep K1q List.not_mem_nil
  have SZ1 := Nat.le_trans SZA K1q.1
  have N1 := Fr.app NA N1q
  obtain ⟨_, _, ⟨T2, L2, k2, n2⟩, -, X2, ⟨Lc2, hQ2, l2, y2, z2⟩, st2⟩ := Jvm.LawKit.callS X1 hx (y := (⟨"com/example/bytegauge/bytegauge/stats/JsonTable", "percentile", "([DD)D"⟩ : MethodName)) hown (mvT hZ (hw _ (List.mem_of_getElem? (i := 9) rfl))) (mvT hZ (hw _ (List.mem_of_getElem? (i := 10) rfl))) (mvT hZ (hw _ (List.mem_of_getElem? (i := 11) rfl))) (mvT hZ (hw _ (List.mem_of_getElem? (i := 12) rfl))) (by decide) (backOf (W := 0) (rmPc7 l Z a0 hw [] d_1 kd1 s0 s1 s2 s3 s4 s5 s6 s7 s8 (own_pct (7 : Int32) q) (own_pos (7 : Int32) q) fr lo hi bb b1 T1.heap n0 SZ1 V1q hp1 hp2 rfl _ rfl _ rfl hcA hcB hbb hn58 hfr hb1 hi1 hi2 ht1 ht2 hn79 hn80 hn81) hZ (hw _ (List.mem_of_getElem? (i := 12) rfl)) (hw _ (List.mem_of_getElem? (i := 11) rfl)) (by decide) (by decide)) (g := (mkF m 248 #[.val (.int sel), .val (.int qr), .val (.int base), .val (.long gaps), .second, .val (.int (3 : Int32)), .val (.int (7 : Int32)), .val (.ref bA), .val (.ref d_1), .val (.int q), .val (.double (own_pct (7 : Int32) q)), .second, .unset, .unset, .unset, .unset, .unset, .unset] [(.double (own_pct (7 : Int32) q)), (.ref d_1)])) rfl (by rw [hml]; rfl) (argsL := [(.ref d_1), (.double (own_pct (7 : Int32) q))]) (rest := []) (lenOf pd___DD_D rfl) rfl (by show 2 * 0 + _ ≤ _; exact Nat.le_of_eq rfl) (hb hby at_248) (fun _ _ => ⟨rfl, rfl, (by decide : 2 + 0 ≤ _), (by decide : 16 + 0 ≤ _)⟩)
  dsimp only [Pt.U, Pt.locs, Pt.cells, Pt.slots] at X2 l2 y2 z2 st2 hQ2
  subst l2 y2 z2
  obtain ⟨rfl, N2q, eq2⟩ := hQ2
  have N2 := Fr.app N1 N2q
  obtain ⟨cl3, Ar3, -, S3, Nn3, H3, -⟩ := id c1_0
  have hin3 : ¬ (b1 < 0 ∨ cl3.slots.size ≤ (b1).toNatClampNeg) := inb_of S3 hj1
  have hat3 : cl3.slots[(b1).toNatClampNeg]? = some (.long lo) := H3.at hin3 hu1
  obtain ⟨cl4, Ar4, -, S4, Nn4, H4, -⟩ := id c1_0
  have hin4 : ¬ (bb < 0 ∨ cl4.slots.size ≤ (bb).toNatClampNeg) := inb_of S4 hj2
  have hat4 : cl4.slots[(bb).toNatClampNeg]? = some (.long hi) := H4.at hin4 hu2
  obtain ⟨fs, hr, hrun, hended, hW, hsame⟩ := X2.leave (v := some (.int (1 : Int32))) (fun h => by rw [Bd.returns] at h; cases h)
  refine ⟨_, _, pre0 _ ?_, hrun, hended, _, _, rfl, ?_, ⟨_, rfl⟩, hW, hsame.mono (by decide) (by decide)⟩
  · show Steps p.tables e below (s₁.setTop (mkF m 0 #[.val (.int sel), .val (.int qr), .val (.int base), .val (.long gaps), .second, .unset, .unset, .unset, .unset, .unset, .unset, .unset, .unset, .unset, .unset, .unset, .unset, .unset] [])) _
    refine XS.iloadN X0.here hx rfl (hb hby at_0) rfl ?_
    show Steps p.tables e below (s₁.setTop (mkF m 1 #[.val (.int sel), .val (.int qr), .val (.int base), .val (.long gaps), .second, .unset, .unset, .unset, .unset, .unset, .unset, .unset, .unset, .unset, .unset, .unset, .unset, .unset] [(.int sel)])) _
    refine X0.ldcInt hx hown (mvT hZ (hw _ (List.mem_of_getElem? (i := 0) rfl))) (g := (mkF m 1 #[.val (.int sel), .val (.int qr), .val (.int base), .val (.long gaps), .second, .unset, .unset, .unset, .unset, .unset, .unset, .unset, .unset, .unset, .unset, .unset, .unset, .unset] [(.int sel)])) rfl (hb hby at_1) _ ?_
    refine XS.iand X0.here hx rfl (hb hby at_3) rfl ?_
    refine XS.iconst X0.here hx rfl (hb hby at_4) ?_
    show Steps p.tables e below (s₁.setTop (mkF m 5 #[.val (.int sel), .val (.int qr), .val (.int base), .val (.long gaps), .second, .unset, .unset, .unset, .unset, .unset, .unset, .unset, .unset, .unset, .unset, .unset, .unset, .unset] [(.int (5 : Int32)), (.int (sel &&& (2147483647 : Int32)))])) _
    refine iremM X0 hx rfl (hb hby at_5) rfl (by decide) ?_
    show Steps p.tables e below (s₁.setTop (mkF m 6 #[.val (.int sel), .val (.int qr), .val (.int base), .val (.long gaps), .second, .unset, .unset, .unset, .unset, .unset, .unset, .unset, .unset, .unset, .unset, .unset, .unset, .unset] [(.int ((sel &&& (2147483647 : Int32)) % (5 : Int32)))])) _
    rw [show ((sel &&& (2147483647 : Int32)) % (5 : Int32)) = (3 : Int32) from hch]
    refine XS.istore X0.here hx rfl (hb hby at_6) rfl (l' := #[.val (.int sel), .val (.int qr), .val (.int base), .val (.long gaps), .second, .val (.int (3 : Int32)), .unset, .unset, .unset, .unset, .unset, .unset, .unset, .unset, .unset, .unset, .unset, .unset]) rfl ?_
    refine XS.iload X0.here hx rfl (hb hby at_8) rfl ?_
    show Steps p.tables e below (s₁.setTop (mkF m 10 #[.val (.int sel), .val (.int qr), .val (.int base), .val (.long gaps), .second, .val (.int (3 : Int32)), .unset, .unset, .unset, .unset, .unset, .unset, .unset, .unset, .unset, .unset, .unset, .unset] [(.int (3 : Int32))])) _
    refine XS.ifYes X0.here hx rfl (pc0 := 10) (pc' := 17) rfl (hb hby at_10) rfl ((if0 _ _).trans (feq (by decide : ¬ ((3 : Int32) = (0 : Int32)))).2) (by decide) (by decide) ?_
    refine XS.iload X0.here hx rfl (hb hby at_17) rfl ?_
    refine XS.iconst X0.here hx rfl (hb hby at_19) ?_
    show Steps p.tables e below (s₁.setTop (mkF m 20 #[.val (.int sel), .val (.int qr), .val (.int base), .val (.long gaps), .second, .val (.int (3 : Int32)), .unset, .unset, .unset, .unset, .unset, .unset, .unset, .unset, .unset, .unset, .unset, .unset] [(.int (1 : Int32)), (.int (3 : Int32))])) _
    refine XS.icmpYes X0.here hx rfl (pc0 := 20) (pc' := 27) rfl (hb hby at_20) rfl (feq (by decide : ¬ ((3 : Int32) = (1 : Int32)))).2 (by decide) (by decide) ?_
    refine XS.iload X0.here hx rfl (hb hby at_27) rfl ?_
    refine XS.iconst X0.here hx rfl (hb hby at_29) ?_
    show Steps p.tables e below (s₁.setTop (mkF m 30 #[.val (.int sel), .val (.int qr), .val (.int base), .val (.long gaps), .second, .val (.int (3 : Int32)), .unset, .unset, .unset, .unset, .unset, .unset, .unset, .unset, .unset, .unset, .unset, .unset] [(.int (2 : Int32)), (.int (3 : Int32))])) _
    refine XS.icmpYes X0.here hx rfl (pc0 := 30) (pc' := 37) rfl (hb hby at_30) rfl (feq (by decide : ¬ ((3 : Int32) = (2 : Int32)))).2 (by decide) (by decide) ?_
    refine XS.iload X0.here hx rfl (hb hby at_37) rfl ?_
    refine XS.iconst X0.here hx rfl (hb hby at_39) ?_
    show Steps p.tables e below (s₁.setTop (mkF m 40 #[.val (.int sel), .val (.int qr), .val (.int base), .val (.long gaps), .second, .val (.int (3 : Int32)), .unset, .unset, .unset, .unset, .unset, .unset, .unset, .unset, .unset, .unset, .unset, .unset] [(.int (3 : Int32)), (.int (3 : Int32))])) _
    refine XS.icmpNo X0.here hx rfl (hb hby at_40) rfl (teq (by decide : (3 : Int32) = (3 : Int32))).2 ?_
    refine XS.bipush X0.here hx rfl (hb hby at_43) ?_
    refine XS.goto X0.here hx rfl (pc0 := 45) (pc' := 50) rfl (hb hby at_45) (by decide) (by decide) ?_
    show Steps p.tables e below (s₁.setTop (mkF m 50 #[.val (.int sel), .val (.int qr), .val (.int base), .val (.long gaps), .second, .val (.int (3 : Int32)), .unset, .unset, .unset, .unset, .unset, .unset, .unset, .unset, .unset, .unset, .unset, .unset] [(.int (7 : Int32))])) _
    refine XS.istore X0.here hx rfl (hb hby at_50) rfl (l' := #[.val (.int sel), .val (.int qr), .val (.int base), .val (.long gaps), .second, .val (.int (3 : Int32)), .val (.int (7 : Int32)), .unset, .unset, .unset, .unset, .unset, .unset, .unset, .unset, .unset, .unset, .unset]) rfl ?_
    show Steps p.tables e below (s₁.setTop (mkF m 52 #[.val (.int sel), .val (.int qr), .val (.int base), .val (.long gaps), .second, .val (.int (3 : Int32)), .val (.int (7 : Int32)), .unset, .unset, .unset, .unset, .unset, .unset, .unset, .unset, .unset, .unset, .unset] [])) _
    refine stA _ ?_
    show Steps p.tables e below (TA.setTop (mkF m 202 #[.val (.int sel), .val (.int qr), .val (.int base), .val (.long gaps), .second, .val (.int (3 : Int32)), .val (.int (7 : Int32)), .val (.ref bA), .unset, .unset, .unset, .unset, .unset, .unset, .unset, .unset, .unset, .unset] [])) _
    refine XS.iload XA.here hx rfl (hb hby at_202) rfl ?_
    refine XS.aload XA.here hx rfl (hb hby at_204) rfl rfl ?_
    show Steps p.tables e below (TA.setTop (mkF m 206 #[.val (.int sel), .val (.int qr), .val (.int base), .val (.long gaps), .second, .val (.int (3 : Int32)), .val (.int (7 : Int32)), .val (.ref bA), .unset, .unset, .unset, .unset, .unset, .unset, .unset, .unset, .unset, .unset] [(.ref bA), (.int (7 : Int32))])) _
    refine st1 _ ?_
    refine XS.astore X1.here hx rfl (hb hby at_209) rfl rfl (l' := #[.val (.int sel), .val (.int qr), .val (.int base), .val (.long gaps), .second, .val (.int (3 : Int32)), .val (.int (7 : Int32)), .val (.ref bA), .val (.ref d_1), .unset, .unset, .unset, .unset, .unset, .unset, .unset, .unset, .unset]) rfl ?_
    refine XS.iloadN X1.here hx rfl (hb hby at_211) rfl ?_
    show Steps p.tables e below (T1.setTop (mkF m 212 #[.val (.int sel), .val (.int qr), .val (.int base), .val (.long gaps), .second, .val (.int (3 : Int32)), .val (.int (7 : Int32)), .val (.ref bA), .val (.ref d_1), .unset, .unset, .unset, .unset, .unset, .unset, .unset, .unset, .unset] [(.int qr)])) _
    refine X1.ldcInt hx hown (mvT hZ (hw _ (List.mem_of_getElem? (i := 0) rfl))) (g := (mkF m 212 #[.val (.int sel), .val (.int qr), .val (.int base), .val (.long gaps), .second, .val (.int (3 : Int32)), .val (.int (7 : Int32)), .val (.ref bA), .val (.ref d_1), .unset, .unset, .unset, .unset, .unset, .unset, .unset, .unset, .unset] [(.int qr)])) rfl (hb hby at_212) _ ?_
    refine XS.iand X1.here hx rfl (hb hby at_214) rfl ?_
    refine XS.bipush X1.here hx rfl (hb hby at_215) ?_
    show Steps p.tables e below (T1.setTop (mkF m 217 #[.val (.int sel), .val (.int qr), .val (.int base), .val (.long gaps), .second, .val (.int (3 : Int32)), .val (.int (7 : Int32)), .val (.ref bA), .val (.ref d_1), .unset, .unset, .unset, .unset, .unset, .unset, .unset, .unset, .unset] [(.int (8 : Int32)), (.int (qr &&& (2147483647 : Int32)))])) _
    refine XS.iload X1.here hx rfl (hb hby at_217) rfl ?_
    refine XS.imul X1.here hx rfl (hb hby at_219) rfl ?_
    refine XS.bipush X1.here hx rfl (hb hby at_220) ?_
    show Steps p.tables e below (T1.setTop (mkF m 222 #[.val (.int sel), .val (.int qr), .val (.int base), .val (.long gaps), .second, .val (.int (3 : Int32)), .val (.int (7 : Int32)), .val (.ref bA), .val (.ref d_1), .unset, .unset, .unset, .unset, .unset, .unset, .unset, .unset, .unset] [(.int (33 : Int32)), (.int ((8 : Int32) * (7 : Int32))), (.int (qr &&& (2147483647 : Int32)))])) _
    refine XS.iadd X1.here hx rfl (hb hby at_222) rfl ?_
    refine iremM X1 hx rfl (hb hby at_223) rfl (by decide) ?_
    refine XS.bipush X1.here hx rfl (hb hby at_224) ?_
    show Steps p.tables e below (T1.setTop (mkF m 226 #[.val (.int sel), .val (.int qr), .val (.int base), .val (.long gaps), .second, .val (.int (3 : Int32)), .val (.int (7 : Int32)), .val (.ref bA), .val (.ref d_1), .unset, .unset, .unset, .unset, .unset, .unset, .unset, .unset, .unset] [(.int (16 : Int32)), (.int ((qr &&& (2147483647 : Int32)) % (((8 : Int32) * (7 : Int32)) + (33 : Int32))))])) _
    refine XS.isub X1.here hx rfl (hb hby at_226) rfl ?_
    show Steps p.tables e below (T1.setTop (mkF m 227 #[.val (.int sel), .val (.int qr), .val (.int base), .val (.long gaps), .second, .val (.int (3 : Int32)), .val (.int (7 : Int32)), .val (.ref bA), .val (.ref d_1), .unset, .unset, .unset, .unset, .unset, .unset, .unset, .unset, .unset] [(.int (((qr &&& (2147483647 : Int32)) % (((8 : Int32) * (7 : Int32)) + (33 : Int32))) - (16 : Int32)))])) _
    rw [show (((qr &&& (2147483647 : Int32)) % (((8 : Int32) * (7 : Int32)) + (33 : Int32))) - (16 : Int32)) = q from hqq]
    refine XS.istore X1.here hx rfl (hb hby at_227) rfl (l' := #[.val (.int sel), .val (.int qr), .val (.int base), .val (.long gaps), .second, .val (.int (3 : Int32)), .val (.int (7 : Int32)), .val (.ref bA), .val (.ref d_1), .val (.int q), .unset, .unset, .unset, .unset, .unset, .unset, .unset, .unset]) rfl ?_
    show Steps p.tables e below (T1.setTop (mkF m 229 #[.val (.int sel), .val (.int qr), .val (.int base), .val (.long gaps), .second, .val (.int (3 : Int32)), .val (.int (7 : Int32)), .val (.ref bA), .val (.ref d_1), .val (.int q), .unset, .unset, .unset, .unset, .unset, .unset, .unset, .unset] [])) _
    refine X1.ldc2DoubleC hx hown (mvT hZ (hw _ (List.mem_of_getElem? (i := 8) rfl))) (g := (mkF m 229 #[.val (.int sel), .val (.int qr), .val (.int base), .val (.long gaps), .second, .val (.int (3 : Int32)), .val (.int (7 : Int32)), .val (.ref bA), .val (.ref d_1), .val (.int q), .unset, .unset, .unset, .unset, .unset, .unset, .unset, .unset] [])) rfl (hb hby at_229) _ ?_
    refine XS.iload X1.here hx rfl (hb hby at_232) rfl ?_
    refine XS.i2dS X1.here hx rfl (hb hby at_234) rfl (v := (FP.i2d q)) (rfl) ?_
    show Steps p.tables e below (T1.setTop (mkF m 235 #[.val (.int sel), .val (.int qr), .val (.int base), .val (.long gaps), .second, .val (.int (3 : Int32)), .val (.int (7 : Int32)), .val (.ref bA), .val (.ref d_1), .val (.int q), .unset, .unset, .unset, .unset, .unset, .unset, .unset, .unset] [(.double (FP.i2d q)), (.double (4623226492472524800 : UInt64))])) _
    refine XS.dmulS X1.here hx rfl (hb hby at_235) rfl hm1 (v := (own_m q)) (rfl) ?_
    refine XS.iload X1.here hx rfl (hb hby at_236) rfl ?_
    refine XS.iconst X1.here hx rfl (hb hby at_238) ?_
    show Steps p.tables e below (T1.setTop (mkF m 239 #[.val (.int sel), .val (.int qr), .val (.int base), .val (.long gaps), .second, .val (.int (3 : Int32)), .val (.int (7 : Int32)), .val (.ref bA), .val (.ref d_1), .val (.int q), .unset, .unset, .unset, .unset, .unset, .unset, .unset, .unset] [(.int (1 : Int32)), (.int (7 : Int32)), (.double (own_m q))])) _
    refine XS.iadd X1.here hx rfl (hb hby at_239) rfl ?_
    refine XS.i2dS X1.here hx rfl (hb hby at_240) rfl (v := (FP.i2d ((7 : Int32) + (1 : Int32)))) (rfl) ?_
    refine XS.ddivS X1.here hx rfl (hb hby at_241) rfl hm2 (v := (own_pct (7 : Int32) q)) (rfl) ?_
    show Steps p.tables e below (T1.setTop (mkF m 242 #[.val (.int sel), .val (.int qr), .val (.int base), .val (.long gaps), .second, .val (.int (3 : Int32)), .val (.int (7 : Int32)), .val (.ref bA), .val (.ref d_1), .val (.int q), .unset, .unset, .unset, .unset, .unset, .unset, .unset, .unset] [(.double (own_pct (7 : Int32) q))])) _
    refine XS.dstore X1.here hx rfl (hb hby at_242) rfl (l' := #[.val (.int sel), .val (.int qr), .val (.int base), .val (.long gaps), .second, .val (.int (3 : Int32)), .val (.int (7 : Int32)), .val (.ref bA), .val (.ref d_1), .val (.int q), .val (.double (own_pct (7 : Int32) q)), .second, .unset, .unset, .unset, .unset, .unset, .unset]) rfl ?_
    refine XS.aload X1.here hx rfl (hb hby at_244) rfl rfl ?_
    refine XS.dload X1.here hx rfl (hb hby at_246) rfl ?_
    show Steps p.tables e below (T1.setTop (mkF m 248 #[.val (.int sel), .val (.int qr), .val (.int base), .val (.long gaps), .second, .val (.int (3 : Int32)), .val (.int (7 : Int32)), .val (.ref bA), .val (.ref d_1), .val (.int q), .val (.double (own_pct (7 : Int32) q)), .second, .unset, .unset, .unset, .unset, .unset, .unset] [(.double (own_pct (7 : Int32) q)), (.ref d_1)])) _
    refine st2 _ ?_
    refine XS.dstore X2.here hx rfl (hb hby at_251) rfl (l' := #[.val (.int sel), .val (.int qr), .val (.int base), .val (.long gaps), .second, .val (.int (3 : Int32)), .val (.int (7 : Int32)), .val (.ref bA), .val (.ref d_1), .val (.int q), .val (.double (own_pct (7 : Int32) q)), .second, .val (.double (FP.dadd (FP.l2d lo) (FP.dmul fr (FP.dsub (FP.l2d hi) (FP.l2d lo))))), .second, .unset, .unset, .unset, .unset]) rfl ?_
    refine XS.iload X2.here hx rfl (hb hby at_253) rfl ?_
    show Steps p.tables e below (T2.setTop (mkF m 255 #[.val (.int sel), .val (.int qr), .val (.int base), .val (.long gaps), .second, .val (.int (3 : Int32)), .val (.int (7 : Int32)), .val (.ref bA), .val (.ref d_1), .val (.int q), .val (.double (own_pct (7 : Int32) q)), .second, .val (.double (FP.dadd (FP.l2d lo) (FP.dmul fr (FP.dsub (FP.l2d hi) (FP.l2d lo))))), .second, .unset, .unset, .unset, .unset] [(.int q)])) _
    refine XS.bipush X2.here hx rfl (hb hby at_255) ?_
    refine XS.icmpYes X2.here hx rfl (pc0 := 257) (pc' := 273) rfl (hb hby at_257) rfl (flt (hq8 : ¬ (q < (8 : Int32)))).2.1 (by decide) (by decide) ?_
    refine XS.iload X2.here hx rfl (hb hby at_273) rfl ?_
    show Steps p.tables e below (T2.setTop (mkF m 275 #[.val (.int sel), .val (.int qr), .val (.int base), .val (.long gaps), .second, .val (.int (3 : Int32)), .val (.int (7 : Int32)), .val (.ref bA), .val (.ref d_1), .val (.int q), .val (.double (own_pct (7 : Int32) q)), .second, .val (.double (FP.dadd (FP.l2d lo) (FP.dmul fr (FP.dsub (FP.l2d hi) (FP.l2d lo))))), .second, .unset, .unset, .unset, .unset] [(.int q)])) _
    refine XS.bipush X2.here hx rfl (hb hby at_275) ?_
    refine XS.iload X2.here hx rfl (hb hby at_277) rfl ?_
    refine XS.imul X2.here hx rfl (hb hby at_279) rfl ?_
    show Steps p.tables e below (T2.setTop (mkF m 280 #[.val (.int sel), .val (.int qr), .val (.int base), .val (.long gaps), .second, .val (.int (3 : Int32)), .val (.int (7 : Int32)), .val (.ref bA), .val (.ref d_1), .val (.int q), .val (.double (own_pct (7 : Int32) q)), .second, .val (.double (FP.dadd (FP.l2d lo) (FP.dmul fr (FP.dsub (FP.l2d hi) (FP.l2d lo))))), .second, .unset, .unset, .unset, .unset] [(.int ((8 : Int32) * (7 : Int32))), (.int q)])) _
    refine XS.icmpYes X2.here hx rfl (pc0 := 280) (pc' := 299) rfl (hb hby at_280) rfl (tlt (hq8n : q < ((8 : Int32) * (7 : Int32)))).1 (by decide) (by decide) ?_
    refine XS.iload X2.here hx rfl (hb hby at_299) rfl ?_
    refine XS.bipush X2.here hx rfl (hb hby at_301) ?_
    show Steps p.tables e below (T2.setTop (mkF m 303 #[.val (.int sel), .val (.int qr), .val (.int base), .val (.long gaps), .second, .val (.int (3 : Int32)), .val (.int (7 : Int32)), .val (.ref bA), .val (.ref d_1), .val (.int q), .val (.double (own_pct (7 : Int32) q)), .second, .val (.double (FP.dadd (FP.l2d lo) (FP.dmul fr (FP.dsub (FP.l2d hi) (FP.l2d lo))))), .second, .unset, .unset, .unset, .unset] [(.int (8 : Int32)), (.int q)])) _
    refine XS.idiv X2.here hx rfl (hb hby at_303) rfl (by decide) ?_
    show Steps p.tables e below (T2.setTop (mkF m 304 #[.val (.int sel), .val (.int qr), .val (.int base), .val (.long gaps), .second, .val (.int (3 : Int32)), .val (.int (7 : Int32)), .val (.ref bA), .val (.ref d_1), .val (.int q), .val (.double (own_pct (7 : Int32) q)), .second, .val (.double (FP.dadd (FP.l2d lo) (FP.dmul fr (FP.dsub (FP.l2d hi) (FP.l2d lo))))), .second, .unset, .unset, .unset, .unset] [(.int (q / (8 : Int32)))])) _
    rw [show (q / (8 : Int32)) = bb from hd1]
    refine XS.istore X2.here hx rfl (hb hby at_304) rfl (l' := #[.val (.int sel), .val (.int qr), .val (.int base), .val (.long gaps), .second, .val (.int (3 : Int32)), .val (.int (7 : Int32)), .val (.ref bA), .val (.ref d_1), .val (.int q), .val (.double (own_pct (7 : Int32) q)), .second, .val (.double (FP.dadd (FP.l2d lo) (FP.dmul fr (FP.dsub (FP.l2d hi) (FP.l2d lo))))), .second, .unset, .unset, .val (.int bb), .unset]) rfl ?_
    refine XS.iload X2.here hx rfl (hb hby at_306) rfl ?_
    show Steps p.tables e below (T2.setTop (mkF m 308 #[.val (.int sel), .val (.int qr), .val (.int base), .val (.long gaps), .second, .val (.int (3 : Int32)), .val (.int (7 : Int32)), .val (.ref bA), .val (.ref d_1), .val (.int q), .val (.double (own_pct (7 : Int32) q)), .second, .val (.double (FP.dadd (FP.l2d lo) (FP.dmul fr (FP.dsub (FP.l2d hi) (FP.l2d lo))))), .second, .unset, .unset, .val (.int bb), .unset] [(.int q)])) _
    refine XS.bipush X2.here hx rfl (hb hby at_308) ?_
    refine iremM X2 hx rfl (hb hby at_310) rfl (by decide) ?_
    show Steps p.tables e below (T2.setTop (mkF m 311 #[.val (.int sel), .val (.int qr), .val (.int base), .val (.long gaps), .second, .val (.int (3 : Int32)), .val (.int (7 : Int32)), .val (.ref bA), .val (.ref d_1), .val (.int q), .val (.double (own_pct (7 : Int32) q)), .second, .val (.double (FP.dadd (FP.l2d lo) (FP.dmul fr (FP.dsub (FP.l2d hi) (FP.l2d lo))))), .second, .unset, .unset, .val (.int bb), .unset] [(.int (q % (8 : Int32)))])) _
    rw [show (q % (8 : Int32)) = kk from hd2]
    refine XS.istore X2.here hx rfl (hb hby at_311) rfl (l' := #[.val (.int sel), .val (.int qr), .val (.int base), .val (.long gaps), .second, .val (.int (3 : Int32)), .val (.int (7 : Int32)), .val (.ref bA), .val (.ref d_1), .val (.int q), .val (.double (own_pct (7 : Int32) q)), .second, .val (.double (FP.dadd (FP.l2d lo) (FP.dmul fr (FP.dsub (FP.l2d hi) (FP.l2d lo))))), .second, .unset, .unset, .val (.int bb), .val (.int kk)]) rfl ?_
    show Steps p.tables e below (T2.setTop (mkF m 313 #[.val (.int sel), .val (.int qr), .val (.int base), .val (.long gaps), .second, .val (.int (3 : Int32)), .val (.int (7 : Int32)), .val (.ref bA), .val (.ref d_1), .val (.int q), .val (.double (own_pct (7 : Int32) q)), .second, .val (.double (FP.dadd (FP.l2d lo) (FP.dmul fr (FP.dsub (FP.l2d hi) (FP.l2d lo))))), .second, .unset, .unset, .val (.int bb), .val (.int kk)] [])) _
    refine XS.bipush X2.here hx rfl (hb hby at_313) ?_
    refine XS.iload X2.here hx rfl (hb hby at_315) rfl ?_
    refine XS.isub X2.here hx rfl (hb hby at_317) rfl ?_
    show Steps p.tables e below (T2.setTop (mkF m 318 #[.val (.int sel), .val (.int qr), .val (.int base), .val (.long gaps), .second, .val (.int (3 : Int32)), .val (.int (7 : Int32)), .val (.ref bA), .val (.ref d_1), .val (.int q), .val (.double (own_pct (7 : Int32) q)), .second, .val (.double (FP.dadd (FP.l2d lo) (FP.dmul fr (FP.dsub (FP.l2d hi) (FP.l2d lo))))), .second, .unset, .unset, .val (.int bb), .val (.int kk)] [(.int ((8 : Int32) - kk))])) _
    refine XS.i2l X2.here hx rfl (hb hby at_318) rfl ?_
    refine XS.aload X2.here hx rfl (hb hby at_319) rfl rfl ?_
    refine XS.iload X2.here hx rfl (hb hby at_321) rfl ?_
    show Steps p.tables e below (T2.setTop (mkF m 323 #[.val (.int sel), .val (.int qr), .val (.int base), .val (.long gaps), .second, .val (.int (3 : Int32)), .val (.int (7 : Int32)), .val (.ref bA), .val (.ref d_1), .val (.int q), .val (.double (own_pct (7 : Int32) q)), .second, .val (.double (FP.dadd (FP.l2d lo) (FP.dmul fr (FP.dsub (FP.l2d hi) (FP.l2d lo))))), .second, .unset, .unset, .val (.int bb), .val (.int kk)] [(.int bb), (.ref bA), (.long (((8 : Int32) - kk).toInt64))])) _
    refine XS.iconst X2.here hx rfl (hb hby at_323) ?_
    refine XS.isub X2.here hx rfl (hb hby at_324) rfl ?_
    show Steps p.tables e below (T2.setTop (mkF m 325 #[.val (.int sel), .val (.int qr), .val (.int base), .val (.long gaps), .second, .val (.int (3 : Int32)), .val (.int (7 : Int32)), .val (.ref bA), .val (.ref d_1), .val (.int q), .val (.double (own_pct (7 : Int32) q)), .second, .val (.double (FP.dadd (FP.l2d lo) (FP.dmul fr (FP.dsub (FP.l2d hi) (FP.l2d lo))))), .second, .unset, .unset, .val (.int bb), .val (.int kk)] [(.int (bb - (1 : Int32))), (.ref bA), (.long (((8 : Int32) - kk).toInt64))])) _
    rw [show (bb - (1 : Int32)) = b1 from hb1]
    show Steps p.tables e below (T2.setTop (mkF m 325 #[.val (.int sel), .val (.int qr), .val (.int base), .val (.long gaps), .second, .val (.int (3 : Int32)), .val (.int (7 : Int32)), .val (.ref bA), .val (.ref d_1), .val (.int q), .val (.double (own_pct (7 : Int32) q)), .second, .val (.double (FP.dadd (FP.l2d lo) (FP.dmul fr (FP.dsub (FP.l2d hi) (FP.l2d lo))))), .second, .unset, .unset, .val (.int bb), .val (.int kk)] [(.int b1), (.ref bA), (.long (((8 : Int32) - kk).toInt64))])) _
    refine X2.laload hx (j := b1) (v := (.long lo)) (by rw [eq2]; exact Ar3.1) (State.isArrayOf_alike hZ.alike Ar3.2.1) Ar3.2.2 hin3 hat3 (g := (mkF m 325 #[.val (.int sel), .val (.int qr), .val (.int base), .val (.long gaps), .second, .val (.int (3 : Int32)), .val (.int (7 : Int32)), .val (.ref bA), .val (.ref d_1), .val (.int q), .val (.double (own_pct (7 : Int32) q)), .second, .val (.double (FP.dadd (FP.l2d lo) (FP.dmul fr (FP.dsub (FP.l2d hi) (FP.l2d lo))))), .second, .unset, .unset, .val (.int bb), .val (.int kk)] [(.int b1), (.ref bA), (.long (((8 : Int32) - kk).toInt64))])) rfl rfl (hb hby at_325) _ ?_
    refine XS.lmul X2.here hx rfl (hb hby at_326) rfl ?_
    refine XS.iload X2.here hx rfl (hb hby at_327) rfl ?_
    show Steps p.tables e below (T2.setTop (mkF m 329 #[.val (.int sel), .val (.int qr), .val (.int base), .val (.long gaps), .second, .val (.int (3 : Int32)), .val (.int (7 : Int32)), .val (.ref bA), .val (.ref d_1), .val (.int q), .val (.double (own_pct (7 : Int32) q)), .second, .val (.double (FP.dadd (FP.l2d lo) (FP.dmul fr (FP.dsub (FP.l2d hi) (FP.l2d lo))))), .second, .unset, .unset, .val (.int bb), .val (.int kk)] [(.int kk), (.long ((((8 : Int32) - kk).toInt64) * lo))])) _
    refine XS.i2l X2.here hx rfl (hb hby at_329) rfl ?_
    refine XS.aload X2.here hx rfl (hb hby at_330) rfl rfl ?_
    refine XS.iload X2.here hx rfl (hb hby at_332) rfl ?_
    show Steps p.tables e below (T2.setTop (mkF m 334 #[.val (.int sel), .val (.int qr), .val (.int base), .val (.long gaps), .second, .val (.int (3 : Int32)), .val (.int (7 : Int32)), .val (.ref bA), .val (.ref d_1), .val (.int q), .val (.double (own_pct (7 : Int32) q)), .second, .val (.double (FP.dadd (FP.l2d lo) (FP.dmul fr (FP.dsub (FP.l2d hi) (FP.l2d lo))))), .second, .unset, .unset, .val (.int bb), .val (.int kk)] [(.int bb), (.ref bA), (.long (kk.toInt64)), (.long ((((8 : Int32) - kk).toInt64) * lo))])) _
    refine X2.laload hx (j := bb) (v := (.long hi)) (by rw [eq2]; exact Ar4.1) (State.isArrayOf_alike hZ.alike Ar4.2.1) Ar4.2.2 hin4 hat4 (g := (mkF m 334 #[.val (.int sel), .val (.int qr), .val (.int base), .val (.long gaps), .second, .val (.int (3 : Int32)), .val (.int (7 : Int32)), .val (.ref bA), .val (.ref d_1), .val (.int q), .val (.double (own_pct (7 : Int32) q)), .second, .val (.double (FP.dadd (FP.l2d lo) (FP.dmul fr (FP.dsub (FP.l2d hi) (FP.l2d lo))))), .second, .unset, .unset, .val (.int bb), .val (.int kk)] [(.int bb), (.ref bA), (.long (kk.toInt64)), (.long ((((8 : Int32) - kk).toInt64) * lo))])) rfl rfl (hb hby at_334) _ ?_
    refine XS.lmul X2.here hx rfl (hb hby at_335) rfl ?_
    refine XS.ladd X2.here hx rfl (hb hby at_336) rfl ?_
    show Steps p.tables e below (T2.setTop (mkF m 337 #[.val (.int sel), .val (.int qr), .val (.int base), .val (.long gaps), .second, .val (.int (3 : Int32)), .val (.int (7 : Int32)), .val (.ref bA), .val (.ref d_1), .val (.int q), .val (.double (own_pct (7 : Int32) q)), .second, .val (.double (FP.dadd (FP.l2d lo) (FP.dmul fr (FP.dsub (FP.l2d hi) (FP.l2d lo))))), .second, .unset, .unset, .val (.int bb), .val (.int kk)] [(.long (((((8 : Int32) - kk).toInt64) * lo) + ((kk.toInt64) * hi)))])) _
    refine XS.lstore X2.here hx rfl (hb hby at_337) rfl (l' := #[.val (.int sel), .val (.int qr), .val (.int base), .val (.long gaps), .second, .val (.int (3 : Int32)), .val (.int (7 : Int32)), .val (.ref bA), .val (.ref d_1), .val (.int q), .val (.double (own_pct (7 : Int32) q)), .second, .val (.double (FP.dadd (FP.l2d lo) (FP.dmul fr (FP.dsub (FP.l2d hi) (FP.l2d lo))))), .second, .val (.long (((((8 : Int32) - kk).toInt64) * lo) + ((kk.toInt64) * hi))), .second, .val (.int bb), .val (.int kk)]) rfl ?_
    refine XS.dload X2.here hx rfl (hb hby at_339) rfl ?_
    show Steps p.tables e below (T2.setTop (mkF m 341 #[.val (.int sel), .val (.int qr), .val (.int base), .val (.long gaps), .second, .val (.int (3 : Int32)), .val (.int (7 : Int32)), .val (.ref bA), .val (.ref d_1), .val (.int q), .val (.double (own_pct (7 : Int32) q)), .second, .val (.double (FP.dadd (FP.l2d lo) (FP.dmul fr (FP.dsub (FP.l2d hi) (FP.l2d lo))))), .second, .val (.long (((((8 : Int32) - kk).toInt64) * lo) + ((kk.toInt64) * hi))), .second, .val (.int bb), .val (.int kk)] [(.double (FP.dadd (FP.l2d lo) (FP.dmul fr (FP.dsub (FP.l2d hi) (FP.l2d lo)))))])) _
    refine X2.ldc2DoubleC hx hown (mvT hZ (hw _ (List.mem_of_getElem? (i := 15) rfl))) (g := (mkF m 341 #[.val (.int sel), .val (.int qr), .val (.int base), .val (.long gaps), .second, .val (.int (3 : Int32)), .val (.int (7 : Int32)), .val (.ref bA), .val (.ref d_1), .val (.int q), .val (.double (own_pct (7 : Int32) q)), .second, .val (.double (FP.dadd (FP.l2d lo) (FP.dmul fr (FP.dsub (FP.l2d hi) (FP.l2d lo))))), .second, .val (.long (((((8 : Int32) - kk).toInt64) * lo) + ((kk.toInt64) * hi))), .second, .val (.int bb), .val (.int kk)] [(.double (FP.dadd (FP.l2d lo) (FP.dmul fr (FP.dsub (FP.l2d hi) (FP.l2d lo)))))])) rfl (hb hby at_341) _ ?_
    refine XS.dmulS X2.here hx rfl (hb hby at_344) rfl hn344 (v := (FP.dmul (FP.dadd (FP.l2d lo) (FP.dmul fr (FP.dsub (FP.l2d hi) (FP.l2d lo)))) (4620693217682128896 : UInt64))) (rfl) ?_
    refine XS.lload X2.here hx rfl (hb hby at_345) rfl ?_
    show Steps p.tables e below (T2.setTop (mkF m 347 #[.val (.int sel), .val (.int qr), .val (.int base), .val (.long gaps), .second, .val (.int (3 : Int32)), .val (.int (7 : Int32)), .val (.ref bA), .val (.ref d_1), .val (.int q), .val (.double (own_pct (7 : Int32) q)), .second, .val (.double (FP.dadd (FP.l2d lo) (FP.dmul fr (FP.dsub (FP.l2d hi) (FP.l2d lo))))), .second, .val (.long (((((8 : Int32) - kk).toInt64) * lo) + ((kk.toInt64) * hi))), .second, .val (.int bb), .val (.int kk)] [(.long (((((8 : Int32) - kk).toInt64) * lo) + ((kk.toInt64) * hi))), (.double (FP.dmul (FP.dadd (FP.l2d lo) (FP.dmul fr (FP.dsub (FP.l2d hi) (FP.l2d lo)))) (4620693217682128896 : UInt64)))])) _
    refine XS.l2dS X2.here hx rfl (hb hby at_347) rfl (v := (FP.l2d (((((8 : Int32) - kk).toInt64) * lo) + ((kk.toInt64) * hi)))) (rfl) ?_
    refine XS.dcmpS X2.here hx rfl (hb hby at_348) rfl (v := (0 : Int32)) (hv348) ?_
    refine XS.ifNo X2.here hx rfl (hb hby at_349) rfl ((if0 _ _).trans (teq (by decide : (0 : Int32) = (0 : Int32))).2) ?_
    show Steps p.tables e below (T2.setTop (mkF m 352 #[.val (.int sel), .val (.int qr), .val (.int base), .val (.long gaps), .second, .val (.int (3 : Int32)), .val (.int (7 : Int32)), .val (.ref bA), .val (.ref d_1), .val (.int q), .val (.double (own_pct (7 : Int32) q)), .second, .val (.double (FP.dadd (FP.l2d lo) (FP.dmul fr (FP.dsub (FP.l2d hi) (FP.l2d lo))))), .second, .val (.long (((((8 : Int32) - kk).toInt64) * lo) + ((kk.toInt64) * hi))), .second, .val (.int bb), .val (.int kk)] [])) _
    refine XS.iconst X2.here hx rfl (hb hby at_352) ?_
    refine XS.goto X2.here hx rfl (pc0 := 353) (pc' := 357) rfl (hb hby at_353) (by decide) (by decide) ?_
    show Steps p.tables e below (T2.setTop (mkF m 357 #[.val (.int sel), .val (.int qr), .val (.int base), .val (.long gaps), .second, .val (.int (3 : Int32)), .val (.int (7 : Int32)), .val (.ref bA), .val (.ref d_1), .val (.int q), .val (.double (own_pct (7 : Int32) q)), .second, .val (.double (FP.dadd (FP.l2d lo) (FP.dmul fr (FP.dsub (FP.l2d hi) (FP.l2d lo))))), .second, .val (.long (((((8 : Int32) - kk).toInt64) * lo) + ((kk.toInt64) * hi))), .second, .val (.int bb), .val (.int kk)] [(.int (1 : Int32))])) _
    exact retN X2 hx (t := .boolean) Bd.returns (by simp) (hb hby at_357) hr
  · show QL n0 _ T2.heap _
    rw [eq2]
    exact ⟨rfl, N2⟩
set_option maxRecDepth 65536 in
set_option maxHeartbeats 40000000 in
theorem rm0a9 (l : Launch) (Z : State) (a0 : Array Value) (hw : ∀ d ∈ tables_1, d.before a0 Z = true) (ws : List Jvm.Cond) (sel qr base : Int32) (gaps : Int64) (s0 s1 s2 s3 s4 s5 s6 s7 s8 : Int64) (q : Int32) (h0 : Heap) (n0 : Nat) (Z0 : n0 ≤ h0.size) (hch : ((sel &&& (2147483647 : Int32)) % (5 : Int32)) = (4 : Int32)) (hs0 : (base.toInt64) = s0) (hs1 : s0 + (gaps &&& (255 : Int64)) = s1) (hs2 : s1 + (((gaps.toUInt64 >>> ((8 : Int32) &&& 0x3f).toInt64.toUInt64).toInt64) &&& (255 : Int64)) = s2) (hs3 : s2 + (((gaps.toUInt64 >>> ((16 : Int32) &&& 0x3f).toInt64.toUInt64).toInt64) &&& (255 : Int64)) = s3) (hs4 : s3 + (((gaps.toUInt64 >>> ((24 : Int32) &&& 0x3f).toInt64.toUInt64).toInt64) &&& (255 : Int64)) = s4) (hs5 : s4 + (((gaps.toUInt64 >>> ((32 : Int32) &&& 0x3f).toInt64.toUInt64).toInt64) &&& (255 : Int64)) = s5) (hs6 : s5 + (((gaps.toUInt64 >>> ((40 : Int32) &&& 0x3f).toInt64.toUInt64).toInt64) &&& (255 : Int64)) = s6) (hs7 : s6 + (((gaps.toUInt64 >>> ((48 : Int32) &&& 0x3f).toInt64.toUInt64).toInt64) &&& (255 : Int64)) = s7) (hs8 : s7 + (((gaps.toUInt64 >>> ((56 : Int32) &&& 0x3f).toInt64.toUInt64).toInt64) &&& (255 : Int64)) = s8) (hqq : (((qr &&& (2147483647 : Int32)) % (((8 : Int32) * (9 : Int32)) + (33 : Int32))) - (16 : Int32)) = q) (hm1 : Jvm.Free.Fl.NoNaN64 (own_m q)) (hm2 : Jvm.Free.Fl.NoNaN64 (own_pct (9 : Int32) q)) (hp1 : Jvm.Free.Fl.NoNaN64 (own_pm (9 : Int32) q)) (hp2 : Jvm.Free.Fl.NoNaN64 (own_pos (9 : Int32) q)) (hn344 : Jvm.Free.Fl.NoNaN64 (FP.dmul (FP.l2d s0) (4620693217682128896 : UInt64))) (hv348 : cmpValue (FP.dcmp (FP.dmul (FP.l2d s0) (4620693217682128896 : UInt64)) (FP.l2d ((8 : Int64) * s0))) .l = (0 : Int32)) (hq8 : q < (8 : Int32)) (hcA : own_cA (9 : Int32) q < (0 : Int32))   :
    MetFree l x (head1 (Jvm.Cond.code x code maxLocals ret :: ws) room_1) (fun a U => a = #[(.int sel), (.int qr), (.int base), (.long gaps)] ∧ Z.Warmed39 U.vm ∧ U.heap = h0) (fun _ _ _ _ _ => True) (fun _ U o U' => ∃ v L, o = .returned v ∧ QL n0 v U'.heap L ∧ FrameEnd U o U' L 2 18) := by
  refine MetFree.of_bodySF (plainFor_of_name pn_com_example_bytegauge_bytegauge_stats_JsonTablePercentilePinLaw) hisR ?_
  intro p e s m args below meth c s₁ Bd hml0 hP hK
  obtain ⟨rfl, hZ, hh⟩ := hP
  have hx := Bd.exec
  have hby := Bd.bytes
  have hml : c.maxLocals = 18 := hml0
  have hown : s.vm.findClass "com/example/bytegauge/bytegauge/stats/JsonTablePercentilePinLaw" = some m.cls := findClass_of_methodNamed Bd.named
  have hnm := (name_of_methodNamed Bd.named Bd.method).1
  have X0 : Stand p l e room_1 s m #[(.int sel), (.int qr), (.int base), (.long gaps)] below meth c s₁ [] 0 0 := Stand.of_body Bd
  have e0 : s₁.heap = h0 := by rw [← hh, Bd.state]; rfl
  have N0 := Fr.nil n0
  have pre0 : ∀ t, Steps p.tables e below (s₁.setTop (mkF m 0 #[.val (.int sel), .val (.int qr), .val (.int base), .val (.long gaps), .second, .unset, .unset, .unset, .unset, .unset, .unset, .unset, .unset, .unset, .unset, .unset, .unset, .unset] [])) t → Steps p.tables e below (s₁.setTop (entryFrame m #[(.int sel), (.int qr), (.int base), (.long gaps)] maxLocals)) t := fun t k => castTop (ef_code m sel qr base gaps) k
  obtain ⟨TA, hA, LA, bA, kA, XA, eA, NA, SZA, g_bA, VA, stA⟩ := segA h0 n0 Z0 sel qr base gaps (4 : Int32) (9 : Int32) s0 s1 s2 s3 s4 s5 s6 s7 s8 X0 hx hZ hw hby hml hown e0 hs0 hs1 hs2 hs3 hs4 hs5 hs6 hs7 hs8
  obtain ⟨_, _, ⟨T1, L1, k1, n1⟩, -, X1, ⟨Lc1, hQ1, l1, y1, z1⟩, st1⟩ := Jvm.LawKit.callS XA hx (y := (⟨"com/example/bytegauge/bytegauge/stats/JsonTablePercentilePinLaw", "sortedOf", "(I[J)[D"⟩ : MethodName)) hown (mvT hZ (hw _ (List.mem_of_getElem? (i := 3) rfl))) (mvT hZ (hw _ (List.mem_of_getElem? (i := 4) rfl))) (mvT hZ (hw _ (List.mem_of_getElem? (i := 5) rfl))) (mvT hZ (hw _ (List.mem_of_getElem? (i := 6) rfl))) (by decide) (backOf (W := 0) (rmS9 l Z a0 hw [] bA kA s0 s1 s2 s3 s4 s5 s6 s7 s8 hA n0 SZA VA) hZ (hw _ (List.mem_of_getElem? (i := 6) rfl)) (hw _ (List.mem_of_getElem? (i := 5) rfl)) (by decide) (by decide)) (g := (mkF m 206 #[.val (.int sel), .val (.int qr), .val (.int base), .val (.long gaps), .second, .val (.int (4 : Int32)), .val (.int (9 : Int32)), .val (.ref bA), .unset, .unset, .unset, .unset, .unset, .unset, .unset, .unset, .unset, .unset] [(.ref bA), (.int (9 : Int32))])) rfl (by rw [hml]; rfl) (argsL := [(.int (9 : Int32)), (.ref bA)]) (rest := []) (lenOf pd__I_J__D rfl) rfl (by show 2 * 0 + _ ≤ _; exact Nat.le_of_eq rfl) (hb hby at_206) (fun _ _ => ⟨rfl, eA, (by decide : 1 + 1 ≤ _), (by decide : 9 + 9 ≤ _)⟩)
  dsimp only [Pt.U, Pt.locs, Pt.cells, Pt.slots] at X1 l1 y1 z1 st1 hQ1
  subst l1 y1 z1
  obtain ⟨d_1, kd1, rfl, N1q, g_d_1, sz_d_1, K1q, V1q⟩ := hQ1
  have c1_0 := VA.keep K1q List.not_mem_nil
  have SZ1 := Nat.le_trans SZA K1q.1
  have N1 := Fr.app NA N1q
  obtain ⟨_, _, ⟨T2, L2, k2, n2⟩, -, X2, ⟨Lc2, hQ2, l2, y2, z2⟩, st2⟩ := Jvm.LawKit.callS X1 hx (y := (⟨"com/example/bytegauge/bytegauge/stats/JsonTable", "percentile", "([DD)D"⟩ : MethodName)) hown (mvT hZ (hw _ (List.mem_of_getElem? (i := 9) rfl))) (mvT hZ (hw _ (List.mem_of_getElem? (i := 10) rfl))) (mvT hZ (hw _ (List.mem_of_getElem? (i := 11) rfl))) (mvT hZ (hw _ (List.mem_of_getElem? (i := 12) rfl))) (by decide) (backOf (W := 0) (rmPa9 l Z a0 hw [] d_1 kd1 s0 s1 s2 s3 s4 s5 s6 s7 s8 (own_pct (9 : Int32) q) (own_pos (9 : Int32) q) T1.heap n0 SZ1 V1q hp1 hp2 rfl _ rfl hcA) hZ (hw _ (List.mem_of_getElem? (i := 12) rfl)) (hw _ (List.mem_of_getElem? (i := 11) rfl)) (by decide) (by decide)) (g := (mkF m 248 #[.val (.int sel), .val (.int qr), .val (.int base), .val (.long gaps), .second, .val (.int (4 : Int32)), .val (.int (9 : Int32)), .val (.ref bA), .val (.ref d_1), .val (.int q), .val (.double (own_pct (9 : Int32) q)), .second, .unset, .unset, .unset, .unset, .unset, .unset] [(.double (own_pct (9 : Int32) q)), (.ref d_1)])) rfl (by rw [hml]; rfl) (argsL := [(.ref d_1), (.double (own_pct (9 : Int32) q))]) (rest := []) (lenOf pd___DD_D rfl) rfl (by show 2 * 0 + _ ≤ _; exact Nat.le_of_eq rfl) (hb hby at_248) (fun _ _ => ⟨rfl, rfl, (by decide : 2 + 0 ≤ _), (by decide : 18 + 0 ≤ _)⟩)
  dsimp only [Pt.U, Pt.locs, Pt.cells, Pt.slots] at X2 l2 y2 z2 st2 hQ2
  subst l2 y2 z2
  obtain ⟨rfl, N2q, eq2⟩ := hQ2
  have N2 := Fr.app N1 N2q
  obtain ⟨cl3, Ar3, -, S3, Nn3, H3, -⟩ := id c1_0
  have hin3 : ¬ ((0 : Int32) < 0 ∨ cl3.slots.size ≤ ((0 : Int32)).toNatClampNeg) := inb_of S3 ⟨by decide, by decide⟩
  have hat3 : cl3.slots[((0 : Int32)).toNatClampNeg]? = some (.long s0) := H3.at hin3 rfl
  obtain ⟨fs, hr, hrun, hended, hW, hsame⟩ := X2.leave (v := some (.int (1 : Int32))) (fun h => by rw [Bd.returns] at h; cases h)
  refine ⟨_, _, pre0 _ ?_, hrun, hended, _, _, rfl, ?_, ⟨_, rfl⟩, hW, hsame.mono (by decide) (by decide)⟩
  · show Steps p.tables e below (s₁.setTop (mkF m 0 #[.val (.int sel), .val (.int qr), .val (.int base), .val (.long gaps), .second, .unset, .unset, .unset, .unset, .unset, .unset, .unset, .unset, .unset, .unset, .unset, .unset, .unset] [])) _
    refine XS.iloadN X0.here hx rfl (hb hby at_0) rfl ?_
    show Steps p.tables e below (s₁.setTop (mkF m 1 #[.val (.int sel), .val (.int qr), .val (.int base), .val (.long gaps), .second, .unset, .unset, .unset, .unset, .unset, .unset, .unset, .unset, .unset, .unset, .unset, .unset, .unset] [(.int sel)])) _
    refine X0.ldcInt hx hown (mvT hZ (hw _ (List.mem_of_getElem? (i := 0) rfl))) (g := (mkF m 1 #[.val (.int sel), .val (.int qr), .val (.int base), .val (.long gaps), .second, .unset, .unset, .unset, .unset, .unset, .unset, .unset, .unset, .unset, .unset, .unset, .unset, .unset] [(.int sel)])) rfl (hb hby at_1) _ ?_
    refine XS.iand X0.here hx rfl (hb hby at_3) rfl ?_
    refine XS.iconst X0.here hx rfl (hb hby at_4) ?_
    show Steps p.tables e below (s₁.setTop (mkF m 5 #[.val (.int sel), .val (.int qr), .val (.int base), .val (.long gaps), .second, .unset, .unset, .unset, .unset, .unset, .unset, .unset, .unset, .unset, .unset, .unset, .unset, .unset] [(.int (5 : Int32)), (.int (sel &&& (2147483647 : Int32)))])) _
    refine iremM X0 hx rfl (hb hby at_5) rfl (by decide) ?_
    show Steps p.tables e below (s₁.setTop (mkF m 6 #[.val (.int sel), .val (.int qr), .val (.int base), .val (.long gaps), .second, .unset, .unset, .unset, .unset, .unset, .unset, .unset, .unset, .unset, .unset, .unset, .unset, .unset] [(.int ((sel &&& (2147483647 : Int32)) % (5 : Int32)))])) _
    rw [show ((sel &&& (2147483647 : Int32)) % (5 : Int32)) = (4 : Int32) from hch]
    refine XS.istore X0.here hx rfl (hb hby at_6) rfl (l' := #[.val (.int sel), .val (.int qr), .val (.int base), .val (.long gaps), .second, .val (.int (4 : Int32)), .unset, .unset, .unset, .unset, .unset, .unset, .unset, .unset, .unset, .unset, .unset, .unset]) rfl ?_
    refine XS.iload X0.here hx rfl (hb hby at_8) rfl ?_
    show Steps p.tables e below (s₁.setTop (mkF m 10 #[.val (.int sel), .val (.int qr), .val (.int base), .val (.long gaps), .second, .val (.int (4 : Int32)), .unset, .unset, .unset, .unset, .unset, .unset, .unset, .unset, .unset, .unset, .unset, .unset] [(.int (4 : Int32))])) _
    refine XS.ifYes X0.here hx rfl (pc0 := 10) (pc' := 17) rfl (hb hby at_10) rfl ((if0 _ _).trans (feq (by decide : ¬ ((4 : Int32) = (0 : Int32)))).2) (by decide) (by decide) ?_
    refine XS.iload X0.here hx rfl (hb hby at_17) rfl ?_
    refine XS.iconst X0.here hx rfl (hb hby at_19) ?_
    show Steps p.tables e below (s₁.setTop (mkF m 20 #[.val (.int sel), .val (.int qr), .val (.int base), .val (.long gaps), .second, .val (.int (4 : Int32)), .unset, .unset, .unset, .unset, .unset, .unset, .unset, .unset, .unset, .unset, .unset, .unset] [(.int (1 : Int32)), (.int (4 : Int32))])) _
    refine XS.icmpYes X0.here hx rfl (pc0 := 20) (pc' := 27) rfl (hb hby at_20) rfl (feq (by decide : ¬ ((4 : Int32) = (1 : Int32)))).2 (by decide) (by decide) ?_
    refine XS.iload X0.here hx rfl (hb hby at_27) rfl ?_
    refine XS.iconst X0.here hx rfl (hb hby at_29) ?_
    show Steps p.tables e below (s₁.setTop (mkF m 30 #[.val (.int sel), .val (.int qr), .val (.int base), .val (.long gaps), .second, .val (.int (4 : Int32)), .unset, .unset, .unset, .unset, .unset, .unset, .unset, .unset, .unset, .unset, .unset, .unset] [(.int (2 : Int32)), (.int (4 : Int32))])) _
    refine XS.icmpYes X0.here hx rfl (pc0 := 30) (pc' := 37) rfl (hb hby at_30) rfl (feq (by decide : ¬ ((4 : Int32) = (2 : Int32)))).2 (by decide) (by decide) ?_
    refine XS.iload X0.here hx rfl (hb hby at_37) rfl ?_
    refine XS.iconst X0.here hx rfl (hb hby at_39) ?_
    show Steps p.tables e below (s₁.setTop (mkF m 40 #[.val (.int sel), .val (.int qr), .val (.int base), .val (.long gaps), .second, .val (.int (4 : Int32)), .unset, .unset, .unset, .unset, .unset, .unset, .unset, .unset, .unset, .unset, .unset, .unset] [(.int (3 : Int32)), (.int (4 : Int32))])) _
    refine XS.icmpYes X0.here hx rfl (pc0 := 40) (pc' := 48) rfl (hb hby at_40) rfl (feq (by decide : ¬ ((4 : Int32) = (3 : Int32)))).2 (by decide) (by decide) ?_
    refine XS.bipush X0.here hx rfl (hb hby at_48) ?_
    refine XS.istore X0.here hx rfl (hb hby at_50) rfl (l' := #[.val (.int sel), .val (.int qr), .val (.int base), .val (.long gaps), .second, .val (.int (4 : Int32)), .val (.int (9 : Int32)), .unset, .unset, .unset, .unset, .unset, .unset, .unset, .unset, .unset, .unset, .unset]) rfl ?_
    show Steps p.tables e below (s₁.setTop (mkF m 52 #[.val (.int sel), .val (.int qr), .val (.int base), .val (.long gaps), .second, .val (.int (4 : Int32)), .val (.int (9 : Int32)), .unset, .unset, .unset, .unset, .unset, .unset, .unset, .unset, .unset, .unset, .unset] [])) _
    refine stA _ ?_
    show Steps p.tables e below (TA.setTop (mkF m 202 #[.val (.int sel), .val (.int qr), .val (.int base), .val (.long gaps), .second, .val (.int (4 : Int32)), .val (.int (9 : Int32)), .val (.ref bA), .unset, .unset, .unset, .unset, .unset, .unset, .unset, .unset, .unset, .unset] [])) _
    refine XS.iload XA.here hx rfl (hb hby at_202) rfl ?_
    refine XS.aload XA.here hx rfl (hb hby at_204) rfl rfl ?_
    show Steps p.tables e below (TA.setTop (mkF m 206 #[.val (.int sel), .val (.int qr), .val (.int base), .val (.long gaps), .second, .val (.int (4 : Int32)), .val (.int (9 : Int32)), .val (.ref bA), .unset, .unset, .unset, .unset, .unset, .unset, .unset, .unset, .unset, .unset] [(.ref bA), (.int (9 : Int32))])) _
    refine st1 _ ?_
    refine XS.astore X1.here hx rfl (hb hby at_209) rfl rfl (l' := #[.val (.int sel), .val (.int qr), .val (.int base), .val (.long gaps), .second, .val (.int (4 : Int32)), .val (.int (9 : Int32)), .val (.ref bA), .val (.ref d_1), .unset, .unset, .unset, .unset, .unset, .unset, .unset, .unset, .unset]) rfl ?_
    refine XS.iloadN X1.here hx rfl (hb hby at_211) rfl ?_
    show Steps p.tables e below (T1.setTop (mkF m 212 #[.val (.int sel), .val (.int qr), .val (.int base), .val (.long gaps), .second, .val (.int (4 : Int32)), .val (.int (9 : Int32)), .val (.ref bA), .val (.ref d_1), .unset, .unset, .unset, .unset, .unset, .unset, .unset, .unset, .unset] [(.int qr)])) _
    refine X1.ldcInt hx hown (mvT hZ (hw _ (List.mem_of_getElem? (i := 0) rfl))) (g := (mkF m 212 #[.val (.int sel), .val (.int qr), .val (.int base), .val (.long gaps), .second, .val (.int (4 : Int32)), .val (.int (9 : Int32)), .val (.ref bA), .val (.ref d_1), .unset, .unset, .unset, .unset, .unset, .unset, .unset, .unset, .unset] [(.int qr)])) rfl (hb hby at_212) _ ?_
    refine XS.iand X1.here hx rfl (hb hby at_214) rfl ?_
    refine XS.bipush X1.here hx rfl (hb hby at_215) ?_
    show Steps p.tables e below (T1.setTop (mkF m 217 #[.val (.int sel), .val (.int qr), .val (.int base), .val (.long gaps), .second, .val (.int (4 : Int32)), .val (.int (9 : Int32)), .val (.ref bA), .val (.ref d_1), .unset, .unset, .unset, .unset, .unset, .unset, .unset, .unset, .unset] [(.int (8 : Int32)), (.int (qr &&& (2147483647 : Int32)))])) _
    refine XS.iload X1.here hx rfl (hb hby at_217) rfl ?_
    refine XS.imul X1.here hx rfl (hb hby at_219) rfl ?_
    refine XS.bipush X1.here hx rfl (hb hby at_220) ?_
    show Steps p.tables e below (T1.setTop (mkF m 222 #[.val (.int sel), .val (.int qr), .val (.int base), .val (.long gaps), .second, .val (.int (4 : Int32)), .val (.int (9 : Int32)), .val (.ref bA), .val (.ref d_1), .unset, .unset, .unset, .unset, .unset, .unset, .unset, .unset, .unset] [(.int (33 : Int32)), (.int ((8 : Int32) * (9 : Int32))), (.int (qr &&& (2147483647 : Int32)))])) _
    refine XS.iadd X1.here hx rfl (hb hby at_222) rfl ?_
    refine iremM X1 hx rfl (hb hby at_223) rfl (by decide) ?_
    refine XS.bipush X1.here hx rfl (hb hby at_224) ?_
    show Steps p.tables e below (T1.setTop (mkF m 226 #[.val (.int sel), .val (.int qr), .val (.int base), .val (.long gaps), .second, .val (.int (4 : Int32)), .val (.int (9 : Int32)), .val (.ref bA), .val (.ref d_1), .unset, .unset, .unset, .unset, .unset, .unset, .unset, .unset, .unset] [(.int (16 : Int32)), (.int ((qr &&& (2147483647 : Int32)) % (((8 : Int32) * (9 : Int32)) + (33 : Int32))))])) _
    refine XS.isub X1.here hx rfl (hb hby at_226) rfl ?_
    show Steps p.tables e below (T1.setTop (mkF m 227 #[.val (.int sel), .val (.int qr), .val (.int base), .val (.long gaps), .second, .val (.int (4 : Int32)), .val (.int (9 : Int32)), .val (.ref bA), .val (.ref d_1), .unset, .unset, .unset, .unset, .unset, .unset, .unset, .unset, .unset] [(.int (((qr &&& (2147483647 : Int32)) % (((8 : Int32) * (9 : Int32)) + (33 : Int32))) - (16 : Int32)))])) _
    rw [show (((qr &&& (2147483647 : Int32)) % (((8 : Int32) * (9 : Int32)) + (33 : Int32))) - (16 : Int32)) = q from hqq]
    refine XS.istore X1.here hx rfl (hb hby at_227) rfl (l' := #[.val (.int sel), .val (.int qr), .val (.int base), .val (.long gaps), .second, .val (.int (4 : Int32)), .val (.int (9 : Int32)), .val (.ref bA), .val (.ref d_1), .val (.int q), .unset, .unset, .unset, .unset, .unset, .unset, .unset, .unset]) rfl ?_
    show Steps p.tables e below (T1.setTop (mkF m 229 #[.val (.int sel), .val (.int qr), .val (.int base), .val (.long gaps), .second, .val (.int (4 : Int32)), .val (.int (9 : Int32)), .val (.ref bA), .val (.ref d_1), .val (.int q), .unset, .unset, .unset, .unset, .unset, .unset, .unset, .unset] [])) _
    refine X1.ldc2DoubleC hx hown (mvT hZ (hw _ (List.mem_of_getElem? (i := 8) rfl))) (g := (mkF m 229 #[.val (.int sel), .val (.int qr), .val (.int base), .val (.long gaps), .second, .val (.int (4 : Int32)), .val (.int (9 : Int32)), .val (.ref bA), .val (.ref d_1), .val (.int q), .unset, .unset, .unset, .unset, .unset, .unset, .unset, .unset] [])) rfl (hb hby at_229) _ ?_
    refine XS.iload X1.here hx rfl (hb hby at_232) rfl ?_
    refine XS.i2dS X1.here hx rfl (hb hby at_234) rfl (v := (FP.i2d q)) (rfl) ?_
    show Steps p.tables e below (T1.setTop (mkF m 235 #[.val (.int sel), .val (.int qr), .val (.int base), .val (.long gaps), .second, .val (.int (4 : Int32)), .val (.int (9 : Int32)), .val (.ref bA), .val (.ref d_1), .val (.int q), .unset, .unset, .unset, .unset, .unset, .unset, .unset, .unset] [(.double (FP.i2d q)), (.double (4623226492472524800 : UInt64))])) _
    refine XS.dmulS X1.here hx rfl (hb hby at_235) rfl hm1 (v := (own_m q)) (rfl) ?_
    refine XS.iload X1.here hx rfl (hb hby at_236) rfl ?_
    refine XS.iconst X1.here hx rfl (hb hby at_238) ?_
    show Steps p.tables e below (T1.setTop (mkF m 239 #[.val (.int sel), .val (.int qr), .val (.int base), .val (.long gaps), .second, .val (.int (4 : Int32)), .val (.int (9 : Int32)), .val (.ref bA), .val (.ref d_1), .val (.int q), .unset, .unset, .unset, .unset, .unset, .unset, .unset, .unset] [(.int (1 : Int32)), (.int (9 : Int32)), (.double (own_m q))])) _
    refine XS.iadd X1.here hx rfl (hb hby at_239) rfl ?_
    refine XS.i2dS X1.here hx rfl (hb hby at_240) rfl (v := (FP.i2d ((9 : Int32) + (1 : Int32)))) (rfl) ?_
    refine XS.ddivS X1.here hx rfl (hb hby at_241) rfl hm2 (v := (own_pct (9 : Int32) q)) (rfl) ?_
    show Steps p.tables e below (T1.setTop (mkF m 242 #[.val (.int sel), .val (.int qr), .val (.int base), .val (.long gaps), .second, .val (.int (4 : Int32)), .val (.int (9 : Int32)), .val (.ref bA), .val (.ref d_1), .val (.int q), .unset, .unset, .unset, .unset, .unset, .unset, .unset, .unset] [(.double (own_pct (9 : Int32) q))])) _
    refine XS.dstore X1.here hx rfl (hb hby at_242) rfl (l' := #[.val (.int sel), .val (.int qr), .val (.int base), .val (.long gaps), .second, .val (.int (4 : Int32)), .val (.int (9 : Int32)), .val (.ref bA), .val (.ref d_1), .val (.int q), .val (.double (own_pct (9 : Int32) q)), .second, .unset, .unset, .unset, .unset, .unset, .unset]) rfl ?_
    refine XS.aload X1.here hx rfl (hb hby at_244) rfl rfl ?_
    refine XS.dload X1.here hx rfl (hb hby at_246) rfl ?_
    show Steps p.tables e below (T1.setTop (mkF m 248 #[.val (.int sel), .val (.int qr), .val (.int base), .val (.long gaps), .second, .val (.int (4 : Int32)), .val (.int (9 : Int32)), .val (.ref bA), .val (.ref d_1), .val (.int q), .val (.double (own_pct (9 : Int32) q)), .second, .unset, .unset, .unset, .unset, .unset, .unset] [(.double (own_pct (9 : Int32) q)), (.ref d_1)])) _
    refine st2 _ ?_
    refine XS.dstore X2.here hx rfl (hb hby at_251) rfl (l' := #[.val (.int sel), .val (.int qr), .val (.int base), .val (.long gaps), .second, .val (.int (4 : Int32)), .val (.int (9 : Int32)), .val (.ref bA), .val (.ref d_1), .val (.int q), .val (.double (own_pct (9 : Int32) q)), .second, .val (.double (FP.l2d s0)), .second, .unset, .unset, .unset, .unset]) rfl ?_
    refine XS.iload X2.here hx rfl (hb hby at_253) rfl ?_
    show Steps p.tables e below (T2.setTop (mkF m 255 #[.val (.int sel), .val (.int qr), .val (.int base), .val (.long gaps), .second, .val (.int (4 : Int32)), .val (.int (9 : Int32)), .val (.ref bA), .val (.ref d_1), .val (.int q), .val (.double (own_pct (9 : Int32) q)), .second, .val (.double (FP.l2d s0)), .second, .unset, .unset, .unset, .unset] [(.int q)])) _
    refine XS.bipush X2.here hx rfl (hb hby at_255) ?_
    refine XS.icmpNo X2.here hx rfl (hb hby at_257) rfl (tlt (hq8 : q < (8 : Int32))).2.1 ?_
    show Steps p.tables e below (T2.setTop (mkF m 260 #[.val (.int sel), .val (.int qr), .val (.int base), .val (.long gaps), .second, .val (.int (4 : Int32)), .val (.int (9 : Int32)), .val (.ref bA), .val (.ref d_1), .val (.int q), .val (.double (own_pct (9 : Int32) q)), .second, .val (.double (FP.l2d s0)), .second, .unset, .unset, .unset, .unset] [])) _
    refine X2.ldc2Long hx hown (mvT hZ (hw _ (List.mem_of_getElem? (i := 14) rfl))) (g := (mkF m 260 #[.val (.int sel), .val (.int qr), .val (.int base), .val (.long gaps), .second, .val (.int (4 : Int32)), .val (.int (9 : Int32)), .val (.ref bA), .val (.ref d_1), .val (.int q), .val (.double (own_pct (9 : Int32) q)), .second, .val (.double (FP.l2d s0)), .second, .unset, .unset, .unset, .unset] [])) rfl (hb hby at_260) _ ?_
    refine XS.aload X2.here hx rfl (hb hby at_263) rfl rfl ?_
    refine XS.iconst X2.here hx rfl (hb hby at_265) ?_
    show Steps p.tables e below (T2.setTop (mkF m 266 #[.val (.int sel), .val (.int qr), .val (.int base), .val (.long gaps), .second, .val (.int (4 : Int32)), .val (.int (9 : Int32)), .val (.ref bA), .val (.ref d_1), .val (.int q), .val (.double (own_pct (9 : Int32) q)), .second, .val (.double (FP.l2d s0)), .second, .unset, .unset, .unset, .unset] [(.int (0 : Int32)), (.ref bA), (.long (8 : Int64))])) _
    refine X2.laload hx (j := (0 : Int32)) (v := (.long s0)) (by rw [eq2]; exact Ar3.1) (State.isArrayOf_alike hZ.alike Ar3.2.1) Ar3.2.2 hin3 hat3 (g := (mkF m 266 #[.val (.int sel), .val (.int qr), .val (.int base), .val (.long gaps), .second, .val (.int (4 : Int32)), .val (.int (9 : Int32)), .val (.ref bA), .val (.ref d_1), .val (.int q), .val (.double (own_pct (9 : Int32) q)), .second, .val (.double (FP.l2d s0)), .second, .unset, .unset, .unset, .unset] [(.int (0 : Int32)), (.ref bA), (.long (8 : Int64))])) rfl rfl (hb hby at_266) _ ?_
    refine XS.lmul X2.here hx rfl (hb hby at_267) rfl ?_
    refine XS.lstore X2.here hx rfl (hb hby at_268) rfl (l' := #[.val (.int sel), .val (.int qr), .val (.int base), .val (.long gaps), .second, .val (.int (4 : Int32)), .val (.int (9 : Int32)), .val (.ref bA), .val (.ref d_1), .val (.int q), .val (.double (own_pct (9 : Int32) q)), .second, .val (.double (FP.l2d s0)), .second, .val (.long ((8 : Int64) * s0)), .second, .unset, .unset]) rfl ?_
    show Steps p.tables e below (T2.setTop (mkF m 270 #[.val (.int sel), .val (.int qr), .val (.int base), .val (.long gaps), .second, .val (.int (4 : Int32)), .val (.int (9 : Int32)), .val (.ref bA), .val (.ref d_1), .val (.int q), .val (.double (own_pct (9 : Int32) q)), .second, .val (.double (FP.l2d s0)), .second, .val (.long ((8 : Int64) * s0)), .second, .unset, .unset] [])) _
    refine XS.goto X2.here hx rfl (pc0 := 270) (pc' := 339) rfl (hb hby at_270) (by decide) (by decide) ?_
    refine XS.dload X2.here hx rfl (hb hby at_339) rfl ?_
    show Steps p.tables e below (T2.setTop (mkF m 341 #[.val (.int sel), .val (.int qr), .val (.int base), .val (.long gaps), .second, .val (.int (4 : Int32)), .val (.int (9 : Int32)), .val (.ref bA), .val (.ref d_1), .val (.int q), .val (.double (own_pct (9 : Int32) q)), .second, .val (.double (FP.l2d s0)), .second, .val (.long ((8 : Int64) * s0)), .second, .unset, .unset] [(.double (FP.l2d s0))])) _
    refine X2.ldc2DoubleC hx hown (mvT hZ (hw _ (List.mem_of_getElem? (i := 15) rfl))) (g := (mkF m 341 #[.val (.int sel), .val (.int qr), .val (.int base), .val (.long gaps), .second, .val (.int (4 : Int32)), .val (.int (9 : Int32)), .val (.ref bA), .val (.ref d_1), .val (.int q), .val (.double (own_pct (9 : Int32) q)), .second, .val (.double (FP.l2d s0)), .second, .val (.long ((8 : Int64) * s0)), .second, .unset, .unset] [(.double (FP.l2d s0))])) rfl (hb hby at_341) _ ?_
    refine XS.dmulS X2.here hx rfl (hb hby at_344) rfl hn344 (v := (FP.dmul (FP.l2d s0) (4620693217682128896 : UInt64))) (rfl) ?_
    refine XS.lload X2.here hx rfl (hb hby at_345) rfl ?_
    show Steps p.tables e below (T2.setTop (mkF m 347 #[.val (.int sel), .val (.int qr), .val (.int base), .val (.long gaps), .second, .val (.int (4 : Int32)), .val (.int (9 : Int32)), .val (.ref bA), .val (.ref d_1), .val (.int q), .val (.double (own_pct (9 : Int32) q)), .second, .val (.double (FP.l2d s0)), .second, .val (.long ((8 : Int64) * s0)), .second, .unset, .unset] [(.long ((8 : Int64) * s0)), (.double (FP.dmul (FP.l2d s0) (4620693217682128896 : UInt64)))])) _
    refine XS.l2dS X2.here hx rfl (hb hby at_347) rfl (v := (FP.l2d ((8 : Int64) * s0))) (rfl) ?_
    refine XS.dcmpS X2.here hx rfl (hb hby at_348) rfl (v := (0 : Int32)) (hv348) ?_
    refine XS.ifNo X2.here hx rfl (hb hby at_349) rfl ((if0 _ _).trans (teq (by decide : (0 : Int32) = (0 : Int32))).2) ?_
    show Steps p.tables e below (T2.setTop (mkF m 352 #[.val (.int sel), .val (.int qr), .val (.int base), .val (.long gaps), .second, .val (.int (4 : Int32)), .val (.int (9 : Int32)), .val (.ref bA), .val (.ref d_1), .val (.int q), .val (.double (own_pct (9 : Int32) q)), .second, .val (.double (FP.l2d s0)), .second, .val (.long ((8 : Int64) * s0)), .second, .unset, .unset] [])) _
    refine XS.iconst X2.here hx rfl (hb hby at_352) ?_
    refine XS.goto X2.here hx rfl (pc0 := 353) (pc' := 357) rfl (hb hby at_353) (by decide) (by decide) ?_
    show Steps p.tables e below (T2.setTop (mkF m 357 #[.val (.int sel), .val (.int qr), .val (.int base), .val (.long gaps), .second, .val (.int (4 : Int32)), .val (.int (9 : Int32)), .val (.ref bA), .val (.ref d_1), .val (.int q), .val (.double (own_pct (9 : Int32) q)), .second, .val (.double (FP.l2d s0)), .second, .val (.long ((8 : Int64) * s0)), .second, .unset, .unset] [(.int (1 : Int32))])) _
    exact retN X2 hx (t := .boolean) Bd.returns (by simp) (hb hby at_357) hr
  · show QL n0 _ T2.heap _
    rw [eq2]
    exact ⟨rfl, N2⟩
set_option maxRecDepth 65536 in
set_option maxHeartbeats 40000000 in
theorem rm0b9 (l : Launch) (Z : State) (a0 : Array Value) (hw : ∀ d ∈ tables_1, d.before a0 Z = true) (ws : List Jvm.Cond) (sel qr base : Int32) (gaps : Int64) (s0 s1 s2 s3 s4 s5 s6 s7 s8 : Int64) (q : Int32) (h0 : Heap) (n0 : Nat) (Z0 : n0 ≤ h0.size) (hch : ((sel &&& (2147483647 : Int32)) % (5 : Int32)) = (4 : Int32)) (hs0 : (base.toInt64) = s0) (hs1 : s0 + (gaps &&& (255 : Int64)) = s1) (hs2 : s1 + (((gaps.toUInt64 >>> ((8 : Int32) &&& 0x3f).toInt64.toUInt64).toInt64) &&& (255 : Int64)) = s2) (hs3 : s2 + (((gaps.toUInt64 >>> ((16 : Int32) &&& 0x3f).toInt64.toUInt64).toInt64) &&& (255 : Int64)) = s3) (hs4 : s3 + (((gaps.toUInt64 >>> ((24 : Int32) &&& 0x3f).toInt64.toUInt64).toInt64) &&& (255 : Int64)) = s4) (hs5 : s4 + (((gaps.toUInt64 >>> ((32 : Int32) &&& 0x3f).toInt64.toUInt64).toInt64) &&& (255 : Int64)) = s5) (hs6 : s5 + (((gaps.toUInt64 >>> ((40 : Int32) &&& 0x3f).toInt64.toUInt64).toInt64) &&& (255 : Int64)) = s6) (hs7 : s6 + (((gaps.toUInt64 >>> ((48 : Int32) &&& 0x3f).toInt64.toUInt64).toInt64) &&& (255 : Int64)) = s7) (hs8 : s7 + (((gaps.toUInt64 >>> ((56 : Int32) &&& 0x3f).toInt64.toUInt64).toInt64) &&& (255 : Int64)) = s8) (hqq : (((qr &&& (2147483647 : Int32)) % (((8 : Int32) * (9 : Int32)) + (33 : Int32))) - (16 : Int32)) = q) (hm1 : Jvm.Free.Fl.NoNaN64 (own_m q)) (hm2 : Jvm.Free.Fl.NoNaN64 (own_pct (9 : Int32) q)) (hp1 : Jvm.Free.Fl.NoNaN64 (own_pm (9 : Int32) q)) (hp2 : Jvm.Free.Fl.NoNaN64 (own_pos (9 : Int32) q)) (hn344 : Jvm.Free.Fl.NoNaN64 (FP.dmul (FP.l2d s8) (4620693217682128896 : UInt64))) (hv348 : cmpValue (FP.dcmp (FP.dmul (FP.l2d s8) (4620693217682128896 : UInt64)) (FP.l2d ((8 : Int64) * s8))) .l = (0 : Int32)) (hq8 : ¬ (q < (8 : Int32))) (hcA : ¬ own_cA (9 : Int32) q < (0 : Int32)) (hq8n : ¬ (q < ((8 : Int32) * (9 : Int32)))) (hcB : ¬ own_cB (9 : Int32) q < (0 : Int32))   :
    MetFree l x (head1 (Jvm.Cond.code x code maxLocals ret :: ws) room_1) (fun a U => a = #[(.int sel), (.int qr), (.int base), (.long gaps)] ∧ Z.Warmed39 U.vm ∧ U.heap = h0) (fun _ _ _ _ _ => True) (fun _ U o U' => ∃ v L, o = .returned v ∧ QL n0 v U'.heap L ∧ FrameEnd U o U' L 2 18) := by
  refine MetFree.of_bodySF (plainFor_of_name pn_com_example_bytegauge_bytegauge_stats_JsonTablePercentilePinLaw) hisR ?_
  intro p e s m args below meth c s₁ Bd hml0 hP hK
  obtain ⟨rfl, hZ, hh⟩ := hP
  have hx := Bd.exec
  have hby := Bd.bytes
  have hml : c.maxLocals = 18 := hml0
  have hown : s.vm.findClass "com/example/bytegauge/bytegauge/stats/JsonTablePercentilePinLaw" = some m.cls := findClass_of_methodNamed Bd.named
  have hnm := (name_of_methodNamed Bd.named Bd.method).1
  have X0 : Stand p l e room_1 s m #[(.int sel), (.int qr), (.int base), (.long gaps)] below meth c s₁ [] 0 0 := Stand.of_body Bd
  have e0 : s₁.heap = h0 := by rw [← hh, Bd.state]; rfl
  have N0 := Fr.nil n0
  have pre0 : ∀ t, Steps p.tables e below (s₁.setTop (mkF m 0 #[.val (.int sel), .val (.int qr), .val (.int base), .val (.long gaps), .second, .unset, .unset, .unset, .unset, .unset, .unset, .unset, .unset, .unset, .unset, .unset, .unset, .unset] [])) t → Steps p.tables e below (s₁.setTop (entryFrame m #[(.int sel), (.int qr), (.int base), (.long gaps)] maxLocals)) t := fun t k => castTop (ef_code m sel qr base gaps) k
  obtain ⟨TA, hA, LA, bA, kA, XA, eA, NA, SZA, g_bA, VA, stA⟩ := segA h0 n0 Z0 sel qr base gaps (4 : Int32) (9 : Int32) s0 s1 s2 s3 s4 s5 s6 s7 s8 X0 hx hZ hw hby hml hown e0 hs0 hs1 hs2 hs3 hs4 hs5 hs6 hs7 hs8
  obtain ⟨_, _, ⟨T1, L1, k1, n1⟩, -, X1, ⟨Lc1, hQ1, l1, y1, z1⟩, st1⟩ := Jvm.LawKit.callS XA hx (y := (⟨"com/example/bytegauge/bytegauge/stats/JsonTablePercentilePinLaw", "sortedOf", "(I[J)[D"⟩ : MethodName)) hown (mvT hZ (hw _ (List.mem_of_getElem? (i := 3) rfl))) (mvT hZ (hw _ (List.mem_of_getElem? (i := 4) rfl))) (mvT hZ (hw _ (List.mem_of_getElem? (i := 5) rfl))) (mvT hZ (hw _ (List.mem_of_getElem? (i := 6) rfl))) (by decide) (backOf (W := 0) (rmS9 l Z a0 hw [] bA kA s0 s1 s2 s3 s4 s5 s6 s7 s8 hA n0 SZA VA) hZ (hw _ (List.mem_of_getElem? (i := 6) rfl)) (hw _ (List.mem_of_getElem? (i := 5) rfl)) (by decide) (by decide)) (g := (mkF m 206 #[.val (.int sel), .val (.int qr), .val (.int base), .val (.long gaps), .second, .val (.int (4 : Int32)), .val (.int (9 : Int32)), .val (.ref bA), .unset, .unset, .unset, .unset, .unset, .unset, .unset, .unset, .unset, .unset] [(.ref bA), (.int (9 : Int32))])) rfl (by rw [hml]; rfl) (argsL := [(.int (9 : Int32)), (.ref bA)]) (rest := []) (lenOf pd__I_J__D rfl) rfl (by show 2 * 0 + _ ≤ _; exact Nat.le_of_eq rfl) (hb hby at_206) (fun _ _ => ⟨rfl, eA, (by decide : 1 + 1 ≤ _), (by decide : 9 + 9 ≤ _)⟩)
  dsimp only [Pt.U, Pt.locs, Pt.cells, Pt.slots] at X1 l1 y1 z1 st1 hQ1
  subst l1 y1 z1
  obtain ⟨d_1, kd1, rfl, N1q, g_d_1, sz_d_1, K1q, V1q⟩ := hQ1
  have c1_0 := VA.keep K1q List.not_mem_nil
  have SZ1 := Nat.le_trans SZA K1q.1
  have N1 := Fr.app NA N1q
  obtain ⟨_, _, ⟨T2, L2, k2, n2⟩, -, X2, ⟨Lc2, hQ2, l2, y2, z2⟩, st2⟩ := Jvm.LawKit.callS X1 hx (y := (⟨"com/example/bytegauge/bytegauge/stats/JsonTable", "percentile", "([DD)D"⟩ : MethodName)) hown (mvT hZ (hw _ (List.mem_of_getElem? (i := 9) rfl))) (mvT hZ (hw _ (List.mem_of_getElem? (i := 10) rfl))) (mvT hZ (hw _ (List.mem_of_getElem? (i := 11) rfl))) (mvT hZ (hw _ (List.mem_of_getElem? (i := 12) rfl))) (by decide) (backOf (W := 0) (rmPb9 l Z a0 hw [] d_1 kd1 s0 s1 s2 s3 s4 s5 s6 s7 s8 (own_pct (9 : Int32) q) (own_pos (9 : Int32) q) T1.heap n0 SZ1 V1q hp1 hp2 rfl _ rfl _ rfl hcA hcB) hZ (hw _ (List.mem_of_getElem? (i := 12) rfl)) (hw _ (List.mem_of_getElem? (i := 11) rfl)) (by decide) (by decide)) (g := (mkF m 248 #[.val (.int sel), .val (.int qr), .val (.int base), .val (.long gaps), .second, .val (.int (4 : Int32)), .val (.int (9 : Int32)), .val (.ref bA), .val (.ref d_1), .val (.int q), .val (.double (own_pct (9 : Int32) q)), .second, .unset, .unset, .unset, .unset, .unset, .unset] [(.double (own_pct (9 : Int32) q)), (.ref d_1)])) rfl (by rw [hml]; rfl) (argsL := [(.ref d_1), (.double (own_pct (9 : Int32) q))]) (rest := []) (lenOf pd___DD_D rfl) rfl (by show 2 * 0 + _ ≤ _; exact Nat.le_of_eq rfl) (hb hby at_248) (fun _ _ => ⟨rfl, rfl, (by decide : 2 + 0 ≤ _), (by decide : 18 + 0 ≤ _)⟩)
  dsimp only [Pt.U, Pt.locs, Pt.cells, Pt.slots] at X2 l2 y2 z2 st2 hQ2
  subst l2 y2 z2
  obtain ⟨rfl, N2q, eq2⟩ := hQ2
  have N2 := Fr.app N1 N2q
  obtain ⟨cl3, Ar3, -, S3, Nn3, H3, -⟩ := id c1_0
  have hin3 : ¬ ((8 : Int32) < 0 ∨ cl3.slots.size ≤ ((8 : Int32)).toNatClampNeg) := inb_of S3 ⟨by decide, by decide⟩
  have hat3 : cl3.slots[((8 : Int32)).toNatClampNeg]? = some (.long s8) := H3.at hin3 rfl
  obtain ⟨fs, hr, hrun, hended, hW, hsame⟩ := X2.leave (v := some (.int (1 : Int32))) (fun h => by rw [Bd.returns] at h; cases h)
  refine ⟨_, _, pre0 _ ?_, hrun, hended, _, _, rfl, ?_, ⟨_, rfl⟩, hW, hsame.mono (by decide) (by decide)⟩
  · show Steps p.tables e below (s₁.setTop (mkF m 0 #[.val (.int sel), .val (.int qr), .val (.int base), .val (.long gaps), .second, .unset, .unset, .unset, .unset, .unset, .unset, .unset, .unset, .unset, .unset, .unset, .unset, .unset] [])) _
    refine XS.iloadN X0.here hx rfl (hb hby at_0) rfl ?_
    show Steps p.tables e below (s₁.setTop (mkF m 1 #[.val (.int sel), .val (.int qr), .val (.int base), .val (.long gaps), .second, .unset, .unset, .unset, .unset, .unset, .unset, .unset, .unset, .unset, .unset, .unset, .unset, .unset] [(.int sel)])) _
    refine X0.ldcInt hx hown (mvT hZ (hw _ (List.mem_of_getElem? (i := 0) rfl))) (g := (mkF m 1 #[.val (.int sel), .val (.int qr), .val (.int base), .val (.long gaps), .second, .unset, .unset, .unset, .unset, .unset, .unset, .unset, .unset, .unset, .unset, .unset, .unset, .unset] [(.int sel)])) rfl (hb hby at_1) _ ?_
    refine XS.iand X0.here hx rfl (hb hby at_3) rfl ?_
    refine XS.iconst X0.here hx rfl (hb hby at_4) ?_
    show Steps p.tables e below (s₁.setTop (mkF m 5 #[.val (.int sel), .val (.int qr), .val (.int base), .val (.long gaps), .second, .unset, .unset, .unset, .unset, .unset, .unset, .unset, .unset, .unset, .unset, .unset, .unset, .unset] [(.int (5 : Int32)), (.int (sel &&& (2147483647 : Int32)))])) _
    refine iremM X0 hx rfl (hb hby at_5) rfl (by decide) ?_
    show Steps p.tables e below (s₁.setTop (mkF m 6 #[.val (.int sel), .val (.int qr), .val (.int base), .val (.long gaps), .second, .unset, .unset, .unset, .unset, .unset, .unset, .unset, .unset, .unset, .unset, .unset, .unset, .unset] [(.int ((sel &&& (2147483647 : Int32)) % (5 : Int32)))])) _
    rw [show ((sel &&& (2147483647 : Int32)) % (5 : Int32)) = (4 : Int32) from hch]
    refine XS.istore X0.here hx rfl (hb hby at_6) rfl (l' := #[.val (.int sel), .val (.int qr), .val (.int base), .val (.long gaps), .second, .val (.int (4 : Int32)), .unset, .unset, .unset, .unset, .unset, .unset, .unset, .unset, .unset, .unset, .unset, .unset]) rfl ?_
    refine XS.iload X0.here hx rfl (hb hby at_8) rfl ?_
    show Steps p.tables e below (s₁.setTop (mkF m 10 #[.val (.int sel), .val (.int qr), .val (.int base), .val (.long gaps), .second, .val (.int (4 : Int32)), .unset, .unset, .unset, .unset, .unset, .unset, .unset, .unset, .unset, .unset, .unset, .unset] [(.int (4 : Int32))])) _
    refine XS.ifYes X0.here hx rfl (pc0 := 10) (pc' := 17) rfl (hb hby at_10) rfl ((if0 _ _).trans (feq (by decide : ¬ ((4 : Int32) = (0 : Int32)))).2) (by decide) (by decide) ?_
    refine XS.iload X0.here hx rfl (hb hby at_17) rfl ?_
    refine XS.iconst X0.here hx rfl (hb hby at_19) ?_
    show Steps p.tables e below (s₁.setTop (mkF m 20 #[.val (.int sel), .val (.int qr), .val (.int base), .val (.long gaps), .second, .val (.int (4 : Int32)), .unset, .unset, .unset, .unset, .unset, .unset, .unset, .unset, .unset, .unset, .unset, .unset] [(.int (1 : Int32)), (.int (4 : Int32))])) _
    refine XS.icmpYes X0.here hx rfl (pc0 := 20) (pc' := 27) rfl (hb hby at_20) rfl (feq (by decide : ¬ ((4 : Int32) = (1 : Int32)))).2 (by decide) (by decide) ?_
    refine XS.iload X0.here hx rfl (hb hby at_27) rfl ?_
    refine XS.iconst X0.here hx rfl (hb hby at_29) ?_
    show Steps p.tables e below (s₁.setTop (mkF m 30 #[.val (.int sel), .val (.int qr), .val (.int base), .val (.long gaps), .second, .val (.int (4 : Int32)), .unset, .unset, .unset, .unset, .unset, .unset, .unset, .unset, .unset, .unset, .unset, .unset] [(.int (2 : Int32)), (.int (4 : Int32))])) _
    refine XS.icmpYes X0.here hx rfl (pc0 := 30) (pc' := 37) rfl (hb hby at_30) rfl (feq (by decide : ¬ ((4 : Int32) = (2 : Int32)))).2 (by decide) (by decide) ?_
    refine XS.iload X0.here hx rfl (hb hby at_37) rfl ?_
    refine XS.iconst X0.here hx rfl (hb hby at_39) ?_
    show Steps p.tables e below (s₁.setTop (mkF m 40 #[.val (.int sel), .val (.int qr), .val (.int base), .val (.long gaps), .second, .val (.int (4 : Int32)), .unset, .unset, .unset, .unset, .unset, .unset, .unset, .unset, .unset, .unset, .unset, .unset] [(.int (3 : Int32)), (.int (4 : Int32))])) _
    refine XS.icmpYes X0.here hx rfl (pc0 := 40) (pc' := 48) rfl (hb hby at_40) rfl (feq (by decide : ¬ ((4 : Int32) = (3 : Int32)))).2 (by decide) (by decide) ?_
    refine XS.bipush X0.here hx rfl (hb hby at_48) ?_
    refine XS.istore X0.here hx rfl (hb hby at_50) rfl (l' := #[.val (.int sel), .val (.int qr), .val (.int base), .val (.long gaps), .second, .val (.int (4 : Int32)), .val (.int (9 : Int32)), .unset, .unset, .unset, .unset, .unset, .unset, .unset, .unset, .unset, .unset, .unset]) rfl ?_
    show Steps p.tables e below (s₁.setTop (mkF m 52 #[.val (.int sel), .val (.int qr), .val (.int base), .val (.long gaps), .second, .val (.int (4 : Int32)), .val (.int (9 : Int32)), .unset, .unset, .unset, .unset, .unset, .unset, .unset, .unset, .unset, .unset, .unset] [])) _
    refine stA _ ?_
    show Steps p.tables e below (TA.setTop (mkF m 202 #[.val (.int sel), .val (.int qr), .val (.int base), .val (.long gaps), .second, .val (.int (4 : Int32)), .val (.int (9 : Int32)), .val (.ref bA), .unset, .unset, .unset, .unset, .unset, .unset, .unset, .unset, .unset, .unset] [])) _
    refine XS.iload XA.here hx rfl (hb hby at_202) rfl ?_
    refine XS.aload XA.here hx rfl (hb hby at_204) rfl rfl ?_
    show Steps p.tables e below (TA.setTop (mkF m 206 #[.val (.int sel), .val (.int qr), .val (.int base), .val (.long gaps), .second, .val (.int (4 : Int32)), .val (.int (9 : Int32)), .val (.ref bA), .unset, .unset, .unset, .unset, .unset, .unset, .unset, .unset, .unset, .unset] [(.ref bA), (.int (9 : Int32))])) _
    refine st1 _ ?_
    refine XS.astore X1.here hx rfl (hb hby at_209) rfl rfl (l' := #[.val (.int sel), .val (.int qr), .val (.int base), .val (.long gaps), .second, .val (.int (4 : Int32)), .val (.int (9 : Int32)), .val (.ref bA), .val (.ref d_1), .unset, .unset, .unset, .unset, .unset, .unset, .unset, .unset, .unset]) rfl ?_
    refine XS.iloadN X1.here hx rfl (hb hby at_211) rfl ?_
    show Steps p.tables e below (T1.setTop (mkF m 212 #[.val (.int sel), .val (.int qr), .val (.int base), .val (.long gaps), .second, .val (.int (4 : Int32)), .val (.int (9 : Int32)), .val (.ref bA), .val (.ref d_1), .unset, .unset, .unset, .unset, .unset, .unset, .unset, .unset, .unset] [(.int qr)])) _
    refine X1.ldcInt hx hown (mvT hZ (hw _ (List.mem_of_getElem? (i := 0) rfl))) (g := (mkF m 212 #[.val (.int sel), .val (.int qr), .val (.int base), .val (.long gaps), .second, .val (.int (4 : Int32)), .val (.int (9 : Int32)), .val (.ref bA), .val (.ref d_1), .unset, .unset, .unset, .unset, .unset, .unset, .unset, .unset, .unset] [(.int qr)])) rfl (hb hby at_212) _ ?_
    refine XS.iand X1.here hx rfl (hb hby at_214) rfl ?_
    refine XS.bipush X1.here hx rfl (hb hby at_215) ?_
    show Steps p.tables e below (T1.setTop (mkF m 217 #[.val (.int sel), .val (.int qr), .val (.int base), .val (.long gaps), .second, .val (.int (4 : Int32)), .val (.int (9 : Int32)), .val (.ref bA), .val (.ref d_1), .unset, .unset, .unset, .unset, .unset, .unset, .unset, .unset, .unset] [(.int (8 : Int32)), (.int (qr &&& (2147483647 : Int32)))])) _
    refine XS.iload X1.here hx rfl (hb hby at_217) rfl ?_
    refine XS.imul X1.here hx rfl (hb hby at_219) rfl ?_
    refine XS.bipush X1.here hx rfl (hb hby at_220) ?_
    show Steps p.tables e below (T1.setTop (mkF m 222 #[.val (.int sel), .val (.int qr), .val (.int base), .val (.long gaps), .second, .val (.int (4 : Int32)), .val (.int (9 : Int32)), .val (.ref bA), .val (.ref d_1), .unset, .unset, .unset, .unset, .unset, .unset, .unset, .unset, .unset] [(.int (33 : Int32)), (.int ((8 : Int32) * (9 : Int32))), (.int (qr &&& (2147483647 : Int32)))])) _
    refine XS.iadd X1.here hx rfl (hb hby at_222) rfl ?_
    refine iremM X1 hx rfl (hb hby at_223) rfl (by decide) ?_
    refine XS.bipush X1.here hx rfl (hb hby at_224) ?_
    show Steps p.tables e below (T1.setTop (mkF m 226 #[.val (.int sel), .val (.int qr), .val (.int base), .val (.long gaps), .second, .val (.int (4 : Int32)), .val (.int (9 : Int32)), .val (.ref bA), .val (.ref d_1), .unset, .unset, .unset, .unset, .unset, .unset, .unset, .unset, .unset] [(.int (16 : Int32)), (.int ((qr &&& (2147483647 : Int32)) % (((8 : Int32) * (9 : Int32)) + (33 : Int32))))])) _
    refine XS.isub X1.here hx rfl (hb hby at_226) rfl ?_
    show Steps p.tables e below (T1.setTop (mkF m 227 #[.val (.int sel), .val (.int qr), .val (.int base), .val (.long gaps), .second, .val (.int (4 : Int32)), .val (.int (9 : Int32)), .val (.ref bA), .val (.ref d_1), .unset, .unset, .unset, .unset, .unset, .unset, .unset, .unset, .unset] [(.int (((qr &&& (2147483647 : Int32)) % (((8 : Int32) * (9 : Int32)) + (33 : Int32))) - (16 : Int32)))])) _
    rw [show (((qr &&& (2147483647 : Int32)) % (((8 : Int32) * (9 : Int32)) + (33 : Int32))) - (16 : Int32)) = q from hqq]
    refine XS.istore X1.here hx rfl (hb hby at_227) rfl (l' := #[.val (.int sel), .val (.int qr), .val (.int base), .val (.long gaps), .second, .val (.int (4 : Int32)), .val (.int (9 : Int32)), .val (.ref bA), .val (.ref d_1), .val (.int q), .unset, .unset, .unset, .unset, .unset, .unset, .unset, .unset]) rfl ?_
    show Steps p.tables e below (T1.setTop (mkF m 229 #[.val (.int sel), .val (.int qr), .val (.int base), .val (.long gaps), .second, .val (.int (4 : Int32)), .val (.int (9 : Int32)), .val (.ref bA), .val (.ref d_1), .val (.int q), .unset, .unset, .unset, .unset, .unset, .unset, .unset, .unset] [])) _
    refine X1.ldc2DoubleC hx hown (mvT hZ (hw _ (List.mem_of_getElem? (i := 8) rfl))) (g := (mkF m 229 #[.val (.int sel), .val (.int qr), .val (.int base), .val (.long gaps), .second, .val (.int (4 : Int32)), .val (.int (9 : Int32)), .val (.ref bA), .val (.ref d_1), .val (.int q), .unset, .unset, .unset, .unset, .unset, .unset, .unset, .unset] [])) rfl (hb hby at_229) _ ?_
    refine XS.iload X1.here hx rfl (hb hby at_232) rfl ?_
    refine XS.i2dS X1.here hx rfl (hb hby at_234) rfl (v := (FP.i2d q)) (rfl) ?_
    show Steps p.tables e below (T1.setTop (mkF m 235 #[.val (.int sel), .val (.int qr), .val (.int base), .val (.long gaps), .second, .val (.int (4 : Int32)), .val (.int (9 : Int32)), .val (.ref bA), .val (.ref d_1), .val (.int q), .unset, .unset, .unset, .unset, .unset, .unset, .unset, .unset] [(.double (FP.i2d q)), (.double (4623226492472524800 : UInt64))])) _
    refine XS.dmulS X1.here hx rfl (hb hby at_235) rfl hm1 (v := (own_m q)) (rfl) ?_
    refine XS.iload X1.here hx rfl (hb hby at_236) rfl ?_
    refine XS.iconst X1.here hx rfl (hb hby at_238) ?_
    show Steps p.tables e below (T1.setTop (mkF m 239 #[.val (.int sel), .val (.int qr), .val (.int base), .val (.long gaps), .second, .val (.int (4 : Int32)), .val (.int (9 : Int32)), .val (.ref bA), .val (.ref d_1), .val (.int q), .unset, .unset, .unset, .unset, .unset, .unset, .unset, .unset] [(.int (1 : Int32)), (.int (9 : Int32)), (.double (own_m q))])) _
    refine XS.iadd X1.here hx rfl (hb hby at_239) rfl ?_
    refine XS.i2dS X1.here hx rfl (hb hby at_240) rfl (v := (FP.i2d ((9 : Int32) + (1 : Int32)))) (rfl) ?_
    refine XS.ddivS X1.here hx rfl (hb hby at_241) rfl hm2 (v := (own_pct (9 : Int32) q)) (rfl) ?_
    show Steps p.tables e below (T1.setTop (mkF m 242 #[.val (.int sel), .val (.int qr), .val (.int base), .val (.long gaps), .second, .val (.int (4 : Int32)), .val (.int (9 : Int32)), .val (.ref bA), .val (.ref d_1), .val (.int q), .unset, .unset, .unset, .unset, .unset, .unset, .unset, .unset] [(.double (own_pct (9 : Int32) q))])) _
    refine XS.dstore X1.here hx rfl (hb hby at_242) rfl (l' := #[.val (.int sel), .val (.int qr), .val (.int base), .val (.long gaps), .second, .val (.int (4 : Int32)), .val (.int (9 : Int32)), .val (.ref bA), .val (.ref d_1), .val (.int q), .val (.double (own_pct (9 : Int32) q)), .second, .unset, .unset, .unset, .unset, .unset, .unset]) rfl ?_
    refine XS.aload X1.here hx rfl (hb hby at_244) rfl rfl ?_
    refine XS.dload X1.here hx rfl (hb hby at_246) rfl ?_
    show Steps p.tables e below (T1.setTop (mkF m 248 #[.val (.int sel), .val (.int qr), .val (.int base), .val (.long gaps), .second, .val (.int (4 : Int32)), .val (.int (9 : Int32)), .val (.ref bA), .val (.ref d_1), .val (.int q), .val (.double (own_pct (9 : Int32) q)), .second, .unset, .unset, .unset, .unset, .unset, .unset] [(.double (own_pct (9 : Int32) q)), (.ref d_1)])) _
    refine st2 _ ?_
    refine XS.dstore X2.here hx rfl (hb hby at_251) rfl (l' := #[.val (.int sel), .val (.int qr), .val (.int base), .val (.long gaps), .second, .val (.int (4 : Int32)), .val (.int (9 : Int32)), .val (.ref bA), .val (.ref d_1), .val (.int q), .val (.double (own_pct (9 : Int32) q)), .second, .val (.double (FP.l2d s8)), .second, .unset, .unset, .unset, .unset]) rfl ?_
    refine XS.iload X2.here hx rfl (hb hby at_253) rfl ?_
    show Steps p.tables e below (T2.setTop (mkF m 255 #[.val (.int sel), .val (.int qr), .val (.int base), .val (.long gaps), .second, .val (.int (4 : Int32)), .val (.int (9 : Int32)), .val (.ref bA), .val (.ref d_1), .val (.int q), .val (.double (own_pct (9 : Int32) q)), .second, .val (.double (FP.l2d s8)), .second, .unset, .unset, .unset, .unset] [(.int q)])) _
    refine XS.bipush X2.here hx rfl (hb hby at_255) ?_
    refine XS.icmpYes X2.here hx rfl (pc0 := 257) (pc' := 273) rfl (hb hby at_257) rfl (flt (hq8 : ¬ (q < (8 : Int32)))).2.1 (by decide) (by decide) ?_
    refine XS.iload X2.here hx rfl (hb hby at_273) rfl ?_
    show Steps p.tables e below (T2.setTop (mkF m 275 #[.val (.int sel), .val (.int qr), .val (.int base), .val (.long gaps), .second, .val (.int (4 : Int32)), .val (.int (9 : Int32)), .val (.ref bA), .val (.ref d_1), .val (.int q), .val (.double (own_pct (9 : Int32) q)), .second, .val (.double (FP.l2d s8)), .second, .unset, .unset, .unset, .unset] [(.int q)])) _
    refine XS.bipush X2.here hx rfl (hb hby at_275) ?_
    refine XS.iload X2.here hx rfl (hb hby at_277) rfl ?_
    refine XS.imul X2.here hx rfl (hb hby at_279) rfl ?_
    show Steps p.tables e below (T2.setTop (mkF m 280 #[.val (.int sel), .val (.int qr), .val (.int base), .val (.long gaps), .second, .val (.int (4 : Int32)), .val (.int (9 : Int32)), .val (.ref bA), .val (.ref d_1), .val (.int q), .val (.double (own_pct (9 : Int32) q)), .second, .val (.double (FP.l2d s8)), .second, .unset, .unset, .unset, .unset] [(.int ((8 : Int32) * (9 : Int32))), (.int q)])) _
    refine XS.icmpNo X2.here hx rfl (hb hby at_280) rfl (flt (hq8n : ¬ (q < ((8 : Int32) * (9 : Int32))))).1 ?_
    show Steps p.tables e below (T2.setTop (mkF m 283 #[.val (.int sel), .val (.int qr), .val (.int base), .val (.long gaps), .second, .val (.int (4 : Int32)), .val (.int (9 : Int32)), .val (.ref bA), .val (.ref d_1), .val (.int q), .val (.double (own_pct (9 : Int32) q)), .second, .val (.double (FP.l2d s8)), .second, .unset, .unset, .unset, .unset] [])) _
    refine X2.ldc2Long hx hown (mvT hZ (hw _ (List.mem_of_getElem? (i := 14) rfl))) (g := (mkF m 283 #[.val (.int sel), .val (.int qr), .val (.int base), .val (.long gaps), .second, .val (.int (4 : Int32)), .val (.int (9 : Int32)), .val (.ref bA), .val (.ref d_1), .val (.int q), .val (.double (own_pct (9 : Int32) q)), .second, .val (.double (FP.l2d s8)), .second, .unset, .unset, .unset, .unset] [])) rfl (hb hby at_283) _ ?_
    refine XS.aload X2.here hx rfl (hb hby at_286) rfl rfl ?_
    refine XS.iload X2.here hx rfl (hb hby at_288) rfl ?_
    show Steps p.tables e below (T2.setTop (mkF m 290 #[.val (.int sel), .val (.int qr), .val (.int base), .val (.long gaps), .second, .val (.int (4 : Int32)), .val (.int (9 : Int32)), .val (.ref bA), .val (.ref d_1), .val (.int q), .val (.double (own_pct (9 : Int32) q)), .second, .val (.double (FP.l2d s8)), .second, .unset, .unset, .unset, .unset] [(.int (9 : Int32)), (.ref bA), (.long (8 : Int64))])) _
    refine XS.iconst X2.here hx rfl (hb hby at_290) ?_
    refine XS.isub X2.here hx rfl (hb hby at_291) rfl ?_
    show Steps p.tables e below (T2.setTop (mkF m 292 #[.val (.int sel), .val (.int qr), .val (.int base), .val (.long gaps), .second, .val (.int (4 : Int32)), .val (.int (9 : Int32)), .val (.ref bA), .val (.ref d_1), .val (.int q), .val (.double (own_pct (9 : Int32) q)), .second, .val (.double (FP.l2d s8)), .second, .unset, .unset, .unset, .unset] [(.int ((9 : Int32) - (1 : Int32))), (.ref bA), (.long (8 : Int64))])) _
    rw [show ((9 : Int32) - (1 : Int32)) = (8 : Int32) from (by decide)]
    show Steps p.tables e below (T2.setTop (mkF m 292 #[.val (.int sel), .val (.int qr), .val (.int base), .val (.long gaps), .second, .val (.int (4 : Int32)), .val (.int (9 : Int32)), .val (.ref bA), .val (.ref d_1), .val (.int q), .val (.double (own_pct (9 : Int32) q)), .second, .val (.double (FP.l2d s8)), .second, .unset, .unset, .unset, .unset] [(.int (8 : Int32)), (.ref bA), (.long (8 : Int64))])) _
    refine X2.laload hx (j := (8 : Int32)) (v := (.long s8)) (by rw [eq2]; exact Ar3.1) (State.isArrayOf_alike hZ.alike Ar3.2.1) Ar3.2.2 hin3 hat3 (g := (mkF m 292 #[.val (.int sel), .val (.int qr), .val (.int base), .val (.long gaps), .second, .val (.int (4 : Int32)), .val (.int (9 : Int32)), .val (.ref bA), .val (.ref d_1), .val (.int q), .val (.double (own_pct (9 : Int32) q)), .second, .val (.double (FP.l2d s8)), .second, .unset, .unset, .unset, .unset] [(.int (8 : Int32)), (.ref bA), (.long (8 : Int64))])) rfl rfl (hb hby at_292) _ ?_
    refine XS.lmul X2.here hx rfl (hb hby at_293) rfl ?_
    refine XS.lstore X2.here hx rfl (hb hby at_294) rfl (l' := #[.val (.int sel), .val (.int qr), .val (.int base), .val (.long gaps), .second, .val (.int (4 : Int32)), .val (.int (9 : Int32)), .val (.ref bA), .val (.ref d_1), .val (.int q), .val (.double (own_pct (9 : Int32) q)), .second, .val (.double (FP.l2d s8)), .second, .val (.long ((8 : Int64) * s8)), .second, .unset, .unset]) rfl ?_
    show Steps p.tables e below (T2.setTop (mkF m 296 #[.val (.int sel), .val (.int qr), .val (.int base), .val (.long gaps), .second, .val (.int (4 : Int32)), .val (.int (9 : Int32)), .val (.ref bA), .val (.ref d_1), .val (.int q), .val (.double (own_pct (9 : Int32) q)), .second, .val (.double (FP.l2d s8)), .second, .val (.long ((8 : Int64) * s8)), .second, .unset, .unset] [])) _
    refine XS.goto X2.here hx rfl (pc0 := 296) (pc' := 339) rfl (hb hby at_296) (by decide) (by decide) ?_
    refine XS.dload X2.here hx rfl (hb hby at_339) rfl ?_
    show Steps p.tables e below (T2.setTop (mkF m 341 #[.val (.int sel), .val (.int qr), .val (.int base), .val (.long gaps), .second, .val (.int (4 : Int32)), .val (.int (9 : Int32)), .val (.ref bA), .val (.ref d_1), .val (.int q), .val (.double (own_pct (9 : Int32) q)), .second, .val (.double (FP.l2d s8)), .second, .val (.long ((8 : Int64) * s8)), .second, .unset, .unset] [(.double (FP.l2d s8))])) _
    refine X2.ldc2DoubleC hx hown (mvT hZ (hw _ (List.mem_of_getElem? (i := 15) rfl))) (g := (mkF m 341 #[.val (.int sel), .val (.int qr), .val (.int base), .val (.long gaps), .second, .val (.int (4 : Int32)), .val (.int (9 : Int32)), .val (.ref bA), .val (.ref d_1), .val (.int q), .val (.double (own_pct (9 : Int32) q)), .second, .val (.double (FP.l2d s8)), .second, .val (.long ((8 : Int64) * s8)), .second, .unset, .unset] [(.double (FP.l2d s8))])) rfl (hb hby at_341) _ ?_
    refine XS.dmulS X2.here hx rfl (hb hby at_344) rfl hn344 (v := (FP.dmul (FP.l2d s8) (4620693217682128896 : UInt64))) (rfl) ?_
    refine XS.lload X2.here hx rfl (hb hby at_345) rfl ?_
    show Steps p.tables e below (T2.setTop (mkF m 347 #[.val (.int sel), .val (.int qr), .val (.int base), .val (.long gaps), .second, .val (.int (4 : Int32)), .val (.int (9 : Int32)), .val (.ref bA), .val (.ref d_1), .val (.int q), .val (.double (own_pct (9 : Int32) q)), .second, .val (.double (FP.l2d s8)), .second, .val (.long ((8 : Int64) * s8)), .second, .unset, .unset] [(.long ((8 : Int64) * s8)), (.double (FP.dmul (FP.l2d s8) (4620693217682128896 : UInt64)))])) _
    refine XS.l2dS X2.here hx rfl (hb hby at_347) rfl (v := (FP.l2d ((8 : Int64) * s8))) (rfl) ?_
    refine XS.dcmpS X2.here hx rfl (hb hby at_348) rfl (v := (0 : Int32)) (hv348) ?_
    refine XS.ifNo X2.here hx rfl (hb hby at_349) rfl ((if0 _ _).trans (teq (by decide : (0 : Int32) = (0 : Int32))).2) ?_
    show Steps p.tables e below (T2.setTop (mkF m 352 #[.val (.int sel), .val (.int qr), .val (.int base), .val (.long gaps), .second, .val (.int (4 : Int32)), .val (.int (9 : Int32)), .val (.ref bA), .val (.ref d_1), .val (.int q), .val (.double (own_pct (9 : Int32) q)), .second, .val (.double (FP.l2d s8)), .second, .val (.long ((8 : Int64) * s8)), .second, .unset, .unset] [])) _
    refine XS.iconst X2.here hx rfl (hb hby at_352) ?_
    refine XS.goto X2.here hx rfl (pc0 := 353) (pc' := 357) rfl (hb hby at_353) (by decide) (by decide) ?_
    show Steps p.tables e below (T2.setTop (mkF m 357 #[.val (.int sel), .val (.int qr), .val (.int base), .val (.long gaps), .second, .val (.int (4 : Int32)), .val (.int (9 : Int32)), .val (.ref bA), .val (.ref d_1), .val (.int q), .val (.double (own_pct (9 : Int32) q)), .second, .val (.double (FP.l2d s8)), .second, .val (.long ((8 : Int64) * s8)), .second, .unset, .unset] [(.int (1 : Int32))])) _
    exact retN X2 hx (t := .boolean) Bd.returns (by simp) (hb hby at_357) hr
  · show QL n0 _ T2.heap _
    rw [eq2]
    exact ⟨rfl, N2⟩
set_option maxRecDepth 65536 in
set_option maxHeartbeats 40000000 in
theorem rm0c9 (l : Launch) (Z : State) (a0 : Array Value) (hw : ∀ d ∈ tables_1, d.before a0 Z = true) (ws : List Jvm.Cond) (sel qr base : Int32) (gaps : Int64) (s0 s1 s2 s3 s4 s5 s6 s7 s8 : Int64) (q : Int32) (fr : UInt64) (lo hi : Int64) (bb b1 kk : Int32) (h0 : Heap) (n0 : Nat) (Z0 : n0 ≤ h0.size) (hch : ((sel &&& (2147483647 : Int32)) % (5 : Int32)) = (4 : Int32)) (hs0 : (base.toInt64) = s0) (hs1 : s0 + (gaps &&& (255 : Int64)) = s1) (hs2 : s1 + (((gaps.toUInt64 >>> ((8 : Int32) &&& 0x3f).toInt64.toUInt64).toInt64) &&& (255 : Int64)) = s2) (hs3 : s2 + (((gaps.toUInt64 >>> ((16 : Int32) &&& 0x3f).toInt64.toUInt64).toInt64) &&& (255 : Int64)) = s3) (hs4 : s3 + (((gaps.toUInt64 >>> ((24 : Int32) &&& 0x3f).toInt64.toUInt64).toInt64) &&& (255 : Int64)) = s4) (hs5 : s4 + (((gaps.toUInt64 >>> ((32 : Int32) &&& 0x3f).toInt64.toUInt64).toInt64) &&& (255 : Int64)) = s5) (hs6 : s5 + (((gaps.toUInt64 >>> ((40 : Int32) &&& 0x3f).toInt64.toUInt64).toInt64) &&& (255 : Int64)) = s6) (hs7 : s6 + (((gaps.toUInt64 >>> ((48 : Int32) &&& 0x3f).toInt64.toUInt64).toInt64) &&& (255 : Int64)) = s7) (hs8 : s7 + (((gaps.toUInt64 >>> ((56 : Int32) &&& 0x3f).toInt64.toUInt64).toInt64) &&& (255 : Int64)) = s8) (hqq : (((qr &&& (2147483647 : Int32)) % (((8 : Int32) * (9 : Int32)) + (33 : Int32))) - (16 : Int32)) = q) (hm1 : Jvm.Free.Fl.NoNaN64 (own_m q)) (hm2 : Jvm.Free.Fl.NoNaN64 (own_pct (9 : Int32) q)) (hp1 : Jvm.Free.Fl.NoNaN64 (own_pm (9 : Int32) q)) (hp2 : Jvm.Free.Fl.NoNaN64 (own_pos (9 : Int32) q)) (hn344 : Jvm.Free.Fl.NoNaN64 (FP.dmul (FP.dadd (FP.l2d lo) (FP.dmul fr (FP.dsub (FP.l2d hi) (FP.l2d lo)))) (4620693217682128896 : UInt64))) (hv348 : cmpValue (FP.dcmp (FP.dmul (FP.dadd (FP.l2d lo) (FP.dmul fr (FP.dsub (FP.l2d hi) (FP.l2d lo)))) (4620693217682128896 : UInt64)) (FP.l2d (((((8 : Int32) - kk).toInt64) * lo) + ((kk.toInt64) * hi)))) .l = (0 : Int32)) (hq8 : ¬ (q < (8 : Int32))) (hcA : ¬ own_cA (9 : Int32) q < (0 : Int32)) (hq8n : q < ((8 : Int32) * (9 : Int32))) (hcB : own_cB (9 : Int32) q < (0 : Int32)) (hd1 : (q / (8 : Int32)) = bb) (hd2 : (q % (8 : Int32)) = kk) (hbb : FP.d2i (own_pos (9 : Int32) q) = bb) (hn58 : Jvm.Free.Fl.NoNaN64 (FP.dsub (own_pos (9 : Int32) q) (FP.i2d bb))) (hfr : FP.dsub (own_pos (9 : Int32) q) (FP.i2d bb) = fr) (hb1 : (bb - (1 : Int32)) = b1) (hi1 : ¬ b1 < 0 ∧ b1 < (9 : Int32)) (hi2 : ¬ bb < 0 ∧ bb < (9 : Int32)) (ht1 : ([(.double (FP.l2d s0)), (.double (FP.l2d s1)), (.double (FP.l2d s2)), (.double (FP.l2d s3)), (.double (FP.l2d s4)), (.double (FP.l2d s5)), (.double (FP.l2d s6)), (.double (FP.l2d s7)), (.double (FP.l2d s8))] : List Value).getD b1.toNatClampNeg (.double (0 : UInt64)) = (.double (FP.l2d lo))) (ht2 : ([(.double (FP.l2d s0)), (.double (FP.l2d s1)), (.double (FP.l2d s2)), (.double (FP.l2d s3)), (.double (FP.l2d s4)), (.double (FP.l2d s5)), (.double (FP.l2d s6)), (.double (FP.l2d s7)), (.double (FP.l2d s8))] : List Value).getD bb.toNatClampNeg (.double (0 : UInt64)) = (.double (FP.l2d hi))) (hj1 : ¬ b1 < 0 ∧ b1 < (9 : Int32)) (hj2 : ¬ bb < 0 ∧ bb < (9 : Int32)) (hu1 : ([(.long s0), (.long s1), (.long s2), (.long s3), (.long s4), (.long s5), (.long s6), (.long s7), (.long s8)] : List Value).getD b1.toNatClampNeg (.long (0 : Int64)) = (.long lo)) (hu2 : ([(.long s0), (.long s1), (.long s2), (.long s3), (.long s4), (.long s5), (.long s6), (.long s7), (.long s8)] : List Value).getD bb.toNatClampNeg (.long (0 : Int64)) = (.long hi)) (hn79 : Jvm.Free.Fl.NoNaN64 (FP.dsub (FP.l2d hi) (FP.l2d lo))) (hn80 : Jvm.Free.Fl.NoNaN64 (FP.dmul fr (FP.dsub (FP.l2d hi) (FP.l2d lo)))) (hn81 : Jvm.Free.Fl.NoNaN64 (FP.dadd (FP.l2d lo) (FP.dmul fr (FP.dsub (FP.l2d hi) (FP.l2d lo)))))  :
    MetFree l x (head1 (Jvm.Cond.code x code maxLocals ret :: ws) room_1) (fun a U => a = #[(.int sel), (.int qr), (.int base), (.long gaps)] ∧ Z.Warmed39 U.vm ∧ U.heap = h0) (fun _ _ _ _ _ => True) (fun _ U o U' => ∃ v L, o = .returned v ∧ QL n0 v U'.heap L ∧ FrameEnd U o U' L 2 18) := by
  refine MetFree.of_bodySF (plainFor_of_name pn_com_example_bytegauge_bytegauge_stats_JsonTablePercentilePinLaw) hisR ?_
  intro p e s m args below meth c s₁ Bd hml0 hP hK
  obtain ⟨rfl, hZ, hh⟩ := hP
  have hx := Bd.exec
  have hby := Bd.bytes
  have hml : c.maxLocals = 18 := hml0
  have hown : s.vm.findClass "com/example/bytegauge/bytegauge/stats/JsonTablePercentilePinLaw" = some m.cls := findClass_of_methodNamed Bd.named
  have hnm := (name_of_methodNamed Bd.named Bd.method).1
  have X0 : Stand p l e room_1 s m #[(.int sel), (.int qr), (.int base), (.long gaps)] below meth c s₁ [] 0 0 := Stand.of_body Bd
  have e0 : s₁.heap = h0 := by rw [← hh, Bd.state]; rfl
  have N0 := Fr.nil n0
  have pre0 : ∀ t, Steps p.tables e below (s₁.setTop (mkF m 0 #[.val (.int sel), .val (.int qr), .val (.int base), .val (.long gaps), .second, .unset, .unset, .unset, .unset, .unset, .unset, .unset, .unset, .unset, .unset, .unset, .unset, .unset] [])) t → Steps p.tables e below (s₁.setTop (entryFrame m #[(.int sel), (.int qr), (.int base), (.long gaps)] maxLocals)) t := fun t k => castTop (ef_code m sel qr base gaps) k
  obtain ⟨TA, hA, LA, bA, kA, XA, eA, NA, SZA, g_bA, VA, stA⟩ := segA h0 n0 Z0 sel qr base gaps (4 : Int32) (9 : Int32) s0 s1 s2 s3 s4 s5 s6 s7 s8 X0 hx hZ hw hby hml hown e0 hs0 hs1 hs2 hs3 hs4 hs5 hs6 hs7 hs8
  obtain ⟨_, _, ⟨T1, L1, k1, n1⟩, -, X1, ⟨Lc1, hQ1, l1, y1, z1⟩, st1⟩ := Jvm.LawKit.callS XA hx (y := (⟨"com/example/bytegauge/bytegauge/stats/JsonTablePercentilePinLaw", "sortedOf", "(I[J)[D"⟩ : MethodName)) hown (mvT hZ (hw _ (List.mem_of_getElem? (i := 3) rfl))) (mvT hZ (hw _ (List.mem_of_getElem? (i := 4) rfl))) (mvT hZ (hw _ (List.mem_of_getElem? (i := 5) rfl))) (mvT hZ (hw _ (List.mem_of_getElem? (i := 6) rfl))) (by decide) (backOf (W := 0) (rmS9 l Z a0 hw [] bA kA s0 s1 s2 s3 s4 s5 s6 s7 s8 hA n0 SZA VA) hZ (hw _ (List.mem_of_getElem? (i := 6) rfl)) (hw _ (List.mem_of_getElem? (i := 5) rfl)) (by decide) (by decide)) (g := (mkF m 206 #[.val (.int sel), .val (.int qr), .val (.int base), .val (.long gaps), .second, .val (.int (4 : Int32)), .val (.int (9 : Int32)), .val (.ref bA), .unset, .unset, .unset, .unset, .unset, .unset, .unset, .unset, .unset, .unset] [(.ref bA), (.int (9 : Int32))])) rfl (by rw [hml]; rfl) (argsL := [(.int (9 : Int32)), (.ref bA)]) (rest := []) (lenOf pd__I_J__D rfl) rfl (by show 2 * 0 + _ ≤ _; exact Nat.le_of_eq rfl) (hb hby at_206) (fun _ _ => ⟨rfl, eA, (by decide : 1 + 1 ≤ _), (by decide : 9 + 9 ≤ _)⟩)
  dsimp only [Pt.U, Pt.locs, Pt.cells, Pt.slots] at X1 l1 y1 z1 st1 hQ1
  subst l1 y1 z1
  obtain ⟨d_1, kd1, rfl, N1q, g_d_1, sz_d_1, K1q, V1q⟩ := hQ1
  have c1_0 := VA.keep K1q List.not_mem_nil
  have SZ1 := Nat.le_trans SZA K1q.1
  have N1 := Fr.app NA N1q
  obtain ⟨_, _, ⟨T2, L2, k2, n2⟩, -, X2, ⟨Lc2, hQ2, l2, y2, z2⟩, st2⟩ := Jvm.LawKit.callS X1 hx (y := (⟨"com/example/bytegauge/bytegauge/stats/JsonTable", "percentile", "([DD)D"⟩ : MethodName)) hown (mvT hZ (hw _ (List.mem_of_getElem? (i := 9) rfl))) (mvT hZ (hw _ (List.mem_of_getElem? (i := 10) rfl))) (mvT hZ (hw _ (List.mem_of_getElem? (i := 11) rfl))) (mvT hZ (hw _ (List.mem_of_getElem? (i := 12) rfl))) (by decide) (backOf (W := 0) (rmPc9 l Z a0 hw [] d_1 kd1 s0 s1 s2 s3 s4 s5 s6 s7 s8 (own_pct (9 : Int32) q) (own_pos (9 : Int32) q) fr lo hi bb b1 T1.heap n0 SZ1 V1q hp1 hp2 rfl _ rfl _ rfl hcA hcB hbb hn58 hfr hb1 hi1 hi2 ht1 ht2 hn79 hn80 hn81) hZ (hw _ (List.mem_of_getElem? (i := 12) rfl)) (hw _ (List.mem_of_getElem? (i := 11) rfl)) (by decide) (by decide)) (g := (mkF m 248 #[.val (.int sel), .val (.int qr), .val (.int base), .val (.long gaps), .second, .val (.int (4 : Int32)), .val (.int (9 : Int32)), .val (.ref bA), .val (.ref d_1), .val (.int q), .val (.double (own_pct (9 : Int32) q)), .second, .unset, .unset, .unset, .unset, .unset, .unset] [(.double (own_pct (9 : Int32) q)), (.ref d_1)])) rfl (by rw [hml]; rfl) (argsL := [(.ref d_1), (.double (own_pct (9 : Int32) q))]) (rest := []) (lenOf pd___DD_D rfl) rfl (by show 2 * 0 + _ ≤ _; exact Nat.le_of_eq rfl) (hb hby at_248) (fun _ _ => ⟨rfl, rfl, (by decide : 2 + 0 ≤ _), (by decide : 18 + 0 ≤ _)⟩)
  dsimp only [Pt.U, Pt.locs, Pt.cells, Pt.slots] at X2 l2 y2 z2 st2 hQ2
  subst l2 y2 z2
  obtain ⟨rfl, N2q, eq2⟩ := hQ2
  have N2 := Fr.app N1 N2q
  obtain ⟨cl3, Ar3, -, S3, Nn3, H3, -⟩ := id c1_0
  have hin3 : ¬ (b1 < 0 ∨ cl3.slots.size ≤ (b1).toNatClampNeg) := inb_of S3 hj1
  have hat3 : cl3.slots[(b1).toNatClampNeg]? = some (.long lo) := H3.at hin3 hu1
  obtain ⟨cl4, Ar4, -, S4, Nn4, H4, -⟩ := id c1_0
  have hin4 : ¬ (bb < 0 ∨ cl4.slots.size ≤ (bb).toNatClampNeg) := inb_of S4 hj2
  have hat4 : cl4.slots[(bb).toNatClampNeg]? = some (.long hi) := H4.at hin4 hu2
  obtain ⟨fs, hr, hrun, hended, hW, hsame⟩ := X2.leave (v := some (.int (1 : Int32))) (fun h => by rw [Bd.returns] at h; cases h)
  refine ⟨_, _, pre0 _ ?_, hrun, hended, _, _, rfl, ?_, ⟨_, rfl⟩, hW, hsame.mono (by decide) (by decide)⟩
  · show Steps p.tables e below (s₁.setTop (mkF m 0 #[.val (.int sel), .val (.int qr), .val (.int base), .val (.long gaps), .second, .unset, .unset, .unset, .unset, .unset, .unset, .unset, .unset, .unset, .unset, .unset, .unset, .unset] [])) _
    refine XS.iloadN X0.here hx rfl (hb hby at_0) rfl ?_
    show Steps p.tables e below (s₁.setTop (mkF m 1 #[.val (.int sel), .val (.int qr), .val (.int base), .val (.long gaps), .second, .unset, .unset, .unset, .unset, .unset, .unset, .unset, .unset, .unset, .unset, .unset, .unset, .unset] [(.int sel)])) _
    refine X0.ldcInt hx hown (mvT hZ (hw _ (List.mem_of_getElem? (i := 0) rfl))) (g := (mkF m 1 #[.val (.int sel), .val (.int qr), .val (.int base), .val (.long gaps), .second, .unset, .unset, .unset, .unset, .unset, .unset, .unset, .unset, .unset, .unset, .unset, .unset, .unset] [(.int sel)])) rfl (hb hby at_1) _ ?_
    refine XS.iand X0.here hx rfl (hb hby at_3) rfl ?_
    refine XS.iconst X0.here hx rfl (hb hby at_4) ?_
    show Steps p.tables e below (s₁.setTop (mkF m 5 #[.val (.int sel), .val (.int qr), .val (.int base), .val (.long gaps), .second, .unset, .unset, .unset, .unset, .unset, .unset, .unset, .unset, .unset, .unset, .unset, .unset, .unset] [(.int (5 : Int32)), (.int (sel &&& (2147483647 : Int32)))])) _
    refine iremM X0 hx rfl (hb hby at_5) rfl (by decide) ?_
    show Steps p.tables e below (s₁.setTop (mkF m 6 #[.val (.int sel), .val (.int qr), .val (.int base), .val (.long gaps), .second, .unset, .unset, .unset, .unset, .unset, .unset, .unset, .unset, .unset, .unset, .unset, .unset, .unset] [(.int ((sel &&& (2147483647 : Int32)) % (5 : Int32)))])) _
    rw [show ((sel &&& (2147483647 : Int32)) % (5 : Int32)) = (4 : Int32) from hch]
    refine XS.istore X0.here hx rfl (hb hby at_6) rfl (l' := #[.val (.int sel), .val (.int qr), .val (.int base), .val (.long gaps), .second, .val (.int (4 : Int32)), .unset, .unset, .unset, .unset, .unset, .unset, .unset, .unset, .unset, .unset, .unset, .unset]) rfl ?_
    refine XS.iload X0.here hx rfl (hb hby at_8) rfl ?_
    show Steps p.tables e below (s₁.setTop (mkF m 10 #[.val (.int sel), .val (.int qr), .val (.int base), .val (.long gaps), .second, .val (.int (4 : Int32)), .unset, .unset, .unset, .unset, .unset, .unset, .unset, .unset, .unset, .unset, .unset, .unset] [(.int (4 : Int32))])) _
    refine XS.ifYes X0.here hx rfl (pc0 := 10) (pc' := 17) rfl (hb hby at_10) rfl ((if0 _ _).trans (feq (by decide : ¬ ((4 : Int32) = (0 : Int32)))).2) (by decide) (by decide) ?_
    refine XS.iload X0.here hx rfl (hb hby at_17) rfl ?_
    refine XS.iconst X0.here hx rfl (hb hby at_19) ?_
    show Steps p.tables e below (s₁.setTop (mkF m 20 #[.val (.int sel), .val (.int qr), .val (.int base), .val (.long gaps), .second, .val (.int (4 : Int32)), .unset, .unset, .unset, .unset, .unset, .unset, .unset, .unset, .unset, .unset, .unset, .unset] [(.int (1 : Int32)), (.int (4 : Int32))])) _
    refine XS.icmpYes X0.here hx rfl (pc0 := 20) (pc' := 27) rfl (hb hby at_20) rfl (feq (by decide : ¬ ((4 : Int32) = (1 : Int32)))).2 (by decide) (by decide) ?_
    refine XS.iload X0.here hx rfl (hb hby at_27) rfl ?_
    refine XS.iconst X0.here hx rfl (hb hby at_29) ?_
    show Steps p.tables e below (s₁.setTop (mkF m 30 #[.val (.int sel), .val (.int qr), .val (.int base), .val (.long gaps), .second, .val (.int (4 : Int32)), .unset, .unset, .unset, .unset, .unset, .unset, .unset, .unset, .unset, .unset, .unset, .unset] [(.int (2 : Int32)), (.int (4 : Int32))])) _
    refine XS.icmpYes X0.here hx rfl (pc0 := 30) (pc' := 37) rfl (hb hby at_30) rfl (feq (by decide : ¬ ((4 : Int32) = (2 : Int32)))).2 (by decide) (by decide) ?_
    refine XS.iload X0.here hx rfl (hb hby at_37) rfl ?_
    refine XS.iconst X0.here hx rfl (hb hby at_39) ?_
    show Steps p.tables e below (s₁.setTop (mkF m 40 #[.val (.int sel), .val (.int qr), .val (.int base), .val (.long gaps), .second, .val (.int (4 : Int32)), .unset, .unset, .unset, .unset, .unset, .unset, .unset, .unset, .unset, .unset, .unset, .unset] [(.int (3 : Int32)), (.int (4 : Int32))])) _
    refine XS.icmpYes X0.here hx rfl (pc0 := 40) (pc' := 48) rfl (hb hby at_40) rfl (feq (by decide : ¬ ((4 : Int32) = (3 : Int32)))).2 (by decide) (by decide) ?_
    refine XS.bipush X0.here hx rfl (hb hby at_48) ?_
    refine XS.istore X0.here hx rfl (hb hby at_50) rfl (l' := #[.val (.int sel), .val (.int qr), .val (.int base), .val (.long gaps), .second, .val (.int (4 : Int32)), .val (.int (9 : Int32)), .unset, .unset, .unset, .unset, .unset, .unset, .unset, .unset, .unset, .unset, .unset]) rfl ?_
    show Steps p.tables e below (s₁.setTop (mkF m 52 #[.val (.int sel), .val (.int qr), .val (.int base), .val (.long gaps), .second, .val (.int (4 : Int32)), .val (.int (9 : Int32)), .unset, .unset, .unset, .unset, .unset, .unset, .unset, .unset, .unset, .unset, .unset] [])) _
    refine stA _ ?_
    show Steps p.tables e below (TA.setTop (mkF m 202 #[.val (.int sel), .val (.int qr), .val (.int base), .val (.long gaps), .second, .val (.int (4 : Int32)), .val (.int (9 : Int32)), .val (.ref bA), .unset, .unset, .unset, .unset, .unset, .unset, .unset, .unset, .unset, .unset] [])) _
    refine XS.iload XA.here hx rfl (hb hby at_202) rfl ?_
    refine XS.aload XA.here hx rfl (hb hby at_204) rfl rfl ?_
    show Steps p.tables e below (TA.setTop (mkF m 206 #[.val (.int sel), .val (.int qr), .val (.int base), .val (.long gaps), .second, .val (.int (4 : Int32)), .val (.int (9 : Int32)), .val (.ref bA), .unset, .unset, .unset, .unset, .unset, .unset, .unset, .unset, .unset, .unset] [(.ref bA), (.int (9 : Int32))])) _
    refine st1 _ ?_
    refine XS.astore X1.here hx rfl (hb hby at_209) rfl rfl (l' := #[.val (.int sel), .val (.int qr), .val (.int base), .val (.long gaps), .second, .val (.int (4 : Int32)), .val (.int (9 : Int32)), .val (.ref bA), .val (.ref d_1), .unset, .unset, .unset, .unset, .unset, .unset, .unset, .unset, .unset]) rfl ?_
    refine XS.iloadN X1.here hx rfl (hb hby at_211) rfl ?_
    show Steps p.tables e below (T1.setTop (mkF m 212 #[.val (.int sel), .val (.int qr), .val (.int base), .val (.long gaps), .second, .val (.int (4 : Int32)), .val (.int (9 : Int32)), .val (.ref bA), .val (.ref d_1), .unset, .unset, .unset, .unset, .unset, .unset, .unset, .unset, .unset] [(.int qr)])) _
    refine X1.ldcInt hx hown (mvT hZ (hw _ (List.mem_of_getElem? (i := 0) rfl))) (g := (mkF m 212 #[.val (.int sel), .val (.int qr), .val (.int base), .val (.long gaps), .second, .val (.int (4 : Int32)), .val (.int (9 : Int32)), .val (.ref bA), .val (.ref d_1), .unset, .unset, .unset, .unset, .unset, .unset, .unset, .unset, .unset] [(.int qr)])) rfl (hb hby at_212) _ ?_
    refine XS.iand X1.here hx rfl (hb hby at_214) rfl ?_
    refine XS.bipush X1.here hx rfl (hb hby at_215) ?_
    show Steps p.tables e below (T1.setTop (mkF m 217 #[.val (.int sel), .val (.int qr), .val (.int base), .val (.long gaps), .second, .val (.int (4 : Int32)), .val (.int (9 : Int32)), .val (.ref bA), .val (.ref d_1), .unset, .unset, .unset, .unset, .unset, .unset, .unset, .unset, .unset] [(.int (8 : Int32)), (.int (qr &&& (2147483647 : Int32)))])) _
    refine XS.iload X1.here hx rfl (hb hby at_217) rfl ?_
    refine XS.imul X1.here hx rfl (hb hby at_219) rfl ?_
    refine XS.bipush X1.here hx rfl (hb hby at_220) ?_
    show Steps p.tables e below (T1.setTop (mkF m 222 #[.val (.int sel), .val (.int qr), .val (.int base), .val (.long gaps), .second, .val (.int (4 : Int32)), .val (.int (9 : Int32)), .val (.ref bA), .val (.ref d_1), .unset, .unset, .unset, .unset, .unset, .unset, .unset, .unset, .unset] [(.int (33 : Int32)), (.int ((8 : Int32) * (9 : Int32))), (.int (qr &&& (2147483647 : Int32)))])) _
    refine XS.iadd X1.here hx rfl (hb hby at_222) rfl ?_
    refine iremM X1 hx rfl (hb hby at_223) rfl (by decide) ?_
    refine XS.bipush X1.here hx rfl (hb hby at_224) ?_
    show Steps p.tables e below (T1.setTop (mkF m 226 #[.val (.int sel), .val (.int qr), .val (.int base), .val (.long gaps), .second, .val (.int (4 : Int32)), .val (.int (9 : Int32)), .val (.ref bA), .val (.ref d_1), .unset, .unset, .unset, .unset, .unset, .unset, .unset, .unset, .unset] [(.int (16 : Int32)), (.int ((qr &&& (2147483647 : Int32)) % (((8 : Int32) * (9 : Int32)) + (33 : Int32))))])) _
    refine XS.isub X1.here hx rfl (hb hby at_226) rfl ?_
    show Steps p.tables e below (T1.setTop (mkF m 227 #[.val (.int sel), .val (.int qr), .val (.int base), .val (.long gaps), .second, .val (.int (4 : Int32)), .val (.int (9 : Int32)), .val (.ref bA), .val (.ref d_1), .unset, .unset, .unset, .unset, .unset, .unset, .unset, .unset, .unset] [(.int (((qr &&& (2147483647 : Int32)) % (((8 : Int32) * (9 : Int32)) + (33 : Int32))) - (16 : Int32)))])) _
    rw [show (((qr &&& (2147483647 : Int32)) % (((8 : Int32) * (9 : Int32)) + (33 : Int32))) - (16 : Int32)) = q from hqq]
    refine XS.istore X1.here hx rfl (hb hby at_227) rfl (l' := #[.val (.int sel), .val (.int qr), .val (.int base), .val (.long gaps), .second, .val (.int (4 : Int32)), .val (.int (9 : Int32)), .val (.ref bA), .val (.ref d_1), .val (.int q), .unset, .unset, .unset, .unset, .unset, .unset, .unset, .unset]) rfl ?_
    show Steps p.tables e below (T1.setTop (mkF m 229 #[.val (.int sel), .val (.int qr), .val (.int base), .val (.long gaps), .second, .val (.int (4 : Int32)), .val (.int (9 : Int32)), .val (.ref bA), .val (.ref d_1), .val (.int q), .unset, .unset, .unset, .unset, .unset, .unset, .unset, .unset] [])) _
    refine X1.ldc2DoubleC hx hown (mvT hZ (hw _ (List.mem_of_getElem? (i := 8) rfl))) (g := (mkF m 229 #[.val (.int sel), .val (.int qr), .val (.int base), .val (.long gaps), .second, .val (.int (4 : Int32)), .val (.int (9 : Int32)), .val (.ref bA), .val (.ref d_1), .val (.int q), .unset, .unset, .unset, .unset, .unset, .unset, .unset, .unset] [])) rfl (hb hby at_229) _ ?_
    refine XS.iload X1.here hx rfl (hb hby at_232) rfl ?_
    refine XS.i2dS X1.here hx rfl (hb hby at_234) rfl (v := (FP.i2d q)) (rfl) ?_
    show Steps p.tables e below (T1.setTop (mkF m 235 #[.val (.int sel), .val (.int qr), .val (.int base), .val (.long gaps), .second, .val (.int (4 : Int32)), .val (.int (9 : Int32)), .val (.ref bA), .val (.ref d_1), .val (.int q), .unset, .unset, .unset, .unset, .unset, .unset, .unset, .unset] [(.double (FP.i2d q)), (.double (4623226492472524800 : UInt64))])) _
    refine XS.dmulS X1.here hx rfl (hb hby at_235) rfl hm1 (v := (own_m q)) (rfl) ?_
    refine XS.iload X1.here hx rfl (hb hby at_236) rfl ?_
    refine XS.iconst X1.here hx rfl (hb hby at_238) ?_
    show Steps p.tables e below (T1.setTop (mkF m 239 #[.val (.int sel), .val (.int qr), .val (.int base), .val (.long gaps), .second, .val (.int (4 : Int32)), .val (.int (9 : Int32)), .val (.ref bA), .val (.ref d_1), .val (.int q), .unset, .unset, .unset, .unset, .unset, .unset, .unset, .unset] [(.int (1 : Int32)), (.int (9 : Int32)), (.double (own_m q))])) _
    refine XS.iadd X1.here hx rfl (hb hby at_239) rfl ?_
    refine XS.i2dS X1.here hx rfl (hb hby at_240) rfl (v := (FP.i2d ((9 : Int32) + (1 : Int32)))) (rfl) ?_
    refine XS.ddivS X1.here hx rfl (hb hby at_241) rfl hm2 (v := (own_pct (9 : Int32) q)) (rfl) ?_
    show Steps p.tables e below (T1.setTop (mkF m 242 #[.val (.int sel), .val (.int qr), .val (.int base), .val (.long gaps), .second, .val (.int (4 : Int32)), .val (.int (9 : Int32)), .val (.ref bA), .val (.ref d_1), .val (.int q), .unset, .unset, .unset, .unset, .unset, .unset, .unset, .unset] [(.double (own_pct (9 : Int32) q))])) _
    refine XS.dstore X1.here hx rfl (hb hby at_242) rfl (l' := #[.val (.int sel), .val (.int qr), .val (.int base), .val (.long gaps), .second, .val (.int (4 : Int32)), .val (.int (9 : Int32)), .val (.ref bA), .val (.ref d_1), .val (.int q), .val (.double (own_pct (9 : Int32) q)), .second, .unset, .unset, .unset, .unset, .unset, .unset]) rfl ?_
    refine XS.aload X1.here hx rfl (hb hby at_244) rfl rfl ?_
    refine XS.dload X1.here hx rfl (hb hby at_246) rfl ?_
    show Steps p.tables e below (T1.setTop (mkF m 248 #[.val (.int sel), .val (.int qr), .val (.int base), .val (.long gaps), .second, .val (.int (4 : Int32)), .val (.int (9 : Int32)), .val (.ref bA), .val (.ref d_1), .val (.int q), .val (.double (own_pct (9 : Int32) q)), .second, .unset, .unset, .unset, .unset, .unset, .unset] [(.double (own_pct (9 : Int32) q)), (.ref d_1)])) _
    refine st2 _ ?_
    refine XS.dstore X2.here hx rfl (hb hby at_251) rfl (l' := #[.val (.int sel), .val (.int qr), .val (.int base), .val (.long gaps), .second, .val (.int (4 : Int32)), .val (.int (9 : Int32)), .val (.ref bA), .val (.ref d_1), .val (.int q), .val (.double (own_pct (9 : Int32) q)), .second, .val (.double (FP.dadd (FP.l2d lo) (FP.dmul fr (FP.dsub (FP.l2d hi) (FP.l2d lo))))), .second, .unset, .unset, .unset, .unset]) rfl ?_
    refine XS.iload X2.here hx rfl (hb hby at_253) rfl ?_
    show Steps p.tables e below (T2.setTop (mkF m 255 #[.val (.int sel), .val (.int qr), .val (.int base), .val (.long gaps), .second, .val (.int (4 : Int32)), .val (.int (9 : Int32)), .val (.ref bA), .val (.ref d_1), .val (.int q), .val (.double (own_pct (9 : Int32) q)), .second, .val (.double (FP.dadd (FP.l2d lo) (FP.dmul fr (FP.dsub (FP.l2d hi) (FP.l2d lo))))), .second, .unset, .unset, .unset, .unset] [(.int q)])) _
    refine XS.bipush X2.here hx rfl (hb hby at_255) ?_
    refine XS.icmpYes X2.here hx rfl (pc0 := 257) (pc' := 273) rfl (hb hby at_257) rfl (flt (hq8 : ¬ (q < (8 : Int32)))).2.1 (by decide) (by decide) ?_
    refine XS.iload X2.here hx rfl (hb hby at_273) rfl ?_
    show Steps p.tables e below (T2.setTop (mkF m 275 #[.val (.int sel), .val (.int qr), .val (.int base), .val (.long gaps), .second, .val (.int (4 : Int32)), .val (.int (9 : Int32)), .val (.ref bA), .val (.ref d_1), .val (.int q), .val (.double (own_pct (9 : Int32) q)), .second, .val (.double (FP.dadd (FP.l2d lo) (FP.dmul fr (FP.dsub (FP.l2d hi) (FP.l2d lo))))), .second, .unset, .unset, .unset, .unset] [(.int q)])) _
    refine XS.bipush X2.here hx rfl (hb hby at_275) ?_
    refine XS.iload X2.here hx rfl (hb hby at_277) rfl ?_
    refine XS.imul X2.here hx rfl (hb hby at_279) rfl ?_
    show Steps p.tables e below (T2.setTop (mkF m 280 #[.val (.int sel), .val (.int qr), .val (.int base), .val (.long gaps), .second, .val (.int (4 : Int32)), .val (.int (9 : Int32)), .val (.ref bA), .val (.ref d_1), .val (.int q), .val (.double (own_pct (9 : Int32) q)), .second, .val (.double (FP.dadd (FP.l2d lo) (FP.dmul fr (FP.dsub (FP.l2d hi) (FP.l2d lo))))), .second, .unset, .unset, .unset, .unset] [(.int ((8 : Int32) * (9 : Int32))), (.int q)])) _
    refine XS.icmpYes X2.here hx rfl (pc0 := 280) (pc' := 299) rfl (hb hby at_280) rfl (tlt (hq8n : q < ((8 : Int32) * (9 : Int32)))).1 (by decide) (by decide) ?_
    refine XS.iload X2.here hx rfl (hb hby at_299) rfl ?_
    refine XS.bipush X2.here hx rfl (hb hby at_301) ?_
    show Steps p.tables e below (T2.setTop (mkF m 303 #[.val (.int sel), .val (.int qr), .val (.int base), .val (.long gaps), .second, .val (.int (4 : Int32)), .val (.int (9 : Int32)), .val (.ref bA), .val (.ref d_1), .val (.int q), .val (.double (own_pct (9 : Int32) q)), .second, .val (.double (FP.dadd (FP.l2d lo) (FP.dmul fr (FP.dsub (FP.l2d hi) (FP.l2d lo))))), .second, .unset, .unset, .unset, .unset] [(.int (8 : Int32)), (.int q)])) _
    refine XS.idiv X2.here hx rfl (hb hby at_303) rfl (by decide) ?_
    show Steps p.tables e below (T2.setTop (mkF m 304 #[.val (.int sel), .val (.int qr), .val (.int base), .val (.long gaps), .second, .val (.int (4 : Int32)), .val (.int (9 : Int32)), .val (.ref bA), .val (.ref d_1), .val (.int q), .val (.double (own_pct (9 : Int32) q)), .second, .val (.double (FP.dadd (FP.l2d lo) (FP.dmul fr (FP.dsub (FP.l2d hi) (FP.l2d lo))))), .second, .unset, .unset, .unset, .unset] [(.int (q / (8 : Int32)))])) _
    rw [show (q / (8 : Int32)) = bb from hd1]
    refine XS.istore X2.here hx rfl (hb hby at_304) rfl (l' := #[.val (.int sel), .val (.int qr), .val (.int base), .val (.long gaps), .second, .val (.int (4 : Int32)), .val (.int (9 : Int32)), .val (.ref bA), .val (.ref d_1), .val (.int q), .val (.double (own_pct (9 : Int32) q)), .second, .val (.double (FP.dadd (FP.l2d lo) (FP.dmul fr (FP.dsub (FP.l2d hi) (FP.l2d lo))))), .second, .unset, .unset, .val (.int bb), .unset]) rfl ?_
    refine XS.iload X2.here hx rfl (hb hby at_306) rfl ?_
    show Steps p.tables e below (T2.setTop (mkF m 308 #[.val (.int sel), .val (.int qr), .val (.int base), .val (.long gaps), .second, .val (.int (4 : Int32)), .val (.int (9 : Int32)), .val (.ref bA), .val (.ref d_1), .val (.int q), .val (.double (own_pct (9 : Int32) q)), .second, .val (.double (FP.dadd (FP.l2d lo) (FP.dmul fr (FP.dsub (FP.l2d hi) (FP.l2d lo))))), .second, .unset, .unset, .val (.int bb), .unset] [(.int q)])) _
    refine XS.bipush X2.here hx rfl (hb hby at_308) ?_
    refine iremM X2 hx rfl (hb hby at_310) rfl (by decide) ?_
    show Steps p.tables e below (T2.setTop (mkF m 311 #[.val (.int sel), .val (.int qr), .val (.int base), .val (.long gaps), .second, .val (.int (4 : Int32)), .val (.int (9 : Int32)), .val (.ref bA), .val (.ref d_1), .val (.int q), .val (.double (own_pct (9 : Int32) q)), .second, .val (.double (FP.dadd (FP.l2d lo) (FP.dmul fr (FP.dsub (FP.l2d hi) (FP.l2d lo))))), .second, .unset, .unset, .val (.int bb), .unset] [(.int (q % (8 : Int32)))])) _
    rw [show (q % (8 : Int32)) = kk from hd2]
    refine XS.istore X2.here hx rfl (hb hby at_311) rfl (l' := #[.val (.int sel), .val (.int qr), .val (.int base), .val (.long gaps), .second, .val (.int (4 : Int32)), .val (.int (9 : Int32)), .val (.ref bA), .val (.ref d_1), .val (.int q), .val (.double (own_pct (9 : Int32) q)), .second, .val (.double (FP.dadd (FP.l2d lo) (FP.dmul fr (FP.dsub (FP.l2d hi) (FP.l2d lo))))), .second, .unset, .unset, .val (.int bb), .val (.int kk)]) rfl ?_
    show Steps p.tables e below (T2.setTop (mkF m 313 #[.val (.int sel), .val (.int qr), .val (.int base), .val (.long gaps), .second, .val (.int (4 : Int32)), .val (.int (9 : Int32)), .val (.ref bA), .val (.ref d_1), .val (.int q), .val (.double (own_pct (9 : Int32) q)), .second, .val (.double (FP.dadd (FP.l2d lo) (FP.dmul fr (FP.dsub (FP.l2d hi) (FP.l2d lo))))), .second, .unset, .unset, .val (.int bb), .val (.int kk)] [])) _
    refine XS.bipush X2.here hx rfl (hb hby at_313) ?_
    refine XS.iload X2.here hx rfl (hb hby at_315) rfl ?_
    refine XS.isub X2.here hx rfl (hb hby at_317) rfl ?_
    show Steps p.tables e below (T2.setTop (mkF m 318 #[.val (.int sel), .val (.int qr), .val (.int base), .val (.long gaps), .second, .val (.int (4 : Int32)), .val (.int (9 : Int32)), .val (.ref bA), .val (.ref d_1), .val (.int q), .val (.double (own_pct (9 : Int32) q)), .second, .val (.double (FP.dadd (FP.l2d lo) (FP.dmul fr (FP.dsub (FP.l2d hi) (FP.l2d lo))))), .second, .unset, .unset, .val (.int bb), .val (.int kk)] [(.int ((8 : Int32) - kk))])) _
    refine XS.i2l X2.here hx rfl (hb hby at_318) rfl ?_
    refine XS.aload X2.here hx rfl (hb hby at_319) rfl rfl ?_
    refine XS.iload X2.here hx rfl (hb hby at_321) rfl ?_
    show Steps p.tables e below (T2.setTop (mkF m 323 #[.val (.int sel), .val (.int qr), .val (.int base), .val (.long gaps), .second, .val (.int (4 : Int32)), .val (.int (9 : Int32)), .val (.ref bA), .val (.ref d_1), .val (.int q), .val (.double (own_pct (9 : Int32) q)), .second, .val (.double (FP.dadd (FP.l2d lo) (FP.dmul fr (FP.dsub (FP.l2d hi) (FP.l2d lo))))), .second, .unset, .unset, .val (.int bb), .val (.int kk)] [(.int bb), (.ref bA), (.long (((8 : Int32) - kk).toInt64))])) _
    refine XS.iconst X2.here hx rfl (hb hby at_323) ?_
    refine XS.isub X2.here hx rfl (hb hby at_324) rfl ?_
    show Steps p.tables e below (T2.setTop (mkF m 325 #[.val (.int sel), .val (.int qr), .val (.int base), .val (.long gaps), .second, .val (.int (4 : Int32)), .val (.int (9 : Int32)), .val (.ref bA), .val (.ref d_1), .val (.int q), .val (.double (own_pct (9 : Int32) q)), .second, .val (.double (FP.dadd (FP.l2d lo) (FP.dmul fr (FP.dsub (FP.l2d hi) (FP.l2d lo))))), .second, .unset, .unset, .val (.int bb), .val (.int kk)] [(.int (bb - (1 : Int32))), (.ref bA), (.long (((8 : Int32) - kk).toInt64))])) _
    rw [show (bb - (1 : Int32)) = b1 from hb1]
    show Steps p.tables e below (T2.setTop (mkF m 325 #[.val (.int sel), .val (.int qr), .val (.int base), .val (.long gaps), .second, .val (.int (4 : Int32)), .val (.int (9 : Int32)), .val (.ref bA), .val (.ref d_1), .val (.int q), .val (.double (own_pct (9 : Int32) q)), .second, .val (.double (FP.dadd (FP.l2d lo) (FP.dmul fr (FP.dsub (FP.l2d hi) (FP.l2d lo))))), .second, .unset, .unset, .val (.int bb), .val (.int kk)] [(.int b1), (.ref bA), (.long (((8 : Int32) - kk).toInt64))])) _
    refine X2.laload hx (j := b1) (v := (.long lo)) (by rw [eq2]; exact Ar3.1) (State.isArrayOf_alike hZ.alike Ar3.2.1) Ar3.2.2 hin3 hat3 (g := (mkF m 325 #[.val (.int sel), .val (.int qr), .val (.int base), .val (.long gaps), .second, .val (.int (4 : Int32)), .val (.int (9 : Int32)), .val (.ref bA), .val (.ref d_1), .val (.int q), .val (.double (own_pct (9 : Int32) q)), .second, .val (.double (FP.dadd (FP.l2d lo) (FP.dmul fr (FP.dsub (FP.l2d hi) (FP.l2d lo))))), .second, .unset, .unset, .val (.int bb), .val (.int kk)] [(.int b1), (.ref bA), (.long (((8 : Int32) - kk).toInt64))])) rfl rfl (hb hby at_325) _ ?_
    refine XS.lmul X2.here hx rfl (hb hby at_326) rfl ?_
    refine XS.iload X2.here hx rfl (hb hby at_327) rfl ?_
    show Steps p.tables e below (T2.setTop (mkF m 329 #[.val (.int sel), .val (.int qr), .val (.int base), .val (.long gaps), .second, .val (.int (4 : Int32)), .val (.int (9 : Int32)), .val (.ref bA), .val (.ref d_1), .val (.int q), .val (.double (own_pct (9 : Int32) q)), .second, .val (.double (FP.dadd (FP.l2d lo) (FP.dmul fr (FP.dsub (FP.l2d hi) (FP.l2d lo))))), .second, .unset, .unset, .val (.int bb), .val (.int kk)] [(.int kk), (.long ((((8 : Int32) - kk).toInt64) * lo))])) _
    refine XS.i2l X2.here hx rfl (hb hby at_329) rfl ?_
    refine XS.aload X2.here hx rfl (hb hby at_330) rfl rfl ?_
    refine XS.iload X2.here hx rfl (hb hby at_332) rfl ?_
    show Steps p.tables e below (T2.setTop (mkF m 334 #[.val (.int sel), .val (.int qr), .val (.int base), .val (.long gaps), .second, .val (.int (4 : Int32)), .val (.int (9 : Int32)), .val (.ref bA), .val (.ref d_1), .val (.int q), .val (.double (own_pct (9 : Int32) q)), .second, .val (.double (FP.dadd (FP.l2d lo) (FP.dmul fr (FP.dsub (FP.l2d hi) (FP.l2d lo))))), .second, .unset, .unset, .val (.int bb), .val (.int kk)] [(.int bb), (.ref bA), (.long (kk.toInt64)), (.long ((((8 : Int32) - kk).toInt64) * lo))])) _
    refine X2.laload hx (j := bb) (v := (.long hi)) (by rw [eq2]; exact Ar4.1) (State.isArrayOf_alike hZ.alike Ar4.2.1) Ar4.2.2 hin4 hat4 (g := (mkF m 334 #[.val (.int sel), .val (.int qr), .val (.int base), .val (.long gaps), .second, .val (.int (4 : Int32)), .val (.int (9 : Int32)), .val (.ref bA), .val (.ref d_1), .val (.int q), .val (.double (own_pct (9 : Int32) q)), .second, .val (.double (FP.dadd (FP.l2d lo) (FP.dmul fr (FP.dsub (FP.l2d hi) (FP.l2d lo))))), .second, .unset, .unset, .val (.int bb), .val (.int kk)] [(.int bb), (.ref bA), (.long (kk.toInt64)), (.long ((((8 : Int32) - kk).toInt64) * lo))])) rfl rfl (hb hby at_334) _ ?_
    refine XS.lmul X2.here hx rfl (hb hby at_335) rfl ?_
    refine XS.ladd X2.here hx rfl (hb hby at_336) rfl ?_
    show Steps p.tables e below (T2.setTop (mkF m 337 #[.val (.int sel), .val (.int qr), .val (.int base), .val (.long gaps), .second, .val (.int (4 : Int32)), .val (.int (9 : Int32)), .val (.ref bA), .val (.ref d_1), .val (.int q), .val (.double (own_pct (9 : Int32) q)), .second, .val (.double (FP.dadd (FP.l2d lo) (FP.dmul fr (FP.dsub (FP.l2d hi) (FP.l2d lo))))), .second, .unset, .unset, .val (.int bb), .val (.int kk)] [(.long (((((8 : Int32) - kk).toInt64) * lo) + ((kk.toInt64) * hi)))])) _
    refine XS.lstore X2.here hx rfl (hb hby at_337) rfl (l' := #[.val (.int sel), .val (.int qr), .val (.int base), .val (.long gaps), .second, .val (.int (4 : Int32)), .val (.int (9 : Int32)), .val (.ref bA), .val (.ref d_1), .val (.int q), .val (.double (own_pct (9 : Int32) q)), .second, .val (.double (FP.dadd (FP.l2d lo) (FP.dmul fr (FP.dsub (FP.l2d hi) (FP.l2d lo))))), .second, .val (.long (((((8 : Int32) - kk).toInt64) * lo) + ((kk.toInt64) * hi))), .second, .val (.int bb), .val (.int kk)]) rfl ?_
    refine XS.dload X2.here hx rfl (hb hby at_339) rfl ?_
    show Steps p.tables e below (T2.setTop (mkF m 341 #[.val (.int sel), .val (.int qr), .val (.int base), .val (.long gaps), .second, .val (.int (4 : Int32)), .val (.int (9 : Int32)), .val (.ref bA), .val (.ref d_1), .val (.int q), .val (.double (own_pct (9 : Int32) q)), .second, .val (.double (FP.dadd (FP.l2d lo) (FP.dmul fr (FP.dsub (FP.l2d hi) (FP.l2d lo))))), .second, .val (.long (((((8 : Int32) - kk).toInt64) * lo) + ((kk.toInt64) * hi))), .second, .val (.int bb), .val (.int kk)] [(.double (FP.dadd (FP.l2d lo) (FP.dmul fr (FP.dsub (FP.l2d hi) (FP.l2d lo)))))])) _
    refine X2.ldc2DoubleC hx hown (mvT hZ (hw _ (List.mem_of_getElem? (i := 15) rfl))) (g := (mkF m 341 #[.val (.int sel), .val (.int qr), .val (.int base), .val (.long gaps), .second, .val (.int (4 : Int32)), .val (.int (9 : Int32)), .val (.ref bA), .val (.ref d_1), .val (.int q), .val (.double (own_pct (9 : Int32) q)), .second, .val (.double (FP.dadd (FP.l2d lo) (FP.dmul fr (FP.dsub (FP.l2d hi) (FP.l2d lo))))), .second, .val (.long (((((8 : Int32) - kk).toInt64) * lo) + ((kk.toInt64) * hi))), .second, .val (.int bb), .val (.int kk)] [(.double (FP.dadd (FP.l2d lo) (FP.dmul fr (FP.dsub (FP.l2d hi) (FP.l2d lo)))))])) rfl (hb hby at_341) _ ?_
    refine XS.dmulS X2.here hx rfl (hb hby at_344) rfl hn344 (v := (FP.dmul (FP.dadd (FP.l2d lo) (FP.dmul fr (FP.dsub (FP.l2d hi) (FP.l2d lo)))) (4620693217682128896 : UInt64))) (rfl) ?_
    refine XS.lload X2.here hx rfl (hb hby at_345) rfl ?_
    show Steps p.tables e below (T2.setTop (mkF m 347 #[.val (.int sel), .val (.int qr), .val (.int base), .val (.long gaps), .second, .val (.int (4 : Int32)), .val (.int (9 : Int32)), .val (.ref bA), .val (.ref d_1), .val (.int q), .val (.double (own_pct (9 : Int32) q)), .second, .val (.double (FP.dadd (FP.l2d lo) (FP.dmul fr (FP.dsub (FP.l2d hi) (FP.l2d lo))))), .second, .val (.long (((((8 : Int32) - kk).toInt64) * lo) + ((kk.toInt64) * hi))), .second, .val (.int bb), .val (.int kk)] [(.long (((((8 : Int32) - kk).toInt64) * lo) + ((kk.toInt64) * hi))), (.double (FP.dmul (FP.dadd (FP.l2d lo) (FP.dmul fr (FP.dsub (FP.l2d hi) (FP.l2d lo)))) (4620693217682128896 : UInt64)))])) _
    refine XS.l2dS X2.here hx rfl (hb hby at_347) rfl (v := (FP.l2d (((((8 : Int32) - kk).toInt64) * lo) + ((kk.toInt64) * hi)))) (rfl) ?_
    refine XS.dcmpS X2.here hx rfl (hb hby at_348) rfl (v := (0 : Int32)) (hv348) ?_
    refine XS.ifNo X2.here hx rfl (hb hby at_349) rfl ((if0 _ _).trans (teq (by decide : (0 : Int32) = (0 : Int32))).2) ?_
    show Steps p.tables e below (T2.setTop (mkF m 352 #[.val (.int sel), .val (.int qr), .val (.int base), .val (.long gaps), .second, .val (.int (4 : Int32)), .val (.int (9 : Int32)), .val (.ref bA), .val (.ref d_1), .val (.int q), .val (.double (own_pct (9 : Int32) q)), .second, .val (.double (FP.dadd (FP.l2d lo) (FP.dmul fr (FP.dsub (FP.l2d hi) (FP.l2d lo))))), .second, .val (.long (((((8 : Int32) - kk).toInt64) * lo) + ((kk.toInt64) * hi))), .second, .val (.int bb), .val (.int kk)] [])) _
    refine XS.iconst X2.here hx rfl (hb hby at_352) ?_
    refine XS.goto X2.here hx rfl (pc0 := 353) (pc' := 357) rfl (hb hby at_353) (by decide) (by decide) ?_
    show Steps p.tables e below (T2.setTop (mkF m 357 #[.val (.int sel), .val (.int qr), .val (.int base), .val (.long gaps), .second, .val (.int (4 : Int32)), .val (.int (9 : Int32)), .val (.ref bA), .val (.ref d_1), .val (.int q), .val (.double (own_pct (9 : Int32) q)), .second, .val (.double (FP.dadd (FP.l2d lo) (FP.dmul fr (FP.dsub (FP.l2d hi) (FP.l2d lo))))), .second, .val (.long (((((8 : Int32) - kk).toInt64) * lo) + ((kk.toInt64) * hi))), .second, .val (.int bb), .val (.int kk)] [(.int (1 : Int32))])) _
    exact retN X2 hx (t := .boolean) Bd.returns (by simp) (hb hby at_357) hr
  · show QL n0 _ T2.heap _
    rw [eq2]
    exact ⟨rfl, N2⟩
theorem own_pre : ∀ (a b : List Int64) (i : Nat), i < a.length → a.getD i 0 = (a ++ b).getD i 0
  | [], b, i, h => absurd h (Nat.not_lt_zero _)
  | x :: t, b, 0, _ => rfl
  | x :: t, b, i + 1, h => own_pre t b i (by simpa using h)
theorem own_wide {l : Launch} {S : Spec} {P : Array Value → State → Prop} {n0 c1 c2 d1 d2 : Nat} (h1 : c1 ≤ d1) (h2 : c2 ≤ d2)
    (h : MetFree l x S P (fun _ _ _ _ _ => True) (fun _ U o U' => ∃ v L, o = .returned v ∧ QL n0 v U'.heap L ∧ FrameEnd U o U' L c1 c2)) :
    MetFree l x S P (fun _ _ _ _ _ => True) (fun _ U o U' => ∃ v L, o = .returned v ∧ QL n0 v U'.heap L ∧ FrameEnd U o U' L d1 d2) := by
  intro p e ha hc hk s m args below hf happ hP hK
  obtain ⟨n, o, g1, g2, g3, v, L, e1, e2, e3⟩ := h p e ha hc hk s m args below hf happ hP hK
  exact ⟨n, o, g1, g2, g3, v, L, e1, e2, ⟨e3.1, e3.2.1, e3.2.2.mono h1 h2⟩⟩
theorem rm0 (l : Launch) (Z : State) (a0 : Array Value) (hw : ∀ d ∈ tables_1, d.before a0 Z = true) (ws : List Jvm.Cond) (sel qr base : Int32) (gaps : Int64) (h0 : Heap) (n0 : Nat) (Z0 : n0 ≤ h0.size) :
    MetFree l x (head1 (Jvm.Cond.code x code maxLocals ret :: ws) room_1) (fun a U => a = #[(.int sel), (.int qr), (.int base), (.long gaps)] ∧ Z.Warmed39 U.vm ∧ U.heap = h0) (fun _ _ _ _ _ => True) (fun _ U o U' => ∃ v L, o = .returned v ∧ QL n0 v U'.heap L ∧ FrameEnd U o U' L 2 18) := by
  obtain ⟨s0, hs0⟩ : ∃ z, (base.toInt64) = z := ⟨_, rfl⟩
  obtain ⟨s1, hs1⟩ : ∃ z, s0 + (gaps &&& (255 : Int64)) = z := ⟨_, rfl⟩
  obtain ⟨s2, hs2⟩ : ∃ z, s1 + (((gaps.toUInt64 >>> ((8 : Int32) &&& 0x3f).toInt64.toUInt64).toInt64) &&& (255 : Int64)) = z := ⟨_, rfl⟩
  obtain ⟨s3, hs3⟩ : ∃ z, s2 + (((gaps.toUInt64 >>> ((16 : Int32) &&& 0x3f).toInt64.toUInt64).toInt64) &&& (255 : Int64)) = z := ⟨_, rfl⟩
  obtain ⟨s4, hs4⟩ : ∃ z, s3 + (((gaps.toUInt64 >>> ((24 : Int32) &&& 0x3f).toInt64.toUInt64).toInt64) &&& (255 : Int64)) = z := ⟨_, rfl⟩
  obtain ⟨s5, hs5⟩ : ∃ z, s4 + (((gaps.toUInt64 >>> ((32 : Int32) &&& 0x3f).toInt64.toUInt64).toInt64) &&& (255 : Int64)) = z := ⟨_, rfl⟩
  obtain ⟨s6, hs6⟩ : ∃ z, s5 + (((gaps.toUInt64 >>> ((40 : Int32) &&& 0x3f).toInt64.toUInt64).toInt64) &&& (255 : Int64)) = z := ⟨_, rfl⟩
  obtain ⟨s7, hs7⟩ : ∃ z, s6 + (((gaps.toUInt64 >>> ((48 : Int32) &&& 0x3f).toInt64.toUInt64).toInt64) &&& (255 : Int64)) = z := ⟨_, rfl⟩
  obtain ⟨s8, hs8⟩ : ∃ z, s7 + (((gaps.toUInt64 >>> ((56 : Int32) &&& 0x3f).toInt64.toUInt64).toInt64) &&& (255 : Int64)) = z := ⟨_, rfl⟩
  have b0 : s0.toInt.natAbs ≤ 2147483648 := by rw [← hs0]; exact own_base base
  have c1 := own_next 2147483648 (Int.ofNat_le.mpr b0) (by decide) hs1
  have b1 : s1.toInt.natAbs ≤ 2147483903 := by omega
  have c2 := own_next 2147483903 (Int.ofNat_le.mpr b1) (by decide) hs2
  have b2 : s2.toInt.natAbs ≤ 2147484158 := by omega
  have c3 := own_next 2147484158 (Int.ofNat_le.mpr b2) (by decide) hs3
  have b3 : s3.toInt.natAbs ≤ 2147484413 := by omega
  have c4 := own_next 2147484413 (Int.ofNat_le.mpr b3) (by decide) hs4
  have b4 : s4.toInt.natAbs ≤ 2147484668 := by omega
  have c5 := own_next 2147484668 (Int.ofNat_le.mpr b4) (by decide) hs5
  have b5 : s5.toInt.natAbs ≤ 2147484923 := by omega
  have c6 := own_next 2147484923 (Int.ofNat_le.mpr b5) (by decide) hs6
  have b6 : s6.toInt.natAbs ≤ 2147485178 := by omega
  have c7 := own_next 2147485178 (Int.ofNat_le.mpr b6) (by decide) hs7
  have b7 : s7.toInt.natAbs ≤ 2147485433 := by omega
  have c8 := own_next 2147485433 (Int.ofNat_le.mpr b7) (by decide) hs8
  have b8 : s8.toInt.natAbs ≤ 2147485688 := by omega
  rcases own_five sel with hch | hch | hch | hch | hch
  · have hk := own_q (1 : Int32) 41 (((8 : Int32) * (1 : Int32)) + (33 : Int32)) (by decide) (by decide) (by decide) own_all1 qr
    obtain ⟨q, hqq⟩ : ∃ z, ((qr &&& (2147483647 : Int32)) % (((8 : Int32) * (1 : Int32)) + (33 : Int32))) - (16 : Int32) = z := ⟨_, rfl⟩
    rw [hqq] at hk
    simp only [own_chk, Bool.and_eq_true] at hk
    obtain ⟨k1, k2, k3, k4, hk⟩ := hk
    have t1 := own_nn_iff k1
    have t2 := own_nn_iff k2
    have t3 := own_nn_iff k3
    have t4 := own_nn_iff k4
    by_cases hq8 : q < (8 : Int32)
    · rw [if_pos hq8] at hk
      have f := own_flat (s := s0) (by omega)
      exact own_wide (by decide) (by decide) (rm0a1 l Z a0 hw ws sel qr base gaps s0 s1 s2 s3 s4 s5 s6 s7 s8 q h0 n0 Z0 hch hs0 hs1 hs2 hs3 hs4 hs5 hs6 hs7 hs8 hqq t1 t2 t3 t4 f.1 f.2 hq8 (of_decide_eq_true hk))
    · rw [if_neg hq8] at hk
      simp only [Bool.and_eq_true] at hk
      obtain ⟨k5, hk⟩ := hk
      by_cases hq8n : q < (8 : Int32) * (1 : Int32)
      · exact absurd hq8n hq8
      · rw [if_neg hq8n] at hk
        have f := own_flat (s := s0) (by omega)
        exact own_wide (by decide) (by decide) (rm0b1 l Z a0 hw ws sel qr base gaps s0 s1 s2 s3 s4 s5 s6 s7 s8 q h0 n0 Z0 hch hs0 hs1 hs2 hs3 hs4 hs5 hs6 hs7 hs8 hqq t1 t2 t3 t4 f.1 f.2 hq8 (of_decide_eq_true k5) hq8n (of_decide_eq_true hk))
  · have hk := own_q (3 : Int32) 57 (((8 : Int32) * (3 : Int32)) + (33 : Int32)) (by decide) (by decide) (by decide) own_all3 qr
    obtain ⟨q, hqq⟩ : ∃ z, ((qr &&& (2147483647 : Int32)) % (((8 : Int32) * (3 : Int32)) + (33 : Int32))) - (16 : Int32) = z := ⟨_, rfl⟩
    rw [hqq] at hk
    simp only [own_chk, Bool.and_eq_true] at hk
    obtain ⟨k1, k2, k3, k4, hk⟩ := hk
    have t1 := own_nn_iff k1
    have t2 := own_nn_iff k2
    have t3 := own_nn_iff k3
    have t4 := own_nn_iff k4
    by_cases hq8 : q < (8 : Int32)
    · rw [if_pos hq8] at hk
      have f := own_flat (s := s0) (by omega)
      exact own_wide (by decide) (by decide) (rm0a3 l Z a0 hw ws sel qr base gaps s0 s1 s2 s3 s4 s5 s6 s7 s8 q h0 n0 Z0 hch hs0 hs1 hs2 hs3 hs4 hs5 hs6 hs7 hs8 hqq t1 t2 t3 t4 f.1 f.2 hq8 (of_decide_eq_true hk))
    · rw [if_neg hq8] at hk
      simp only [Bool.and_eq_true] at hk
      obtain ⟨k5, hk⟩ := hk
      by_cases hq8n : q < (8 : Int32) * (3 : Int32)
      · rw [if_pos hq8n] at hk
        simp only [Bool.and_eq_true, decide_eq_true_eq] at hk
        obtain ⟨k6, k7, k8, k9, k10, k11, k12, k13⟩ := hk
        obtain ⟨bb, hd1⟩ : ∃ z, q / (8 : Int32) = z := ⟨_, rfl⟩
        obtain ⟨kk, hd2⟩ : ∃ z, q % (8 : Int32) = z := ⟨_, rfl⟩
        rw [hd1] at k7 k8 k9 k10 k11
        rw [hd2] at k9 k12 k13
        have eN : ((3 : Int32)).toInt = 3 := by decide
        rw [eN] at k11
        have hb := own_idx k10
        have e9 : ((9 : Int32)).toInt = 9 := by decide
        have e0 : ((0 : Int32)).toInt = 0 := by decide
        have x1 : (bb - (1 : Int32)).toNatClampNeg + 1 = bb.toNatClampNeg := by show (bb - 1).toInt.toNat + 1 = bb.toInt.toNat; omega
        have x2 : bb.toNatClampNeg < 3 := by show bb.toInt.toNat < 3; omega
        have ch : Chain [s0, s1, s2, s3, s4, s5, s6, s7, s8] := ⟨c1, c2, c3, c4, c5, c6, c7, c8, trivial⟩
        have sm : ∀ x ∈ [s0, s1, s2, s3, s4, s5, s6, s7, s8], x.toInt.natAbs ≤ 2 ^ 33 := by intro x hx; simp only [List.mem_cons, List.not_mem_nil, or_false] at hx; rcases hx with rfl | rfl | rfl | rfl | rfl | rfl | rfl | rfl | rfl <;> omega
        have g := own_chain [s0, s1, s2, s3, s4, s5, s6, s7, s8] (bb - (1 : Int32)).toNatClampNeg ch (by rw [x1]; show bb.toNatClampNeg < 9; omega)
        rw [x1] at g
        have sl := own_all_small [s0, s1, s2, s3, s4, s5, s6, s7, s8] (bb - (1 : Int32)).toNatClampNeg sm
        have p1 : ([s0, s1, s2] : List Int64).getD (bb - (1 : Int32)).toNatClampNeg 0 = [s0, s1, s2, s3, s4, s5, s6, s7, s8].getD (bb - (1 : Int32)).toNatClampNeg 0 := own_pre [s0, s1, s2] [s3, s4, s5, s6, s7, s8] _ (by show _ < 3; omega)
        have p2 : ([s0, s1, s2] : List Int64).getD bb.toNatClampNeg 0 = [s0, s1, s2, s3, s4, s5, s6, s7, s8].getD bb.toNatClampNeg 0 := own_pre [s0, s1, s2] [s3, s4, s5, s6, s7, s8] _ (by show _ < 3; omega)
        have ht1 := own_get (fun x => .double (FP.l2d x)) (.double (0 : UInt64)) [s0, s1, s2] (bb - (1 : Int32)).toNatClampNeg (by show _ < 3; omega)
        have ht2 := own_get (fun x => .double (FP.l2d x)) (.double (0 : UInt64)) [s0, s1, s2] bb.toNatClampNeg (by show _ < 3; omega)
        have hu1 := own_get Value.long (.long (0 : Int64)) [s0, s1, s2, s3, s4, s5, s6, s7, s8] (bb - (1 : Int32)).toNatClampNeg (by show _ < 9; omega)
        have hu2 := own_get Value.long (.long (0 : Int64)) [s0, s1, s2, s3, s4, s5, s6, s7, s8] bb.toNatClampNeg (by show _ < 9; omega)
        rw [p1] at ht1
        rw [p2] at ht2
        have f := own_interp (k := kk) sl g.1 g.2 k12 k13
        have lt0 : ¬ (bb - (1 : Int32)) < 0 := by rw [Int32.lt_iff_toInt_lt, hb, e0]; omega
        have lt1 : ¬ bb < 0 := by rw [Int32.lt_iff_toInt_lt, e0]; omega
        exact own_wide (by decide) (by decide) (rm0c3 l Z a0 hw ws sel qr base gaps s0 s1 s2 s3 s4 s5 s6 s7 s8 q (own_eighth kk) _ _ bb (bb - (1 : Int32)) kk h0 n0 Z0 hch hs0 hs1 hs2 hs3 hs4 hs5 hs6 hs7 hs8 hqq t1 t2 t3 t4 f.2.2.2.1 f.2.2.2.2 hq8 (of_decide_eq_true k5) hq8n k6 hd1 hd2 k7 (own_nn_iff k8) k9 rfl ⟨lt0, by rw [Int32.lt_iff_toInt_lt, hb, eN]; omega⟩ ⟨lt1, by rw [Int32.lt_iff_toInt_lt, eN]; omega⟩ ht1 ht2 ⟨lt0, by rw [Int32.lt_iff_toInt_lt, hb, e9]; omega⟩ ⟨lt1, by rw [Int32.lt_iff_toInt_lt, e9]; omega⟩ hu1 hu2 f.1 f.2.1 f.2.2.1)
      · rw [if_neg hq8n] at hk
        have f := own_flat (s := s2) (by omega)
        exact own_wide (by decide) (by decide) (rm0b3 l Z a0 hw ws sel qr base gaps s0 s1 s2 s3 s4 s5 s6 s7 s8 q h0 n0 Z0 hch hs0 hs1 hs2 hs3 hs4 hs5 hs6 hs7 hs8 hqq t1 t2 t3 t4 f.1 f.2 hq8 (of_decide_eq_true k5) hq8n (of_decide_eq_true hk))
  · have hk := own_q (4 : Int32) 65 (((8 : Int32) * (4 : Int32)) + (33 : Int32)) (by decide) (by decide) (by decide) own_all4 qr
    obtain ⟨q, hqq⟩ : ∃ z, ((qr &&& (2147483647 : Int32)) % (((8 : Int32) * (4 : Int32)) + (33 : Int32))) - (16 : Int32) = z := ⟨_, rfl⟩
    rw [hqq] at hk
    simp only [own_chk, Bool.and_eq_true] at hk
    obtain ⟨k1, k2, k3, k4, hk⟩ := hk
    have t1 := own_nn_iff k1
    have t2 := own_nn_iff k2
    have t3 := own_nn_iff k3
    have t4 := own_nn_iff k4
    by_cases hq8 : q < (8 : Int32)
    · rw [if_pos hq8] at hk
      have f := own_flat (s := s0) (by omega)
      exact own_wide (by decide) (by decide) (rm0a4 l Z a0 hw ws sel qr base gaps s0 s1 s2 s3 s4 s5 s6 s7 s8 q h0 n0 Z0 hch hs0 hs1 hs2 hs3 hs4 hs5 hs6 hs7 hs8 hqq t1 t2 t3 t4 f.1 f.2 hq8 (of_decide_eq_true hk))
    · rw [if_neg hq8] at hk
      simp only [Bool.and_eq_true] at hk
      obtain ⟨k5, hk⟩ := hk
      by_cases hq8n : q < (8 : Int32) * (4 : Int32)
      · rw [if_pos hq8n] at hk
        simp only [Bool.and_eq_true, decide_eq_true_eq] at hk
        obtain ⟨k6, k7, k8, k9, k10, k11, k12, k13⟩ := hk
        obtain ⟨bb, hd1⟩ : ∃ z, q / (8 : Int32) = z := ⟨_, rfl⟩
        obtain ⟨kk, hd2⟩ : ∃ z, q % (8 : Int32) = z := ⟨_, rfl⟩
        rw [hd1] at k7 k8 k9 k10 k11
        rw [hd2] at k9 k12 k13
        have eN : ((4 : Int32)).toInt = 4 := by decide
        rw [eN] at k11
        have hb := own_idx k10
        have e9 : ((9 : Int32)).toInt = 9 := by decide
        have e0 : ((0 : Int32)).toInt = 0 := by decide
        have x1 : (bb - (1 : Int32)).toNatClampNeg + 1 = bb.toNatClampNeg := by show (bb - 1).toInt.toNat + 1 = bb.toInt.toNat; omega
        have x2 : bb.toNatClampNeg < 4 := by show bb.toInt.toNat < 4; omega
        have ch : Chain [s0, s1, s2, s3, s4, s5, s6, s7, s8] := ⟨c1, c2, c3, c4, c5, c6, c7, c8, trivial⟩
        have sm : ∀ x ∈ [s0, s1, s2, s3, s4, s5, s6, s7, s8], x.toInt.natAbs ≤ 2 ^ 33 := by intro x hx; simp only [List.mem_cons, List.not_mem_nil, or_false] at hx; rcases hx with rfl | rfl | rfl | rfl | rfl | rfl | rfl | rfl | rfl <;> omega
        have g := own_chain [s0, s1, s2, s3, s4, s5, s6, s7, s8] (bb - (1 : Int32)).toNatClampNeg ch (by rw [x1]; show bb.toNatClampNeg < 9; omega)
        rw [x1] at g
        have sl := own_all_small [s0, s1, s2, s3, s4, s5, s6, s7, s8] (bb - (1 : Int32)).toNatClampNeg sm
        have p1 : ([s0, s1, s2, s3] : List Int64).getD (bb - (1 : Int32)).toNatClampNeg 0 = [s0, s1, s2, s3, s4, s5, s6, s7, s8].getD (bb - (1 : Int32)).toNatClampNeg 0 := own_pre [s0, s1, s2, s3] [s4, s5, s6, s7, s8] _ (by show _ < 4; omega)
        have p2 : ([s0, s1, s2, s3] : List Int64).getD bb.toNatClampNeg 0 = [s0, s1, s2, s3, s4, s5, s6, s7, s8].getD bb.toNatClampNeg 0 := own_pre [s0, s1, s2, s3] [s4, s5, s6, s7, s8] _ (by show _ < 4; omega)
        have ht1 := own_get (fun x => .double (FP.l2d x)) (.double (0 : UInt64)) [s0, s1, s2, s3] (bb - (1 : Int32)).toNatClampNeg (by show _ < 4; omega)
        have ht2 := own_get (fun x => .double (FP.l2d x)) (.double (0 : UInt64)) [s0, s1, s2, s3] bb.toNatClampNeg (by show _ < 4; omega)
        have hu1 := own_get Value.long (.long (0 : Int64)) [s0, s1, s2, s3, s4, s5, s6, s7, s8] (bb - (1 : Int32)).toNatClampNeg (by show _ < 9; omega)
        have hu2 := own_get Value.long (.long (0 : Int64)) [s0, s1, s2, s3, s4, s5, s6, s7, s8] bb.toNatClampNeg (by show _ < 9; omega)
        rw [p1] at ht1
        rw [p2] at ht2
        have f := own_interp (k := kk) sl g.1 g.2 k12 k13
        have lt0 : ¬ (bb - (1 : Int32)) < 0 := by rw [Int32.lt_iff_toInt_lt, hb, e0]; omega
        have lt1 : ¬ bb < 0 := by rw [Int32.lt_iff_toInt_lt, e0]; omega
        exact own_wide (by decide) (by decide) (rm0c4 l Z a0 hw ws sel qr base gaps s0 s1 s2 s3 s4 s5 s6 s7 s8 q (own_eighth kk) _ _ bb (bb - (1 : Int32)) kk h0 n0 Z0 hch hs0 hs1 hs2 hs3 hs4 hs5 hs6 hs7 hs8 hqq t1 t2 t3 t4 f.2.2.2.1 f.2.2.2.2 hq8 (of_decide_eq_true k5) hq8n k6 hd1 hd2 k7 (own_nn_iff k8) k9 rfl ⟨lt0, by rw [Int32.lt_iff_toInt_lt, hb, eN]; omega⟩ ⟨lt1, by rw [Int32.lt_iff_toInt_lt, eN]; omega⟩ ht1 ht2 ⟨lt0, by rw [Int32.lt_iff_toInt_lt, hb, e9]; omega⟩ ⟨lt1, by rw [Int32.lt_iff_toInt_lt, e9]; omega⟩ hu1 hu2 f.1 f.2.1 f.2.2.1)
      · rw [if_neg hq8n] at hk
        have f := own_flat (s := s3) (by omega)
        exact own_wide (by decide) (by decide) (rm0b4 l Z a0 hw ws sel qr base gaps s0 s1 s2 s3 s4 s5 s6 s7 s8 q h0 n0 Z0 hch hs0 hs1 hs2 hs3 hs4 hs5 hs6 hs7 hs8 hqq t1 t2 t3 t4 f.1 f.2 hq8 (of_decide_eq_true k5) hq8n (of_decide_eq_true hk))
  · have hk := own_q (7 : Int32) 89 (((8 : Int32) * (7 : Int32)) + (33 : Int32)) (by decide) (by decide) (by decide) own_all7 qr
    obtain ⟨q, hqq⟩ : ∃ z, ((qr &&& (2147483647 : Int32)) % (((8 : Int32) * (7 : Int32)) + (33 : Int32))) - (16 : Int32) = z := ⟨_, rfl⟩
    rw [hqq] at hk
    simp only [own_chk, Bool.and_eq_true] at hk
    obtain ⟨k1, k2, k3, k4, hk⟩ := hk
    have t1 := own_nn_iff k1
    have t2 := own_nn_iff k2
    have t3 := own_nn_iff k3
    have t4 := own_nn_iff k4
    by_cases hq8 : q < (8 : Int32)
    · rw [if_pos hq8] at hk
      have f := own_flat (s := s0) (by omega)
      exact own_wide (by decide) (by decide) (rm0a7 l Z a0 hw ws sel qr base gaps s0 s1 s2 s3 s4 s5 s6 s7 s8 q h0 n0 Z0 hch hs0 hs1 hs2 hs3 hs4 hs5 hs6 hs7 hs8 hqq t1 t2 t3 t4 f.1 f.2 hq8 (of_decide_eq_true hk))
    · rw [if_neg hq8] at hk
      simp only [Bool.and_eq_true] at hk
      obtain ⟨k5, hk⟩ := hk
      by_cases hq8n : q < (8 : Int32) * (7 : Int32)
      · rw [if_pos hq8n] at hk
        simp only [Bool.and_eq_true, decide_eq_true_eq] at hk
        obtain ⟨k6, k7, k8, k9, k10, k11, k12, k13⟩ := hk
        obtain ⟨bb, hd1⟩ : ∃ z, q / (8 : Int32) = z := ⟨_, rfl⟩
        obtain ⟨kk, hd2⟩ : ∃ z, q % (8 : Int32) = z := ⟨_, rfl⟩
        rw [hd1] at k7 k8 k9 k10 k11
        rw [hd2] at k9 k12 k13
        have eN : ((7 : Int32)).toInt = 7 := by decide
        rw [eN] at k11
        have hb := own_idx k10
        have e9 : ((9 : Int32)).toInt = 9 := by decide
        have e0 : ((0 : Int32)).toInt = 0 := by decide
        have x1 : (bb - (1 : Int32)).toNatClampNeg + 1 = bb.toNatClampNeg := by show (bb - 1).toInt.toNat + 1 = bb.toInt.toNat; omega
        have x2 : bb.toNatClampNeg < 7 := by show bb.toInt.toNat < 7; omega
        have ch : Chain [s0, s1, s2, s3, s4, s5, s6, s7, s8] := ⟨c1, c2, c3, c4, c5, c6, c7, c8, trivial⟩
        have sm : ∀ x ∈ [s0, s1, s2, s3, s4, s5, s6, s7, s8], x.toInt.natAbs ≤ 2 ^ 33 := by intro x hx; simp only [List.mem_cons, List.not_mem_nil, or_false] at hx; rcases hx with rfl | rfl | rfl | rfl | rfl | rfl | rfl | rfl | rfl <;> omega
        have g := own_chain [s0, s1, s2, s3, s4, s5, s6, s7, s8] (bb - (1 : Int32)).toNatClampNeg ch (by rw [x1]; show bb.toNatClampNeg < 9; omega)
        rw [x1] at g
        have sl := own_all_small [s0, s1, s2, s3, s4, s5, s6, s7, s8] (bb - (1 : Int32)).toNatClampNeg sm
        have p1 : ([s0, s1, s2, s3, s4, s5, s6] : List Int64).getD (bb - (1 : Int32)).toNatClampNeg 0 = [s0, s1, s2, s3, s4, s5, s6, s7, s8].getD (bb - (1 : Int32)).toNatClampNeg 0 := own_pre [s0, s1, s2, s3, s4, s5, s6] [s7, s8] _ (by show _ < 7; omega)
        have p2 : ([s0, s1, s2, s3, s4, s5, s6] : List Int64).getD bb.toNatClampNeg 0 = [s0, s1, s2, s3, s4, s5, s6, s7, s8].getD bb.toNatClampNeg 0 := own_pre [s0, s1, s2, s3, s4, s5, s6] [s7, s8] _ (by show _ < 7; omega)
        have ht1 := own_get (fun x => .double (FP.l2d x)) (.double (0 : UInt64)) [s0, s1, s2, s3, s4, s5, s6] (bb - (1 : Int32)).toNatClampNeg (by show _ < 7; omega)
        have ht2 := own_get (fun x => .double (FP.l2d x)) (.double (0 : UInt64)) [s0, s1, s2, s3, s4, s5, s6] bb.toNatClampNeg (by show _ < 7; omega)
        have hu1 := own_get Value.long (.long (0 : Int64)) [s0, s1, s2, s3, s4, s5, s6, s7, s8] (bb - (1 : Int32)).toNatClampNeg (by show _ < 9; omega)
        have hu2 := own_get Value.long (.long (0 : Int64)) [s0, s1, s2, s3, s4, s5, s6, s7, s8] bb.toNatClampNeg (by show _ < 9; omega)
        rw [p1] at ht1
        rw [p2] at ht2
        have f := own_interp (k := kk) sl g.1 g.2 k12 k13
        have lt0 : ¬ (bb - (1 : Int32)) < 0 := by rw [Int32.lt_iff_toInt_lt, hb, e0]; omega
        have lt1 : ¬ bb < 0 := by rw [Int32.lt_iff_toInt_lt, e0]; omega
        exact own_wide (by decide) (by decide) (rm0c7 l Z a0 hw ws sel qr base gaps s0 s1 s2 s3 s4 s5 s6 s7 s8 q (own_eighth kk) _ _ bb (bb - (1 : Int32)) kk h0 n0 Z0 hch hs0 hs1 hs2 hs3 hs4 hs5 hs6 hs7 hs8 hqq t1 t2 t3 t4 f.2.2.2.1 f.2.2.2.2 hq8 (of_decide_eq_true k5) hq8n k6 hd1 hd2 k7 (own_nn_iff k8) k9 rfl ⟨lt0, by rw [Int32.lt_iff_toInt_lt, hb, eN]; omega⟩ ⟨lt1, by rw [Int32.lt_iff_toInt_lt, eN]; omega⟩ ht1 ht2 ⟨lt0, by rw [Int32.lt_iff_toInt_lt, hb, e9]; omega⟩ ⟨lt1, by rw [Int32.lt_iff_toInt_lt, e9]; omega⟩ hu1 hu2 f.1 f.2.1 f.2.2.1)
      · rw [if_neg hq8n] at hk
        have f := own_flat (s := s6) (by omega)
        exact own_wide (by decide) (by decide) (rm0b7 l Z a0 hw ws sel qr base gaps s0 s1 s2 s3 s4 s5 s6 s7 s8 q h0 n0 Z0 hch hs0 hs1 hs2 hs3 hs4 hs5 hs6 hs7 hs8 hqq t1 t2 t3 t4 f.1 f.2 hq8 (of_decide_eq_true k5) hq8n (of_decide_eq_true hk))
  · have hk := own_q (9 : Int32) 105 (((8 : Int32) * (9 : Int32)) + (33 : Int32)) (by decide) (by decide) (by decide) own_all9 qr
    obtain ⟨q, hqq⟩ : ∃ z, ((qr &&& (2147483647 : Int32)) % (((8 : Int32) * (9 : Int32)) + (33 : Int32))) - (16 : Int32) = z := ⟨_, rfl⟩
    rw [hqq] at hk
    simp only [own_chk, Bool.and_eq_true] at hk
    obtain ⟨k1, k2, k3, k4, hk⟩ := hk
    have t1 := own_nn_iff k1
    have t2 := own_nn_iff k2
    have t3 := own_nn_iff k3
    have t4 := own_nn_iff k4
    by_cases hq8 : q < (8 : Int32)
    · rw [if_pos hq8] at hk
      have f := own_flat (s := s0) (by omega)
      exact rm0a9 l Z a0 hw ws sel qr base gaps s0 s1 s2 s3 s4 s5 s6 s7 s8 q h0 n0 Z0 hch hs0 hs1 hs2 hs3 hs4 hs5 hs6 hs7 hs8 hqq t1 t2 t3 t4 f.1 f.2 hq8 (of_decide_eq_true hk)
    · rw [if_neg hq8] at hk
      simp only [Bool.and_eq_true] at hk
      obtain ⟨k5, hk⟩ := hk
      by_cases hq8n : q < (8 : Int32) * (9 : Int32)
      · rw [if_pos hq8n] at hk
        simp only [Bool.and_eq_true, decide_eq_true_eq] at hk
        obtain ⟨k6, k7, k8, k9, k10, k11, k12, k13⟩ := hk
        obtain ⟨bb, hd1⟩ : ∃ z, q / (8 : Int32) = z := ⟨_, rfl⟩
        obtain ⟨kk, hd2⟩ : ∃ z, q % (8 : Int32) = z := ⟨_, rfl⟩
        rw [hd1] at k7 k8 k9 k10 k11
        rw [hd2] at k9 k12 k13
        have eN : ((9 : Int32)).toInt = 9 := by decide
        rw [eN] at k11
        have hb := own_idx k10
        have e9 : ((9 : Int32)).toInt = 9 := by decide
        have e0 : ((0 : Int32)).toInt = 0 := by decide
        have x1 : (bb - (1 : Int32)).toNatClampNeg + 1 = bb.toNatClampNeg := by show (bb - 1).toInt.toNat + 1 = bb.toInt.toNat; omega
        have x2 : bb.toNatClampNeg < 9 := by show bb.toInt.toNat < 9; omega
        have ch : Chain [s0, s1, s2, s3, s4, s5, s6, s7, s8] := ⟨c1, c2, c3, c4, c5, c6, c7, c8, trivial⟩
        have sm : ∀ x ∈ [s0, s1, s2, s3, s4, s5, s6, s7, s8], x.toInt.natAbs ≤ 2 ^ 33 := by intro x hx; simp only [List.mem_cons, List.not_mem_nil, or_false] at hx; rcases hx with rfl | rfl | rfl | rfl | rfl | rfl | rfl | rfl | rfl <;> omega
        have g := own_chain [s0, s1, s2, s3, s4, s5, s6, s7, s8] (bb - (1 : Int32)).toNatClampNeg ch (by rw [x1]; show bb.toNatClampNeg < 9; omega)
        rw [x1] at g
        have sl := own_all_small [s0, s1, s2, s3, s4, s5, s6, s7, s8] (bb - (1 : Int32)).toNatClampNeg sm
        have p1 : ([s0, s1, s2, s3, s4, s5, s6, s7, s8] : List Int64).getD (bb - (1 : Int32)).toNatClampNeg 0 = [s0, s1, s2, s3, s4, s5, s6, s7, s8].getD (bb - (1 : Int32)).toNatClampNeg 0 := rfl
        have p2 : ([s0, s1, s2, s3, s4, s5, s6, s7, s8] : List Int64).getD bb.toNatClampNeg 0 = [s0, s1, s2, s3, s4, s5, s6, s7, s8].getD bb.toNatClampNeg 0 := rfl
        have ht1 := own_get (fun x => .double (FP.l2d x)) (.double (0 : UInt64)) [s0, s1, s2, s3, s4, s5, s6, s7, s8] (bb - (1 : Int32)).toNatClampNeg (by show _ < 9; omega)
        have ht2 := own_get (fun x => .double (FP.l2d x)) (.double (0 : UInt64)) [s0, s1, s2, s3, s4, s5, s6, s7, s8] bb.toNatClampNeg (by show _ < 9; omega)
        have hu1 := own_get Value.long (.long (0 : Int64)) [s0, s1, s2, s3, s4, s5, s6, s7, s8] (bb - (1 : Int32)).toNatClampNeg (by show _ < 9; omega)
        have hu2 := own_get Value.long (.long (0 : Int64)) [s0, s1, s2, s3, s4, s5, s6, s7, s8] bb.toNatClampNeg (by show _ < 9; omega)
        rw [p1] at ht1
        rw [p2] at ht2
        have f := own_interp (k := kk) sl g.1 g.2 k12 k13
        have lt0 : ¬ (bb - (1 : Int32)) < 0 := by rw [Int32.lt_iff_toInt_lt, hb, e0]; omega
        have lt1 : ¬ bb < 0 := by rw [Int32.lt_iff_toInt_lt, e0]; omega
        exact rm0c9 l Z a0 hw ws sel qr base gaps s0 s1 s2 s3 s4 s5 s6 s7 s8 q (own_eighth kk) _ _ bb (bb - (1 : Int32)) kk h0 n0 Z0 hch hs0 hs1 hs2 hs3 hs4 hs5 hs6 hs7 hs8 hqq t1 t2 t3 t4 f.2.2.2.1 f.2.2.2.2 hq8 (of_decide_eq_true k5) hq8n k6 hd1 hd2 k7 (own_nn_iff k8) k9 rfl ⟨lt0, by rw [Int32.lt_iff_toInt_lt, hb, eN]; omega⟩ ⟨lt1, by rw [Int32.lt_iff_toInt_lt, eN]; omega⟩ ht1 ht2 ⟨lt0, by rw [Int32.lt_iff_toInt_lt, hb, e9]; omega⟩ ⟨lt1, by rw [Int32.lt_iff_toInt_lt, e9]; omega⟩ hu1 hu2 f.1 f.2.1 f.2.2.1
      · rw [if_neg hq8n] at hk
        have f := own_flat (s := s8) (by omega)
        exact rm0b9 l Z a0 hw ws sel qr base gaps s0 s1 s2 s3 s4 s5 s6 s7 s8 q h0 n0 Z0 hch hs0 hs1 hs2 hs3 hs4 hs5 hs6 hs7 hs8 hqq t1 t2 t3 t4 f.1 f.2 hq8 (of_decide_eq_true k5) hq8n (of_decide_eq_true hk)
set_option maxRecDepth 65536 in
set_option maxHeartbeats 40000000 in
theorem comes_1 {Post : Tables → Env → Array Value → State → Outcome → State → Prop} (hpost : ∀ tb e args s v u, (limb_1_1.after args s (.returned v) u = true ∧ limb_1_2.after args s (.returned v) u = true ∧ True) → FrameEnd s (.returned v) u (Jvm.fieldLocs frame_1_writes args s ++ Jvm.arrayLocs frame_1_arrays args s ++ Jvm.staticLocs frame_1_statics s) 16 128 → Post tb e args s (.returned v) u) :
    ArmFor flags0 classFile x code maxLocals ret World_1 tables_1 room_1 Calls_1 rest_1 Pre_1 Post := by
  intro l hfl _ _ p e ha hc hk s m args below hf hA hF happ hP
  obtain ⟨hcalls, hrest, hpre⟩ := hP
  obtain ⟨-, -, -, hnamed, -, -, -, hat⟩ := (Spec.applies_iff hf).mp happ
  obtain ⟨hg, hn⟩ := and_e (Cond.before_iff.mp (show (Jvm.Cond.and given_1 narrow_1).before args s = true from hpre))
  obtain ⟨hcount, r0⟩ := and_e hg
  obtain ⟨hk0, r1⟩ := and_e r0
  obtain ⟨hk1, r2⟩ := and_e r1
  obtain ⟨hk2, r3⟩ := and_e r2
  have hk3 := r3
  obtain ⟨w0, w1, w2, w3, rfl⟩ : ∃ w0 w1 w2 w3 : Value, args = #[w0, w1, w2, w3] := by
    have hs : args.size = 4 := by simpa [Cond.value, given_1] using hcount
    obtain ⟨L⟩ := args
    match L, hs with
    | [w0, w1, w2, w3], _ => exact ⟨w0, w1, w2, w3, rfl⟩
  have hw := fun d (hd : d ∈ tables_1) => atoms_spec (ws := Jvm.Cond.code x code maxLocals ret :: tables_1) hat d (List.mem_cons_of_mem _ hd)
  have hfit : Fit s := fun {y c} hc i hi => by
    obtain ⟨ha, rfl⟩ := Array.getElem?_eq_some_iff.mp hc
    have q := List.all_eq_true.mp ((Array.all_eq_true_iff_forall_mem.mp hF) _ (Array.getElem_mem ha)) i (List.mem_range.mpr hi)
    simpa [Array.getElem?_eq_getElem hi] using q
  obtain ⟨i0, ei0⟩ := is_v hk0
  obtain rfl : w0 = (.int i0) := Option.some.inj ei0
  obtain ⟨i1, ei1⟩ := is_v hk1
  obtain rfl : w1 = (.int i1) := Option.some.inj ei1
  obtain ⟨i2, ei2⟩ := is_v hk2
  obtain rfl : w2 = (.int i2) := Option.some.inj ei2
  obtain ⟨i3, ei3⟩ := isL_v hk3
  obtain rfl : w3 = (.long i3) := Option.some.inj ei3
  obtain ⟨n, o, h1, h2, h3, _, L, rfl, ⟨rfl, N⟩, hq⟩ := rm0 l s _ hw tables_1 i0 i1 i2 i3 s.heap s.heap.size (Nat.le_refl _)  p e ha hc hk s m _ below hf ((Spec.applies_iff_loose hf).mp happ).1 ⟨rfl, State.Warmed39.refl s, rfl⟩ trivial
  refine ⟨n, _, h1, h2, h3, hpost _ _ _ _ _ _ ⟨Cond.after_iff.mpr rfl, Cond.after_iff.mpr (eq_i res_at (Term.int_eval (1)) rfl), trivial⟩ ⟨hq.1, hq.2.1, (hq.2.2.sift fun y hy => Or.inr (N y hy)).mono (by decide) (by decide)⟩⟩
theorem main_1_1 : Claimed_1_1 := comes_1 fun _ _ _ _ _ _ h hF => ⟨h.1, hF⟩
theorem main_1_2 : Claimed_1_2 := comes_1 fun _ _ _ _ _ _ h hF => ⟨h.2.1, hF⟩
end Jvm.Pilot.@@N@@
namespace Jvm.Pilot.@@N@@
open Jvm Jvm.ClassFile Sem Op Lib Jvm.Free Jvm.Stand Jvm.Pilot.@@N@@.Jvm.D
/-! MADE BY PROGRAM (witnessworld.py) out of the Statement's table words and the real class files: 13 classes; the members and pool entries that the words name. The judged class is class 1, her method 1. -/
namespace start1
open Jvm.ClassFile
def u (s : String) : CpInfo := .utf8 (stringToUtf16 s)
/-- a pool by its gaps: so many unusable entries, then the entry; so many at the end -/
def gap : Nat → List CpInfo → List CpInfo
  | 0, r => r
  | n + 1, r => .unusable :: gap n r
def poolList (es : List (Nat × CpInfo)) (last : Nat) : List CpInfo := es.foldr (fun e r => gap e.1 (e.2 :: r)) (gap last [])
def pool (es : List (Nat × CpInfo)) (last : Nat) : Array CpInfo := ⟨poolList es last⟩
def fileOf (pool : Array CpInfo) (this : Nat) (attrs : Array Attribute := #[]) (ms : Array MethodInfo := #[]) (fl : Nat := 33) (sup : Nat := 0) (ifs : Array Nat := #[]) (fds : Array FieldInfo := #[]) : ClassFile where
  minorVersion := 0
  majorVersion := 65
  constantPool := pool
  accessFlags := fl
  thisClass := this
  superClass := sup
  interfaces := ifs
  fields := fds
  methods := ms
  attributes := attrs
def plain (name : String) (sup : Option ClassId) : Class where
  name := name
  kind := .ordinary
  loader := none
  accessFlags := 33
  super := sup
  interfaces := #[]
  cf := none
  fields := #[]
  methods := #[]
  instanceTypes := #[]
  staticTypes := #[]
  resolved := #[]
  callSites := []
  init := .initialized
  statics := none
  mirror := none

def pool0 : Array CpInfo := pool [(5, u "<init>"), (0, u "()V"), (1, .class_ 10), (1, u "java/lang/Object")] 113

def k0m0 : Method := { name := "<init>", desc := "()V", sig := { parameters := [], returnType := none }, accessFlags := 1, code := none }
/-- java/lang/Object -/
def k0 : Class := { plain "java/lang/Object" none with
  accessFlags := 33
  interfaces := #[]
  cf := some (fileOf pool0 8 #[] #[{ accessFlags := 1, nameIndex := 5, descriptorIndex := 6, attributes := #[] }] 33 0 #[] #[])
  fields := #[]
  methods := #[k0m0]
  instanceTypes := #[]
  staticTypes := #[]
  resolved := Array.replicate 124 none
  statics := none }

def pool1 : Array CpInfo := pool [(2, .class_ 4), (1, u "java/lang/Object"), (0, u "<init>"), (0, u "()V"), (0, .integer 2147483647), (0, .long 255), (1, .methodref 11 12), (0, .class_ 13), (0, .nameAndType 14 15), (0, u "com/example/bytegauge/bytegauge/stats/JsonTablePercentilePinLaw"), (0, u "sortedOf"), (0, u "(I[J)[D"), (0, .double 4623226492472524800), (1, .methodref 19 20), (0, .class_ 21), (0, .nameAndType 22 23), (0, u "com/example/bytegauge/bytegauge/stats/JsonTable"), (0, u "percentile"), (0, u "([DD)D"), (0, .long 8), (1, .double 4620693217682128896), (3, u "law"), (0, u "(IIIJ)Z")] 7

def k1m0 : Method := { name := "<init>", desc := "()V", sig := { parameters := [], returnType := none }, accessFlags := 1, code := none }
def k1c1 : Code := { maxStack := 8, maxLocals := 18, code := code, exceptionTable := #[], attributes := #[] }
def k1m1 : Method := { name := "law", desc := "(IIIJ)Z", sig := { parameters := [.int, .int, .int, .long], returnType := some .boolean }, accessFlags := 9, code := some k1c1 }
def k1c2 : Code := { maxStack := 5, maxLocals := 2, code := method_3_code, exceptionTable := #[], attributes := #[] }
def k1m2 : Method := { name := "sortedOf", desc := "(I[J)[D", sig := { parameters := [.int, (.array .long)], returnType := some (.array .double) }, accessFlags := 10, code := some k1c2 }
/-- com/example/bytegauge/bytegauge/stats/JsonTablePercentilePinLaw -/
def k1 : Class := { plain "com/example/bytegauge/bytegauge/stats/JsonTablePercentilePinLaw" (some 0) with
  accessFlags := 49
  interfaces := #[]
  cf := some (fileOf pool1 11 #[] #[{ accessFlags := 1, nameIndex := 5, descriptorIndex := 6, attributes := #[] }, { accessFlags := 9, nameIndex := 30, descriptorIndex := 31, attributes := #[] }, { accessFlags := 10, nameIndex := 14, descriptorIndex := 15, attributes := #[] }] 49 2 #[] #[])
  fields := #[]
  methods := #[k1m0, k1m1, k1m2]
  instanceTypes := #[]
  staticTypes := #[]
  resolved := Array.replicate 39 none
  statics := none }

def pool2 : Array CpInfo := pool [(2, .class_ 4), (1, u "java/lang/Object"), (6, .class_ 13), (1, u "com/example/bytegauge/bytegauge/stats/JsonTable"), (0, u "rows"), (0, u "Ljava/util/List;"), (2, u "provenance"), (0, u "Lcom/example/bytegauge/bytegauge/stats/JsonTable$Provenance;"), (78, u "PERCENTILES"), (23, u "percentile"), (0, u "([DD)D"), (54, .class_ 180), (1, u "com/example/bytegauge/bytegauge/stats/JsonTable$Provenance"), (117, .double 4636737291354636288), (86, u "BENCHMARK_PREFIX"), (0, u "Ljava/lang/String;"), (3, u "NANOS_PER_SECOND"), (0, u "D"), (0, u "NANOS_PER_MILLISECOND"), (0, u "CALLS_PER_ROUND"), (0, u "I"), (3, u "INDENT")] 50

def k2c0 : Code := { maxStack := 9, maxLocals := 11, code := prog_53_method_6_code, exceptionTable := #[], attributes := #[] }
def k2m0 : Method := { name := "percentile", desc := "([DD)D", sig := { parameters := [(.array .double), .double], returnType := some .double }, accessFlags := 8, code := some k2c0 }
/-- com/example/bytegauge/bytegauge/stats/JsonTable -/
def k2 : Class := { plain "com/example/bytegauge/bytegauge/stats/JsonTable" (some 0) with
  accessFlags := 49
  interfaces := #[]
  cf := some (fileOf pool2 11 #[.nestMembers #[178]] #[{ accessFlags := 8, nameIndex := 122, descriptorIndex := 123, attributes := #[] }] 49 2 #[] #[{ accessFlags := 25, nameIndex := 385, descriptorIndex := 386, attributes := #[] }, { accessFlags := 26, nameIndex := 390, descriptorIndex := 391, attributes := #[] }, { accessFlags := 26, nameIndex := 392, descriptorIndex := 391, attributes := #[] }, { accessFlags := 26, nameIndex := 393, descriptorIndex := 394, attributes := #[] }, { accessFlags := 24, nameIndex := 98, descriptorIndex := 15, attributes := #[] }, { accessFlags := 26, nameIndex := 398, descriptorIndex := 386, attributes := #[] }, { accessFlags := 18, nameIndex := 18, descriptorIndex := 19, attributes := #[] }, { accessFlags := 18, nameIndex := 14, descriptorIndex := 15, attributes := #[] }])
  fields := #[{ name := "BENCHMARK_PREFIX", type := (.object "java/lang/String"), accessFlags := 25, slot := 0, constantValue := 0 }, { name := "NANOS_PER_SECOND", type := .double, accessFlags := 26, slot := 1, constantValue := 0 }, { name := "NANOS_PER_MILLISECOND", type := .double, accessFlags := 26, slot := 2, constantValue := 0 }, { name := "CALLS_PER_ROUND", type := .int, accessFlags := 26, slot := 3, constantValue := 0 }, { name := "PERCENTILES", type := (.object "java/util/List"), accessFlags := 24, slot := 4, constantValue := 0 }, { name := "INDENT", type := (.object "java/lang/String"), accessFlags := 26, slot := 5, constantValue := 0 }, { name := "provenance", type := (.object "com/example/bytegauge/bytegauge/stats/JsonTable$Provenance"), accessFlags := 18, slot := 0, constantValue := 0 }, { name := "rows", type := (.object "java/util/List"), accessFlags := 18, slot := 1, constantValue := 0 }]
  methods := #[k2m0]
  instanceTypes := #[(.object "com/example/bytegauge/bytegauge/stats/JsonTable$Provenance"), (.object "java/util/List")]
  staticTypes := #[(.object "java/lang/String"), .double, .double, .int, (.object "java/util/List"), (.object "java/lang/String")]
  resolved := Array.replicate 449 none
  statics := none }

def pool3 : Array CpInfo := pool [(1, u "java/lang/Cloneable"), (0, .class_ 1), (0, u "java/lang/Object"), (0, .class_ 3)] 3

/-- java/lang/Cloneable -/
def k3 : Class := { plain "java/lang/Cloneable" (some 0) with
  accessFlags := 1537
  interfaces := #[]
  cf := some (fileOf pool3 2 #[] #[] 1537 4 #[] #[])
  fields := #[]
  methods := #[]
  instanceTypes := #[]
  staticTypes := #[]
  resolved := Array.replicate 8 none
  statics := none }

def pool4 : Array CpInfo := pool [(1, u "java/io/Serializable"), (0, .class_ 1), (0, u "java/lang/Object"), (0, .class_ 3)] 3

/-- java/io/Serializable -/
def k4 : Class := { plain "java/io/Serializable" (some 0) with
  accessFlags := 1537
  interfaces := #[]
  cf := some (fileOf pool4 2 #[] #[] 1537 4 #[] #[])
  fields := #[]
  methods := #[]
  instanceTypes := #[]
  staticTypes := #[]
  resolved := Array.replicate 8 none
  statics := none }

/-- the primitive byte -/
def k5 : Class := { plain "byte" none with kind := .primitive 'B', accessFlags := 0x411 }
/-- [B -/
def k6 : Class := { plain "[B" (some 0) with kind := .array 5 .byte, interfaces := #[3, 4], accessFlags := 1041 }

/-- the primitive double -/
def k7 : Class := { plain "double" none with kind := .primitive 'D', accessFlags := 0x411 }
/-- [D -/
def k8 : Class := { plain "[D" (some 0) with kind := .array 7 .double, interfaces := #[3, 4], accessFlags := 1041 }

/-- the primitive int -/
def k9 : Class := { plain "int" none with kind := .primitive 'I', accessFlags := 0x411 }
/-- [I -/
def k10 : Class := { plain "[I" (some 0) with kind := .array 9 .int, interfaces := #[3, 4], accessFlags := 1041 }

/-- the primitive long -/
def k11 : Class := { plain "long" none with kind := .primitive 'J', accessFlags := 0x411 }
/-- [J -/
def k12 : Class := { plain "[J" (some 0) with kind := .array 11 .long, interfaces := #[3, 4], accessFlags := 1041 }

def heap : Heap := #[]
def classes : Array Class := #[k0, k1, k2, k3, k4, k5, k6, k7, k8, k9, k10, k11, k12]
def interned : List (Array UInt16 × Addr) := []
def slotsUsed : Nat := 0
def theMethod : MethodId := ⟨1, 1⟩
def args0 : Array Value := #[.int 1, .int 2, .int 3, .long 4]
def aboutOver (below : List Frame) : State where
  vm := { classes := classes, interned := interned.toArray }
  heap := heap
  slotsUsed := slotsUsed
  threads := #[{ frames := .invoking theMethod args0 :: below }]
def below0 : List Frame := [.native { method := ⟨0, 0⟩, args := #[] }]
def about1 : State := aboutOver below0
def p0 : Program := .bare "" "" ""
def e0 : Env := launch0.env 0 0 0
theorem w_frames : about1.frames = Frame.invoking theMethod args0 :: below0 := rfl
set_option maxRecDepth 65536 in
theorem w_args : argsFit about1.vm theMethod args0 = true := by decide +kernel
set_option maxRecDepth 65536 in
theorem w_heap : heapFits about1 = true := by decide +kernel
set_option maxRecDepth 65536 in
theorem w_runnable : about1.curStatus? = some .runnable := by decide +kernel
set_option maxRecDepth 65536 in
theorem w_alone : about1.alone = true := by decide +kernel
set_option maxRecDepth 65536 in
theorem w_named : about1.methodNamed? x = some theMethod := by decide +kernel
set_option maxRecDepth 65536 in
theorem w_hears : about1.hears theMethod below0 = true := by decide +kernel
set_option maxRecDepth 65536 in
theorem w_ripe : about1.ripe theMethod args0 below0 = true := by decide +kernel
theorem w_running : about1.status = .running := rfl
set_option maxRecDepth 65536 in
theorem w_room : about1.hasRoom e0.platform room_1 = true :=
  launch0.hasRoom_least _ room_1 (by decide +kernel) (by decide +kernel) (by decide +kernel) (by decide +kernel) (by decide +kernel) (by decide +kernel)
theorem allAtoms_all (ts : List Jvm.Cond) (a : Array Jvm.Value) (st : Jvm.State) : (allAtoms ts).before a st = ts.all (fun c => c.before a st) := by
  induction ts with
  | nil => rfl
  | cons c t ih =>
    show (Jvm.Cond.and c (allAtoms t)).before a st = _
    rw [Jvm.Cond.before_and, ih, List.all_cons]
def words1 : List Jvm.Cond := Jvm.Cond.code x code maxLocals ret :: tables_1
/-- a 'code' word, met by the world's own term for the bytes: nothing is compared byte by byte -/
theorem code_word {y : MethodName} {bytes : ByteArray} {mx : Nat} {rt : Option FieldType} {a : Array Value} {s : State} {m : MethodId} {meth : Method} {c : Code} (h1 : s.methodNamed? y = some m) (h2 : s.vm.method? m = some meth) (h3 : meth.code = some c) (h4 : c.code = bytes)
    (h5 : (c.maxLocals == mx && c.exceptionTable.isEmpty && decide (c.maxStack ≤ mostOperands) && decide (meth.sig.returnType = rt) && !meth.locks && decide (parseMethodDescriptor y.desc = some meth.sig)) = true) : (Jvm.Cond.code y bytes mx rt).before a s = true := by
  simp only [Bool.and_eq_true, beq_iff_eq, Bool.not_eq_true', decide_eq_true_eq] at h5
  obtain ⟨⟨⟨⟨⟨g1, g2⟩, g3⟩, g4⟩, g5⟩, g6⟩ := h5
  simp [Cond.before, Cond.holds, Cond.value, h1, h2, h3, h4, g1, g2, g3, g4, g5, g6]
def isCode : Jvm.Cond → Bool
  | .code _ _ _ _ => true
  | _ => false
theorem all_split {L : List Jvm.Cond} {P : Jvm.Cond → Bool} (h1 : L.all (fun c => isCode c || P c) = true) (h2 : ∀ c ∈ L.filter isCode, P c = true) : L.all P = true := by
  refine List.all_eq_true.mpr fun c hc => ?_
  have h := List.all_eq_true.mp h1 c hc
  rcases Bool.eq_false_or_eq_true (isCode c) with hi | hi
  · exact h2 c (List.mem_filter.mpr ⟨hc, hi⟩)
  · simpa [hi] using h
set_option maxRecDepth 65536 in
theorem w_c0 : (Jvm.Cond.code x code maxLocals ret).before args0 about1 = true := code_word (m := ⟨1, 1⟩) (meth := k1m1) (c := k1c1) (by decide +kernel) rfl rfl rfl (by decide +kernel)
set_option maxRecDepth 65536 in
theorem w_c1 : (Jvm.Cond.code ({ cls := "com/example/bytegauge/bytegauge/stats/JsonTablePercentilePinLaw", name := "sortedOf", desc := "(I[J)[D" } : Jvm.MethodName) method_3_code (2 : Nat) (Option.some (Jvm.ClassFile.FieldType.array Jvm.ClassFile.FieldType.double))).before args0 about1 = true := code_word (m := ⟨1, 2⟩) (meth := k1m2) (c := k1c2) (by decide +kernel) rfl rfl rfl (by decide +kernel)
set_option maxRecDepth 65536 in
theorem w_c2 : (Jvm.Cond.code ({ cls := "com/example/bytegauge/bytegauge/stats/JsonTable", name := "percentile", desc := "([DD)D" } : Jvm.MethodName) prog_53_method_6_code (11 : Nat) (Option.some Jvm.ClassFile.FieldType.double)).before args0 about1 = true := code_word (m := ⟨2, 0⟩) (meth := k2m0) (c := k2c0) (by decide +kernel) rfl rfl rfl (by decide +kernel)
def codes1 : List Jvm.Cond := [Jvm.Cond.code x code maxLocals ret, Jvm.Cond.code ({ cls := "com/example/bytegauge/bytegauge/stats/JsonTablePercentilePinLaw", name := "sortedOf", desc := "(I[J)[D" } : Jvm.MethodName) method_3_code (2 : Nat) (Option.some (Jvm.ClassFile.FieldType.array Jvm.ClassFile.FieldType.double)), Jvm.Cond.code ({ cls := "com/example/bytegauge/bytegauge/stats/JsonTable", name := "percentile", desc := "([DD)D" } : Jvm.MethodName) prog_53_method_6_code (11 : Nat) (Option.some Jvm.ClassFile.FieldType.double)]
set_option maxRecDepth 65536 in
theorem codes_eq : words1.filter isCode = codes1 := rfl
theorem w_codes : ∀ c ∈ words1.filter isCode, c.before args0 about1 = true := by
  rw [codes_eq]
  intro c hc
  simp only [codes1, List.mem_cons, List.not_mem_nil, or_false] at hc
  rcases hc with rfl | rfl | rfl
  · exact w_c0
  · exact w_c1
  · exact w_c2
set_option maxRecDepth 65536 in
theorem w_t1 : words1.all (fun c => isCode c || c.before args0 about1) = true := by decide +kernel
theorem w_tables : (allAtoms (Jvm.Cond.code x code maxLocals ret :: tables_1)).before args0 about1 = true := by
  rw [allAtoms_all]
  show words1.all (fun c => c.before args0 about1) = true
  refine all_split ?_ w_codes
  rw [w_t1]
set_option maxRecDepth 65536 in
theorem w_case : (Jvm.Cond.and given_1 narrow_1).before args0 about1 = true := by decide +kernel
theorem w_applies : (headSpec (Jvm.Cond.code x code maxLocals ret :: tables_1) room_1).applies x e0.platform about1 = true :=
  (Spec.applies_iff w_frames).mpr ⟨w_running, w_runnable, w_alone, w_named, w_hears, w_ripe, w_room, w_tables⟩
theorem atStart : AtStart classFile x code maxLocals ret World_1 tables_1 room_1 Calls_1 rest_1 Pre_1 launch0 p0 e0 about1 theMethod args0 below0 :=
  ⟨lists_1, trivial, launch0.admits_env _ _ _, launch0.least_env, fairChoices_fair.cas, fairChoices_fair.clock, w_frames, w_args, w_heap, w_applies, trivial, trivial, w_case⟩
end start1
theorem witness_1 : WitnessClaimed_1 := ⟨start1.p0, start1.e0, start1.about1, start1.theMethod, start1.args0, start1.below0, start1.atStart⟩
end Jvm.Pilot.@@N@@
