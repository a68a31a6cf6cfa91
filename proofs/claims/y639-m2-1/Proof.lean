import JvmDerived
import JvmDerived.Pilot.@@N@@Statement
import JvmDerived.Pilot.@@N@@Code
set_option linter.unusedVariables false
set_option linter.unusedSimpArgs false
@@BLOCK:NumsL.lean.txt@@
namespace Jvm.Pilot.@@N@@
open Jvm Jvm.ClassFile Sem Op Lib Jvm.Free Jvm.Stand Jvm.LawKit Jvm.RoadKit Bundle Jvm.Pilot.@@N@@.Jvm.D

section Own
open Jvm.FP Jvm.Free.Fl
theorem own_z : cmpValue (FP.dcmp 0 0) .l = 0 := by decide +kernel
theorem own_nz {j : Int32} (h : j ≠ 0) : Nz64 (FP.i2d j) := (nz64_iff _).mpr (Core.i2d_ne_zero h)
theorem own_dv (S : Int64) {j : Int32} (h : j ≠ 0) : NoNaN64 (FP.ddiv (FP.l2d S) (FP.i2d j)) := ddiv_out (l2d_fin S).noNaN (i2d_fin j) (own_nz h)
theorem own_big {j : Int32} (h : j ≠ 0) : Big64 1023 (FP.i2d j) := Core.i2d_big (fun q => h (Int32.toInt_inj.mp q))
theorem own_sum {sm : Int64} (h : B53 sm) (x : Int32) : FP.dadd (FP.l2d sm) (FP.i2d x) = FP.l2d (sm + x.toInt64) := by
  rw [i2d_w]
  have e := Jvm.Kit.i64_of_i32 x
  have h1 := Int32.toInt_lt x
  have h2 := Int32.le_toInt x
  exact dadd_w h (by unfold B53; rw [e]; omega)
def own_d (x : Int32) (rn : UInt64) : UInt64 := FP.dsub (FP.i2d x) rn
theorem own_facts (sm : Int64) (x c' : Int32) (rn sq : UInt64) (K : Nat) (hK : 1056 ≤ K) (hK2 : K ≤ 1200) (hr : Mag64 K rn) (hq : NoNaN64 sq) (hc : c' ≠ 0) :
    NoNaN64 (FP.dadd (FP.l2d sm) (FP.i2d x)) ∧ NoNaN64 (FP.dsub (FP.i2d x) rn) ∧ NoNaN64 (FP.ddiv (FP.dsub (FP.i2d x) rn) (FP.i2d c')) ∧
    NoNaN64 (FP.dadd rn (FP.ddiv (FP.dsub (FP.i2d x) rn) (FP.i2d c'))) ∧ NoNaN64 (FP.dsub (FP.i2d x) (FP.dadd rn (FP.ddiv (FP.dsub (FP.i2d x) rn) (FP.i2d c')))) ∧
    NoNaN64 (FP.dmul (FP.dsub (FP.i2d x) rn) (FP.dsub (FP.i2d x) (FP.dadd rn (FP.ddiv (FP.dsub (FP.i2d x) rn) (FP.i2d c'))))) ∧
    NoNaN64 (FP.dadd sq (FP.dmul (FP.dsub (FP.i2d x) rn) (FP.dsub (FP.i2d x) (FP.dadd rn (FP.ddiv (FP.dsub (FP.i2d x) rn) (FP.i2d c')))))) ∧
    Mag64 (K + 5) (FP.dadd rn (FP.ddiv (FP.dsub (FP.i2d x) rn) (FP.i2d c'))) := by
  have mx : Mag64 K (FP.i2d x) := (i2d_mag x).mono hK
  have md : Mag64 (K + 2) (FP.dsub (FP.i2d x) rn) := dsub_mag mx hr (by omega)
  have mq : Mag64 (K + 3) (FP.ddiv (FP.dsub (FP.i2d x) rn) (FP.i2d c')) := (Jvm.RoadKit.ddiv_mag md (own_big hc) (by omega) (by omega)).mono (by omega)
  have mr : Mag64 (K + 5) (FP.dadd rn (FP.ddiv (FP.dsub (FP.i2d x) rn) (FP.i2d c'))) := dadd_mag (hr.mono (by omega)) mq (by omega)
  have me : Mag64 (K + 7) (FP.dsub (FP.i2d x) (FP.dadd rn (FP.ddiv (FP.dsub (FP.i2d x) rn) (FP.i2d c')))) := dsub_mag (mx.mono (by omega)) mr (by omega)
  have mp := dmul_mag md me (by omega) (by omega)
  have fp := mp.fin (by omega)
  exact ⟨dadd_out (l2d_fin _).noNaN (i2d_fin _), (md.fin (by omega)).noNaN, (mq.fin (by omega)).noNaN, (mr.fin (by omega)).noNaN, (me.fin (by omega)).noNaN, fp.noNaN, dadd_out hq fp, mr⟩
theorem own_mag0 : Mag64 1056 0 := by unfold Mag64; decide
theorem own_nn0 : NoNaN64 0 := by unfold NoNaN64; decide
theorem own_B (K : Int) {s : Int64} (h : s.toInt.natAbs ≤ K) (hK : K < 9007199254740992) : B53 s := by unfold B53; omega
theorem own_abs (x : Int32) : x.toInt.natAbs ≤ 2147483648 := by have h1 := Int32.toInt_lt x; have h2 := Int32.le_toInt x; omega
theorem own_step {s : Int64} {K : Nat} (h : s.toInt.natAbs ≤ K) (hK : K < 2 ^ 60) (x : Int32) : (s + x.toInt64).toInt.natAbs ≤ K + 2147483648 := by
  have e := Jvm.Kit.i64_of_i32 x
  have hx := own_abs x
  rw [Jvm.Kit.i64_add (by rw [e]; omega) (by rw [e]; omega), e]; omega
theorem own_s0 : ((0 : Int64)).toInt.natAbs ≤ 0 := by decide
theorem own_five (k : Int32) : (k &&& (2147483647 : Int32)) % (5 : Int32) = 0 ∨ (k &&& (2147483647 : Int32)) % (5 : Int32) = 1 ∨ (k &&& (2147483647 : Int32)) % (5 : Int32) = 2 ∨ (k &&& (2147483647 : Int32)) % (5 : Int32) = 3 ∨ (k &&& (2147483647 : Int32)) % (5 : Int32) = 4 := by
  have h1 := Jvm.Kit.i32_mask k 2147483647 (k := 31) (by decide) (by decide)
  have h2 : 0 ≤ k.toInt % 2 ^ 31 := Int.emod_nonneg _ (by decide)
  have h3 := Jvm.Kit.i32_rem_nonneg (x := k &&& 2147483647) (y := 5) (by rw [h1]; exact h2)
  have e5 : ((5 : Int32)).toInt = 5 := by decide
  rw [e5] at h3
  have h4 : 0 ≤ (k &&& 2147483647).toInt % 5 := Int.emod_nonneg _ (by decide)
  have h5 : (k &&& 2147483647).toInt % 5 < 5 := Int.emod_lt_of_pos _ (by decide)
  rw [← h3] at h4 h5
  generalize (k &&& 2147483647) % 5 = y at *
  have e0 : ((0 : Int32)).toInt = 0 := by decide
  have e1 : ((1 : Int32)).toInt = 1 := by decide
  have e2 : ((2 : Int32)).toInt = 2 := by decide
  have e3 : ((3 : Int32)).toInt = 3 := by decide
  have e4 : ((4 : Int32)).toInt = 4 := by decide
  simp only [← Int32.toInt_inj, e0, e1, e2, e3, e4]
  omega
end Own

def QR (h0 : Heap) (n0 : Nat) (v : Option Value) (h : Heap) (L : List Loc) : Prop := (v = none ∧ Fr n0 L ∧ h = h0)
theorem d_prog_76_method_1_code_0 : decode prog_76_method_1_code 0 = .ok (.aload_n 0, 1) := by decide +kernel
theorem d_prog_76_method_1_code_1 : decode prog_76_method_1_code 1 = .ok (.invokespecial 1, 3) := by decide +kernel
theorem d_prog_76_method_1_code_4 : decode prog_76_method_1_code 4 = .ok (.return_, 1) := by decide +kernel
theorem pn_com_example_bytegauge_bytegauge_stats_Tally : plainName "com/example/bytegauge/bytegauge/stats/Tally" = true := by first | (simp [plainName, overriddenIn]; done) | decide +kernel
theorem ef_prog_76_method_1_code (m : MethodId) (x0 : Addr) : entryFrame m #[(.ref x0)] 1 = mkF m 0 #[.val (.ref x0)] [] := by first | (simp [entryFrame, mkF, argsToLocals, Value.category]; done) | rfl
set_option maxRecDepth 65536 in
set_option maxHeartbeats 40000000 in
theorem rmI (l : Launch) (Z : State) (a0 : Array Value) (hw : ∀ d ∈ tables_1, d.before a0 Z = true) (ws : List Jvm.Cond) (a1 : Addr) (h0 : Heap) (n0 : Nat) (Z0 : n0 ≤ h0.size)   :
    MetFree l (⟨"com/example/bytegauge/bytegauge/stats/Tally", "<init>", "()V"⟩ : MethodName) (head1 (Jvm.Cond.code (⟨"com/example/bytegauge/bytegauge/stats/Tally", "<init>", "()V"⟩ : MethodName) prog_76_method_1_code 1 none :: ws) ({ frames := 1, cells := 0, slots := 0, locals := 12 } : Room)) (fun a U => a = #[(.ref a1)] ∧ Z.Warmed39 U.vm ∧ U.heap = h0) (fun _ _ _ _ _ => True) (fun _ U o U' => ∃ v L, o = .returned v ∧ QR h0 n0 v U'.heap L ∧ FrameEnd U o U' L ({ frames := 1, cells := 0, slots := 0, locals := 12 } : Room).cells ({ frames := 1, cells := 0, slots := 0, locals := 12 } : Room).slots) := by
  refine MetFree.of_bodySF (plainFor_of_name pn_com_example_bytegauge_bytegauge_stats_Tally) hisR ?_
  intro p e s m args below meth c s₁ Bd hml0 hP hK
  obtain ⟨rfl, hZ, hh⟩ := hP
  have hx := Bd.exec
  have hby := Bd.bytes
  have hml : c.maxLocals = 1 := hml0
  have hown : s.vm.findClass "com/example/bytegauge/bytegauge/stats/Tally" = some m.cls := findClass_of_methodNamed Bd.named
  have hnm := (name_of_methodNamed Bd.named Bd.method).1
  have X0 : Stand p l e ({ frames := 1, cells := 0, slots := 0, locals := 12 } : Room) s m #[(.ref a1)] below meth c s₁ [] 0 0 := Stand.of_body Bd
  have e0 : s₁.heap = h0 := by rw [← hh, Bd.state]; rfl
  have N0 := Fr.nil n0
  have pre0 : ∀ t, Steps p.tables e below (s₁.setTop (mkF m 0 #[.val (.ref a1)] [])) t → Steps p.tables e below (s₁.setTop (entryFrame m #[(.ref a1)] 1)) t := fun t k => castTop (ef_prog_76_method_1_code m a1) k
  obtain ⟨T1, X1, e1, st1⟩ := initO X0 hx hZ hown (hw _ (List.mem_of_getElem? (i := 7) rfl)) (hw _ (List.mem_of_getElem? (i := 8) rfl)) (hw _ (List.mem_of_getElem? (i := 9) rfl)) e0 (g := (mkF m 1 #[.val (.ref a1)] [(.ref a1)])) rfl (by rw [hml]; rfl) rfl (hb hby d_prog_76_method_1_code_1) (by decide) (W := 0) (by show 2 * 0 + _ ≤ _; exact Nat.le_of_eq rfl) (by decide)
  obtain ⟨fs, hr, hrun, hended, hW, hsame⟩ := X1.leave (v := none) (fun _ => rfl)
  refine ⟨_, _, pre0 _ ?_, hrun, hended, _, _, rfl, ?_, ⟨_, rfl⟩, hW, hsame.mono (by decide) (by decide)⟩
  · show Steps p.tables e below (s₁.setTop (mkF m 0 #[.val (.ref a1)] [])) _
    refine XS.aloadN X0.here hx rfl (hb hby d_prog_76_method_1_code_0) rfl rfl ?_
    show Steps p.tables e below (s₁.setTop (mkF m 1 #[.val (.ref a1)] [(.ref a1)])) _
    refine st1 _ ?_
    show Steps p.tables e below (T1.setTop (mkF m 4 #[.val (.ref a1)] [])) _
    exact X1.returnOut hx Bd.returns (hb hby d_prog_76_method_1_code_4) hr
  · show QR h0 n0 _ T1.heap _
    rw [e1]
    exact ⟨rfl, N0, rfl⟩
def QA (Z : State) (a1 : Addr) (c' : Int32) (s' : Int64) (K : Nat) (h0 : Heap) (n0 : Nat) (v : Option Value) (h : Heap) (L : List Loc) : Prop := ∃ r q : UInt64, v = none ∧ Fr n0 L ∧ Keep h0 h [a1] ∧ Exa Z h a1 "com/example/bytegauge/bytegauge/stats/Tally" ∧ Fld Z h a1 "com/example/bytegauge/bytegauge/stats/Tally" "count" "I" (.int c') ∧ Fld Z h a1 "com/example/bytegauge/bytegauge/stats/Tally" "sum" "D" (.double (FP.l2d s')) ∧ Fld Z h a1 "com/example/bytegauge/bytegauge/stats/Tally" "running" "D" (.double r) ∧ Fld Z h a1 "com/example/bytegauge/bytegauge/stats/Tally" "squares" "D" (.double q) ∧ Jvm.Free.Fl.Mag64 K r ∧ Jvm.Free.Fl.NoNaN64 q
theorem d_prog_76_method_2_code_0 : decode prog_76_method_2_code 0 = .ok (.aload_n 0, 1) := by decide +kernel
theorem d_prog_76_method_2_code_1 : decode prog_76_method_2_code 1 = .ok (.getfield 7, 3) := by decide +kernel
theorem d_prog_76_method_2_code_4 : decode prog_76_method_2_code 4 = .ok (.ldc 15, 2) := by decide +kernel
theorem d_prog_76_method_2_code_6 : decode prog_76_method_2_code 6 = .ok (.if_icmp .ne 13, 3) := by decide +kernel
theorem d_prog_76_method_2_code_19 : decode prog_76_method_2_code 19 = .ok (.aload_n 0, 1) := by decide +kernel
theorem d_prog_76_method_2_code_20 : decode prog_76_method_2_code 20 = .ok (.dup, 1) := by decide +kernel
theorem d_prog_76_method_2_code_21 : decode prog_76_method_2_code 21 = .ok (.getfield 7, 3) := by decide +kernel
theorem d_prog_76_method_2_code_24 : decode prog_76_method_2_code 24 = .ok (.iconst 1, 1) := by decide +kernel
theorem d_prog_76_method_2_code_25 : decode prog_76_method_2_code 25 = .ok (.iadd, 1) := by decide +kernel
theorem d_prog_76_method_2_code_26 : decode prog_76_method_2_code 26 = .ok (.putfield 7, 3) := by decide +kernel
theorem d_prog_76_method_2_code_29 : decode prog_76_method_2_code 29 = .ok (.aload_n 0, 1) := by decide +kernel
theorem d_prog_76_method_2_code_30 : decode prog_76_method_2_code 30 = .ok (.dup, 1) := by decide +kernel
theorem d_prog_76_method_2_code_31 : decode prog_76_method_2_code 31 = .ok (.getfield 23, 3) := by decide +kernel
theorem d_prog_76_method_2_code_34 : decode prog_76_method_2_code 34 = .ok (.dload_n 1, 1) := by decide +kernel
theorem d_prog_76_method_2_code_35 : decode prog_76_method_2_code 35 = .ok (.dadd, 1) := by decide +kernel
theorem d_prog_76_method_2_code_36 : decode prog_76_method_2_code 36 = .ok (.putfield 23, 3) := by decide +kernel
theorem d_prog_76_method_2_code_39 : decode prog_76_method_2_code 39 = .ok (.dload_n 1, 1) := by decide +kernel
theorem d_prog_76_method_2_code_40 : decode prog_76_method_2_code 40 = .ok (.aload_n 0, 1) := by decide +kernel
theorem d_prog_76_method_2_code_41 : decode prog_76_method_2_code 41 = .ok (.getfield 27, 3) := by decide +kernel
theorem d_prog_76_method_2_code_44 : decode prog_76_method_2_code 44 = .ok (.dsub, 1) := by decide +kernel
theorem d_prog_76_method_2_code_45 : decode prog_76_method_2_code 45 = .ok (.dstore_n 3, 1) := by decide +kernel
theorem d_prog_76_method_2_code_46 : decode prog_76_method_2_code 46 = .ok (.aload_n 0, 1) := by decide +kernel
theorem d_prog_76_method_2_code_47 : decode prog_76_method_2_code 47 = .ok (.dup, 1) := by decide +kernel
theorem d_prog_76_method_2_code_48 : decode prog_76_method_2_code 48 = .ok (.getfield 27, 3) := by decide +kernel
theorem d_prog_76_method_2_code_51 : decode prog_76_method_2_code 51 = .ok (.dload_n 3, 1) := by decide +kernel
theorem d_prog_76_method_2_code_52 : decode prog_76_method_2_code 52 = .ok (.aload_n 0, 1) := by decide +kernel
theorem d_prog_76_method_2_code_53 : decode prog_76_method_2_code 53 = .ok (.getfield 7, 3) := by decide +kernel
theorem d_prog_76_method_2_code_56 : decode prog_76_method_2_code 56 = .ok (.i2d, 1) := by decide +kernel
theorem d_prog_76_method_2_code_57 : decode prog_76_method_2_code 57 = .ok (.ddiv, 1) := by decide +kernel
theorem d_prog_76_method_2_code_58 : decode prog_76_method_2_code 58 = .ok (.dadd, 1) := by decide +kernel
theorem d_prog_76_method_2_code_59 : decode prog_76_method_2_code 59 = .ok (.putfield 27, 3) := by decide +kernel
theorem d_prog_76_method_2_code_62 : decode prog_76_method_2_code 62 = .ok (.aload_n 0, 1) := by decide +kernel
theorem d_prog_76_method_2_code_63 : decode prog_76_method_2_code 63 = .ok (.dup, 1) := by decide +kernel
theorem d_prog_76_method_2_code_64 : decode prog_76_method_2_code 64 = .ok (.getfield 30, 3) := by decide +kernel
theorem d_prog_76_method_2_code_67 : decode prog_76_method_2_code 67 = .ok (.dload_n 3, 1) := by decide +kernel
theorem d_prog_76_method_2_code_68 : decode prog_76_method_2_code 68 = .ok (.dload_n 1, 1) := by decide +kernel
theorem d_prog_76_method_2_code_69 : decode prog_76_method_2_code 69 = .ok (.aload_n 0, 1) := by decide +kernel
theorem d_prog_76_method_2_code_70 : decode prog_76_method_2_code 70 = .ok (.getfield 27, 3) := by decide +kernel
theorem d_prog_76_method_2_code_73 : decode prog_76_method_2_code 73 = .ok (.dsub, 1) := by decide +kernel
theorem d_prog_76_method_2_code_74 : decode prog_76_method_2_code 74 = .ok (.dmul, 1) := by decide +kernel
theorem d_prog_76_method_2_code_75 : decode prog_76_method_2_code 75 = .ok (.dadd, 1) := by decide +kernel
theorem d_prog_76_method_2_code_76 : decode prog_76_method_2_code 76 = .ok (.putfield 30, 3) := by decide +kernel
theorem d_prog_76_method_2_code_79 : decode prog_76_method_2_code 79 = .ok (.return_, 1) := by decide +kernel
theorem ef_prog_76_method_2_code (m : MethodId) (x0 : Addr) (x1 : UInt64) : entryFrame m #[(.ref x0), (.double x1)] 5 = mkF m 0 #[.val (.ref x0), .val (.double x1), .second, .unset, .unset] [] := by first | (simp [entryFrame, mkF, argsToLocals, Value.category]; done) | rfl
set_option maxRecDepth 65536 in
set_option maxHeartbeats 40000000 in
theorem rmA (l : Launch) (Z : State) (a0 : Array Value) (hw : ∀ d ∈ tables_1, d.before a0 Z = true) (ws : List Jvm.Cond) (a1 : Addr) (x cnt c' : Int32) (sm : Int64) (rn sq : UInt64) (K : Nat) (h0 : Heap) (n0 : Nat) (Z0 : n0 ≤ h0.size) (E_a1 : Exa Z h0 a1 "com/example/bytegauge/bytegauge/stats/Tally") (F_count : Fld Z h0 a1 "com/example/bytegauge/bytegauge/stats/Tally" "count" "I" (.int cnt)) (F_sum : Fld Z h0 a1 "com/example/bytegauge/bytegauge/stats/Tally" "sum" "D" (.double (FP.l2d sm))) (F_running : Fld Z h0 a1 "com/example/bytegauge/bytegauge/stats/Tally" "running" "D" (.double rn)) (F_squares : Fld Z h0 a1 "com/example/bytegauge/bytegauge/stats/Tally" "squares" "D" (.double sq)) (g_a1 : n0 ≤ a1) (hmax : ¬ (cnt = (2147483647 : Int32))) (hc' : cnt + (1 : Int32) = c') (hc0 : c' ≠ 0) (hB : B53 sm) (hKl : 1056 ≤ K) (hKu : K ≤ 1200) (hMr : Jvm.Free.Fl.Mag64 K rn) (hNq : Jvm.Free.Fl.NoNaN64 sq)  :
    MetFree l (⟨"com/example/bytegauge/bytegauge/stats/Tally", "add", "(D)V"⟩ : MethodName) (head1 (Jvm.Cond.code (⟨"com/example/bytegauge/bytegauge/stats/Tally", "add", "(D)V"⟩ : MethodName) prog_76_method_2_code 5 none :: ws) ({ frames := 0, cells := 0, slots := 0, locals := 0 } : Room)) (fun a U => a = #[(.ref a1), (.double (FP.i2d x))] ∧ Z.Warmed39 U.vm ∧ U.heap = h0) (fun _ _ _ _ _ => True) (fun _ U o U' => ∃ v L, o = .returned v ∧ QA Z a1 c' (sm + x.toInt64) (K + 5) h0 n0 v U'.heap L ∧ FrameEnd U o U' L ({ frames := 0, cells := 0, slots := 0, locals := 0 } : Room).cells ({ frames := 0, cells := 0, slots := 0, locals := 0 } : Room).slots) := by
  refine MetFree.of_bodySF (plainFor_of_name pn_com_example_bytegauge_bytegauge_stats_Tally) hisR ?_
  intro p e s m args below meth c s₁ Bd hml0 hP hK
  obtain ⟨rfl, hZ, hh⟩ := hP
  have hx := Bd.exec
  have hby := Bd.bytes
  have hml : c.maxLocals = 5 := hml0
  have hown : s.vm.findClass "com/example/bytegauge/bytegauge/stats/Tally" = some m.cls := findClass_of_methodNamed Bd.named
  have hnm := (name_of_methodNamed Bd.named Bd.method).1
  have X0 : Stand p l e ({ frames := 0, cells := 0, slots := 0, locals := 0 } : Room) s m #[(.ref a1), (.double (FP.i2d x))] below meth c s₁ [] 0 0 := Stand.of_body Bd
  have e0 : s₁.heap = h0 := by rw [← hh, Bd.state]; rfl
  have N0 := Fr.nil n0
  have pre0 : ∀ t, Steps p.tables e below (s₁.setTop (mkF m 0 #[.val (.ref a1), .val (.double (FP.i2d x)), .second, .unset, .unset] [])) t → Steps p.tables e below (s₁.setTop (entryFrame m #[(.ref a1), (.double (FP.i2d x))] 5)) t := fun t k => castTop (ef_prog_76_method_2_code m a1 (FP.i2d x)) k
  have K0 := Keep.refl h0 [a1]
  obtain ⟨h35, h44, h57, h58, h73, h74, h75, hM⟩ := own_facts sm x c' rn sq K hKl hKu hMr hNq hc0
  obtain ⟨T1, X1, e1, st1⟩ := getF X0 hx hZ hown (host := "") (Or.inl (hw _ (List.mem_of_getElem? (i := 15) rfl))) Via.refl e0 F_count (g := (mkF m 1 #[.val (.ref a1), .val (.double (FP.i2d x)), .second, .unset, .unset] [(.ref a1)])) rfl rfl (hb hby d_prog_76_method_2_code_1)
  obtain ⟨T2, X2, e2, st2⟩ := getF X1 hx hZ hown (host := "") (Or.inl (hw _ (List.mem_of_getElem? (i := 15) rfl))) Via.refl e1 F_count (g := (mkF m 21 #[.val (.ref a1), .val (.double (FP.i2d x)), .second, .unset, .unset] [(.ref a1), (.ref a1)])) rfl rfl (hb hby d_prog_76_method_2_code_21)
  obtain ⟨T3, h3, X3, e3, W3, st3⟩ := putF X2 hx hZ hown (host := "") (Or.inl (hw _ (List.mem_of_getElem? (i := 15) rfl))) Via.refl e2 F_count E_a1 (Or.inl (hw _ (List.mem_of_getElem? (i := 16) rfl))) (hw _ (List.mem_of_getElem? (i := 2) rfl)) (ty := .int) (by decide) rfl rfl (g := (mkF m 26 #[.val (.ref a1), .val (.double (FP.i2d x)), .second, .unset, .unset] [(.int c'), (.ref a1)])) rfl rfl (hb hby d_prog_76_method_2_code_26)
  have c3_0 := E_a1.wr W3
  have c3_1 := F_count.same W3
  have c3_2 := F_sum.other W3 (Or.inr (slot_ne (Or.inl (hw _ (List.mem_of_getElem? (i := 24) rfl))) (Or.inl (hw _ (List.mem_of_getElem? (i := 16) rfl))) (by decide) (t := .double) (t' := .int) (by decide) (by decide)))
  have c3_3 := F_running.other W3 (Or.inr (slot_ne (Or.inl (hw _ (List.mem_of_getElem? (i := 26) rfl))) (Or.inl (hw _ (List.mem_of_getElem? (i := 16) rfl))) (by decide) (t := .double) (t' := .int) (by decide) (by decide)))
  have c3_4 := F_squares.other W3 (Or.inr (slot_ne (Or.inl (hw _ (List.mem_of_getElem? (i := 28) rfl))) (Or.inl (hw _ (List.mem_of_getElem? (i := 16) rfl))) (by decide) (t := .double) (t' := .int) (by decide) (by decide)))
  have SZ3 := Nat.le_trans Z0 (Keep.of_wr W3).1
  have K3 := K0.wr W3 (Or.inl (List.mem_of_getElem? (i := 0) rfl))
  have N3 := Fr.snoc X3 N0 g_a1
  obtain ⟨T4, X4, e4, st4⟩ := getF X3 hx hZ hown (host := "") (Or.inl (hw _ (List.mem_of_getElem? (i := 23) rfl))) Via.refl e3 c3_2 (g := (mkF m 31 #[.val (.ref a1), .val (.double (FP.i2d x)), .second, .unset, .unset] [(.ref a1), (.ref a1)])) rfl rfl (hb hby d_prog_76_method_2_code_31)
  obtain ⟨T5, h5, X5, e5, W5, st5⟩ := putF X4 hx hZ hown (host := "") (Or.inl (hw _ (List.mem_of_getElem? (i := 23) rfl))) Via.refl e4 c3_2 c3_0 (Or.inl (hw _ (List.mem_of_getElem? (i := 24) rfl))) (hw _ (List.mem_of_getElem? (i := 2) rfl)) (ty := .double) (by decide) rfl rfl (g := (mkF m 36 #[.val (.ref a1), .val (.double (FP.i2d x)), .second, .unset, .unset] [(.double (FP.l2d (sm + x.toInt64))), (.ref a1)])) rfl rfl (hb hby d_prog_76_method_2_code_36)
  have c5_0 := c3_0.wr W5
  have c5_1 := c3_1.other W5 (Or.inr (slot_ne (Or.inl (hw _ (List.mem_of_getElem? (i := 16) rfl))) (Or.inl (hw _ (List.mem_of_getElem? (i := 24) rfl))) (by decide) (t := .int) (t' := .double) (by decide) (by decide)))
  have c5_2 := c3_2.same W5
  have c5_3 := c3_3.other W5 (Or.inr (slot_ne (Or.inl (hw _ (List.mem_of_getElem? (i := 26) rfl))) (Or.inl (hw _ (List.mem_of_getElem? (i := 24) rfl))) (by decide) (t := .double) (t' := .double) (by decide) (by decide)))
  have c5_4 := c3_4.other W5 (Or.inr (slot_ne (Or.inl (hw _ (List.mem_of_getElem? (i := 28) rfl))) (Or.inl (hw _ (List.mem_of_getElem? (i := 24) rfl))) (by decide) (t := .double) (t' := .double) (by decide) (by decide)))
  have SZ5 := Nat.le_trans SZ3 (Keep.of_wr W5).1
  have K5 := K3.wr W5 (Or.inl (List.mem_of_getElem? (i := 0) rfl))
  have N5 := Fr.snoc X5 N3 g_a1
  obtain ⟨T6, X6, e6, st6⟩ := getF X5 hx hZ hown (host := "") (Or.inl (hw _ (List.mem_of_getElem? (i := 25) rfl))) Via.refl e5 c5_3 (g := (mkF m 41 #[.val (.ref a1), .val (.double (FP.i2d x)), .second, .unset, .unset] [(.ref a1), (.double (FP.i2d x))])) rfl rfl (hb hby d_prog_76_method_2_code_41)
  obtain ⟨T7, X7, e7, st7⟩ := getF X6 hx hZ hown (host := "") (Or.inl (hw _ (List.mem_of_getElem? (i := 25) rfl))) Via.refl e6 c5_3 (g := (mkF m 48 #[.val (.ref a1), .val (.double (FP.i2d x)), .second, .val (.double (FP.dsub (FP.i2d x) rn)), .second] [(.ref a1), (.ref a1)])) rfl rfl (hb hby d_prog_76_method_2_code_48)
  obtain ⟨T8, X8, e8, st8⟩ := getF X7 hx hZ hown (host := "") (Or.inl (hw _ (List.mem_of_getElem? (i := 15) rfl))) Via.refl e7 c5_1 (g := (mkF m 53 #[.val (.ref a1), .val (.double (FP.i2d x)), .second, .val (.double (FP.dsub (FP.i2d x) rn)), .second] [(.ref a1), (.double (FP.dsub (FP.i2d x) rn)), (.double rn), (.ref a1)])) rfl rfl (hb hby d_prog_76_method_2_code_53)
  obtain ⟨T9, h9, X9, e9, W9, st9⟩ := putF X8 hx hZ hown (host := "") (Or.inl (hw _ (List.mem_of_getElem? (i := 25) rfl))) Via.refl e8 c5_3 c5_0 (Or.inl (hw _ (List.mem_of_getElem? (i := 26) rfl))) (hw _ (List.mem_of_getElem? (i := 2) rfl)) (ty := .double) (by decide) rfl rfl (g := (mkF m 59 #[.val (.ref a1), .val (.double (FP.i2d x)), .second, .val (.double (FP.dsub (FP.i2d x) rn)), .second] [(.double (FP.dadd rn (FP.ddiv (FP.dsub (FP.i2d x) rn) (FP.i2d c')))), (.ref a1)])) rfl rfl (hb hby d_prog_76_method_2_code_59)
  have c9_0 := c5_0.wr W9
  have c9_1 := c5_1.other W9 (Or.inr (slot_ne (Or.inl (hw _ (List.mem_of_getElem? (i := 16) rfl))) (Or.inl (hw _ (List.mem_of_getElem? (i := 26) rfl))) (by decide) (t := .int) (t' := .double) (by decide) (by decide)))
  have c9_2 := c5_2.other W9 (Or.inr (slot_ne (Or.inl (hw _ (List.mem_of_getElem? (i := 24) rfl))) (Or.inl (hw _ (List.mem_of_getElem? (i := 26) rfl))) (by decide) (t := .double) (t' := .double) (by decide) (by decide)))
  have c9_3 := c5_3.same W9
  have c9_4 := c5_4.other W9 (Or.inr (slot_ne (Or.inl (hw _ (List.mem_of_getElem? (i := 28) rfl))) (Or.inl (hw _ (List.mem_of_getElem? (i := 26) rfl))) (by decide) (t := .double) (t' := .double) (by decide) (by decide)))
  have SZ9 := Nat.le_trans SZ5 (Keep.of_wr W9).1
  have K9 := K5.wr W9 (Or.inl (List.mem_of_getElem? (i := 0) rfl))
  have N9 := Fr.snoc X9 N5 g_a1
  obtain ⟨T10, X10, e10, st10⟩ := getF X9 hx hZ hown (host := "") (Or.inl (hw _ (List.mem_of_getElem? (i := 27) rfl))) Via.refl e9 c9_4 (g := (mkF m 64 #[.val (.ref a1), .val (.double (FP.i2d x)), .second, .val (.double (FP.dsub (FP.i2d x) rn)), .second] [(.ref a1), (.ref a1)])) rfl rfl (hb hby d_prog_76_method_2_code_64)
  obtain ⟨T11, X11, e11, st11⟩ := getF X10 hx hZ hown (host := "") (Or.inl (hw _ (List.mem_of_getElem? (i := 25) rfl))) Via.refl e10 c9_3 (g := (mkF m 70 #[.val (.ref a1), .val (.double (FP.i2d x)), .second, .val (.double (FP.dsub (FP.i2d x) rn)), .second] [(.ref a1), (.double (FP.i2d x)), (.double (FP.dsub (FP.i2d x) rn)), (.double sq), (.ref a1)])) rfl rfl (hb hby d_prog_76_method_2_code_70)
  obtain ⟨T12, h12, X12, e12, W12, st12⟩ := putF X11 hx hZ hown (host := "") (Or.inl (hw _ (List.mem_of_getElem? (i := 27) rfl))) Via.refl e11 c9_4 c9_0 (Or.inl (hw _ (List.mem_of_getElem? (i := 28) rfl))) (hw _ (List.mem_of_getElem? (i := 2) rfl)) (ty := .double) (by decide) rfl rfl (g := (mkF m 76 #[.val (.ref a1), .val (.double (FP.i2d x)), .second, .val (.double (FP.dsub (FP.i2d x) rn)), .second] [(.double (FP.dadd sq (FP.dmul (FP.dsub (FP.i2d x) rn) (FP.dsub (FP.i2d x) (FP.dadd rn (FP.ddiv (FP.dsub (FP.i2d x) rn) (FP.i2d c'))))))), (.ref a1)])) rfl rfl (hb hby d_prog_76_method_2_code_76)
  have c12_0 := c9_0.wr W12
  have c12_1 := c9_1.other W12 (Or.inr (slot_ne (Or.inl (hw _ (List.mem_of_getElem? (i := 16) rfl))) (Or.inl (hw _ (List.mem_of_getElem? (i := 28) rfl))) (by decide) (t := .int) (t' := .double) (by decide) (by decide)))
  have c12_2 := c9_2.other W12 (Or.inr (slot_ne (Or.inl (hw _ (List.mem_of_getElem? (i := 24) rfl))) (Or.inl (hw _ (List.mem_of_getElem? (i := 28) rfl))) (by decide) (t := .double) (t' := .double) (by decide) (by decide)))
  have c12_3 := c9_3.other W12 (Or.inr (slot_ne (Or.inl (hw _ (List.mem_of_getElem? (i := 26) rfl))) (Or.inl (hw _ (List.mem_of_getElem? (i := 28) rfl))) (by decide) (t := .double) (t' := .double) (by decide) (by decide)))
  have c12_4 := c9_4.same W12
  have SZ12 := Nat.le_trans SZ9 (Keep.of_wr W12).1
  have K12 := K9.wr W12 (Or.inl (List.mem_of_getElem? (i := 0) rfl))
  have N12 := Fr.snoc X12 N9 g_a1
  obtain ⟨fs, hr, hrun, hended, hW, hsame⟩ := X12.leave (v := none) (fun _ => rfl)
  refine ⟨_, _, pre0 _ ?_, hrun, hended, _, _, rfl, ?_, ⟨_, rfl⟩, hW, hsame.mono (by decide) (by decide)⟩
  · show Steps p.tables e below (s₁.setTop (mkF m 0 #[.val (.ref a1), .val (.double (FP.i2d x)), .second, .unset, .unset] [])) _
    refine XS.aloadN X0.here hx rfl (hb hby d_prog_76_method_2_code_0) rfl rfl ?_
    show Steps p.tables e below (s₁.setTop (mkF m 1 #[.val (.ref a1), .val (.double (FP.i2d x)), .second, .unset, .unset] [(.ref a1)])) _
    refine st1 _ ?_
    show Steps p.tables e below (T1.setTop (mkF m 4 #[.val (.ref a1), .val (.double (FP.i2d x)), .second, .unset, .unset] [(.int cnt)])) _
    refine X1.ldcInt hx hown (mvT hZ (hw _ (List.mem_of_getElem? (i := 22) rfl))) (g := (mkF m 4 #[.val (.ref a1), .val (.double (FP.i2d x)), .second, .unset, .unset] [(.int cnt)])) rfl (hb hby d_prog_76_method_2_code_4) _ ?_
    show Steps p.tables e below (T1.setTop (mkF m 6 #[.val (.ref a1), .val (.double (FP.i2d x)), .second, .unset, .unset] [(.int (2147483647 : Int32)), (.int cnt)])) _
    refine XS.icmpYes X1.here hx rfl (pc0 := 6) (pc' := 19) rfl (hb hby d_prog_76_method_2_code_6) rfl (feq (hmax : ¬ (cnt = (2147483647 : Int32)))).2 (by decide) (by decide) ?_
    show Steps p.tables e below (T1.setTop (mkF m 19 #[.val (.ref a1), .val (.double (FP.i2d x)), .second, .unset, .unset] [])) _
    refine XS.aloadN X1.here hx rfl (hb hby d_prog_76_method_2_code_19) rfl rfl ?_
    show Steps p.tables e below (T1.setTop (mkF m 20 #[.val (.ref a1), .val (.double (FP.i2d x)), .second, .unset, .unset] [(.ref a1)])) _
    refine XS.dup X1.here hx rfl (hb hby d_prog_76_method_2_code_20) rfl rfl ?_
    show Steps p.tables e below (T1.setTop (mkF m 21 #[.val (.ref a1), .val (.double (FP.i2d x)), .second, .unset, .unset] [(.ref a1), (.ref a1)])) _
    refine st2 _ ?_
    show Steps p.tables e below (T2.setTop (mkF m 24 #[.val (.ref a1), .val (.double (FP.i2d x)), .second, .unset, .unset] [(.int cnt), (.ref a1)])) _
    refine XS.iconst X2.here hx rfl (hb hby d_prog_76_method_2_code_24) ?_
    show Steps p.tables e below (T2.setTop (mkF m 25 #[.val (.ref a1), .val (.double (FP.i2d x)), .second, .unset, .unset] [(.int (1 : Int32)), (.int cnt), (.ref a1)])) _
    refine XS.iadd X2.here hx rfl (hb hby d_prog_76_method_2_code_25) rfl ?_
    show Steps p.tables e below (T2.setTop (mkF m 26 #[.val (.ref a1), .val (.double (FP.i2d x)), .second, .unset, .unset] [(.int (cnt + (1 : Int32))), (.ref a1)])) _
    rw [show (cnt + (1 : Int32)) = c' from hc']
    show Steps p.tables e below (T2.setTop (mkF m 26 #[.val (.ref a1), .val (.double (FP.i2d x)), .second, .unset, .unset] [(.int c'), (.ref a1)])) _
    refine st3 _ ?_
    show Steps p.tables e below (T3.setTop (mkF m 29 #[.val (.ref a1), .val (.double (FP.i2d x)), .second, .unset, .unset] [])) _
    refine XS.aloadN X3.here hx rfl (hb hby d_prog_76_method_2_code_29) rfl rfl ?_
    show Steps p.tables e below (T3.setTop (mkF m 30 #[.val (.ref a1), .val (.double (FP.i2d x)), .second, .unset, .unset] [(.ref a1)])) _
    refine XS.dup X3.here hx rfl (hb hby d_prog_76_method_2_code_30) rfl rfl ?_
    show Steps p.tables e below (T3.setTop (mkF m 31 #[.val (.ref a1), .val (.double (FP.i2d x)), .second, .unset, .unset] [(.ref a1), (.ref a1)])) _
    refine st4 _ ?_
    show Steps p.tables e below (T4.setTop (mkF m 34 #[.val (.ref a1), .val (.double (FP.i2d x)), .second, .unset, .unset] [(.double (FP.l2d sm)), (.ref a1)])) _
    refine XS.dloadN X4.here hx rfl (hb hby d_prog_76_method_2_code_34) rfl ?_
    show Steps p.tables e below (T4.setTop (mkF m 35 #[.val (.ref a1), .val (.double (FP.i2d x)), .second, .unset, .unset] [(.double (FP.i2d x)), (.double (FP.l2d sm)), (.ref a1)])) _
    refine XS.daddS X4.here hx rfl (hb hby d_prog_76_method_2_code_35) rfl h35 (v := (FP.l2d (sm + x.toInt64))) (own_sum hB x) ?_
    show Steps p.tables e below (T4.setTop (mkF m 36 #[.val (.ref a1), .val (.double (FP.i2d x)), .second, .unset, .unset] [(.double (FP.l2d (sm + x.toInt64))), (.ref a1)])) _
    refine st5 _ ?_
    show Steps p.tables e below (T5.setTop (mkF m 39 #[.val (.ref a1), .val (.double (FP.i2d x)), .second, .unset, .unset] [])) _
    refine XS.dloadN X5.here hx rfl (hb hby d_prog_76_method_2_code_39) rfl ?_
    show Steps p.tables e below (T5.setTop (mkF m 40 #[.val (.ref a1), .val (.double (FP.i2d x)), .second, .unset, .unset] [(.double (FP.i2d x))])) _
    refine XS.aloadN X5.here hx rfl (hb hby d_prog_76_method_2_code_40) rfl rfl ?_
    show Steps p.tables e below (T5.setTop (mkF m 41 #[.val (.ref a1), .val (.double (FP.i2d x)), .second, .unset, .unset] [(.ref a1), (.double (FP.i2d x))])) _
    refine st6 _ ?_
    show Steps p.tables e below (T6.setTop (mkF m 44 #[.val (.ref a1), .val (.double (FP.i2d x)), .second, .unset, .unset] [(.double rn), (.double (FP.i2d x))])) _
    refine XS.dsubS X6.here hx rfl (hb hby d_prog_76_method_2_code_44) rfl h44 (v := (FP.dsub (FP.i2d x) rn)) rfl ?_
    show Steps p.tables e below (T6.setTop (mkF m 45 #[.val (.ref a1), .val (.double (FP.i2d x)), .second, .unset, .unset] [(.double (FP.dsub (FP.i2d x) rn))])) _
    refine XS.dstoreN X6.here hx rfl (hb hby d_prog_76_method_2_code_45) rfl (l' := #[.val (.ref a1), .val (.double (FP.i2d x)), .second, .val (.double (FP.dsub (FP.i2d x) rn)), .second]) rfl ?_
    show Steps p.tables e below (T6.setTop (mkF m 46 #[.val (.ref a1), .val (.double (FP.i2d x)), .second, .val (.double (FP.dsub (FP.i2d x) rn)), .second] [])) _
    refine XS.aloadN X6.here hx rfl (hb hby d_prog_76_method_2_code_46) rfl rfl ?_
    show Steps p.tables e below (T6.setTop (mkF m 47 #[.val (.ref a1), .val (.double (FP.i2d x)), .second, .val (.double (FP.dsub (FP.i2d x) rn)), .second] [(.ref a1)])) _
    refine XS.dup X6.here hx rfl (hb hby d_prog_76_method_2_code_47) rfl rfl ?_
    show Steps p.tables e below (T6.setTop (mkF m 48 #[.val (.ref a1), .val (.double (FP.i2d x)), .second, .val (.double (FP.dsub (FP.i2d x) rn)), .second] [(.ref a1), (.ref a1)])) _
    refine st7 _ ?_
    show Steps p.tables e below (T7.setTop (mkF m 51 #[.val (.ref a1), .val (.double (FP.i2d x)), .second, .val (.double (FP.dsub (FP.i2d x) rn)), .second] [(.double rn), (.ref a1)])) _
    refine XS.dloadN X7.here hx rfl (hb hby d_prog_76_method_2_code_51) rfl ?_
    show Steps p.tables e below (T7.setTop (mkF m 52 #[.val (.ref a1), .val (.double (FP.i2d x)), .second, .val (.double (FP.dsub (FP.i2d x) rn)), .second] [(.double (FP.dsub (FP.i2d x) rn)), (.double rn), (.ref a1)])) _
    refine XS.aloadN X7.here hx rfl (hb hby d_prog_76_method_2_code_52) rfl rfl ?_
    show Steps p.tables e below (T7.setTop (mkF m 53 #[.val (.ref a1), .val (.double (FP.i2d x)), .second, .val (.double (FP.dsub (FP.i2d x) rn)), .second] [(.ref a1), (.double (FP.dsub (FP.i2d x) rn)), (.double rn), (.ref a1)])) _
    refine st8 _ ?_
    show Steps p.tables e below (T8.setTop (mkF m 56 #[.val (.ref a1), .val (.double (FP.i2d x)), .second, .val (.double (FP.dsub (FP.i2d x) rn)), .second] [(.int c'), (.double (FP.dsub (FP.i2d x) rn)), (.double rn), (.ref a1)])) _
    refine XS.i2dS X8.here hx rfl (hb hby d_prog_76_method_2_code_56) rfl (v := (FP.i2d c')) rfl ?_
    show Steps p.tables e below (T8.setTop (mkF m 57 #[.val (.ref a1), .val (.double (FP.i2d x)), .second, .val (.double (FP.dsub (FP.i2d x) rn)), .second] [(.double (FP.i2d c')), (.double (FP.dsub (FP.i2d x) rn)), (.double rn), (.ref a1)])) _
    refine XS.ddivS X8.here hx rfl (hb hby d_prog_76_method_2_code_57) rfl h57 (v := (FP.ddiv (FP.dsub (FP.i2d x) rn) (FP.i2d c'))) rfl ?_
    show Steps p.tables e below (T8.setTop (mkF m 58 #[.val (.ref a1), .val (.double (FP.i2d x)), .second, .val (.double (FP.dsub (FP.i2d x) rn)), .second] [(.double (FP.ddiv (FP.dsub (FP.i2d x) rn) (FP.i2d c'))), (.double rn), (.ref a1)])) _
    refine XS.daddS X8.here hx rfl (hb hby d_prog_76_method_2_code_58) rfl h58 (v := (FP.dadd rn (FP.ddiv (FP.dsub (FP.i2d x) rn) (FP.i2d c')))) rfl ?_
    show Steps p.tables e below (T8.setTop (mkF m 59 #[.val (.ref a1), .val (.double (FP.i2d x)), .second, .val (.double (FP.dsub (FP.i2d x) rn)), .second] [(.double (FP.dadd rn (FP.ddiv (FP.dsub (FP.i2d x) rn) (FP.i2d c')))), (.ref a1)])) _
    refine st9 _ ?_
    show Steps p.tables e below (T9.setTop (mkF m 62 #[.val (.ref a1), .val (.double (FP.i2d x)), .second, .val (.double (FP.dsub (FP.i2d x) rn)), .second] [])) _
    refine XS.aloadN X9.here hx rfl (hb hby d_prog_76_method_2_code_62) rfl rfl ?_
    show Steps p.tables e below (T9.setTop (mkF m 63 #[.val (.ref a1), .val (.double (FP.i2d x)), .second, .val (.double (FP.dsub (FP.i2d x) rn)), .second] [(.ref a1)])) _
    refine XS.dup X9.here hx rfl (hb hby d_prog_76_method_2_code_63) rfl rfl ?_
    show Steps p.tables e below (T9.setTop (mkF m 64 #[.val (.ref a1), .val (.double (FP.i2d x)), .second, .val (.double (FP.dsub (FP.i2d x) rn)), .second] [(.ref a1), (.ref a1)])) _
    refine st10 _ ?_
    show Steps p.tables e below (T10.setTop (mkF m 67 #[.val (.ref a1), .val (.double (FP.i2d x)), .second, .val (.double (FP.dsub (FP.i2d x) rn)), .second] [(.double sq), (.ref a1)])) _
    refine XS.dloadN X10.here hx rfl (hb hby d_prog_76_method_2_code_67) rfl ?_
    show Steps p.tables e below (T10.setTop (mkF m 68 #[.val (.ref a1), .val (.double (FP.i2d x)), .second, .val (.double (FP.dsub (FP.i2d x) rn)), .second] [(.double (FP.dsub (FP.i2d x) rn)), (.double sq), (.ref a1)])) _
    refine XS.dloadN X10.here hx rfl (hb hby d_prog_76_method_2_code_68) rfl ?_
    show Steps p.tables e below (T10.setTop (mkF m 69 #[.val (.ref a1), .val (.double (FP.i2d x)), .second, .val (.double (FP.dsub (FP.i2d x) rn)), .second] [(.double (FP.i2d x)), (.double (FP.dsub (FP.i2d x) rn)), (.double sq), (.ref a1)])) _
    refine XS.aloadN X10.here hx rfl (hb hby d_prog_76_method_2_code_69) rfl rfl ?_
    show Steps p.tables e below (T10.setTop (mkF m 70 #[.val (.ref a1), .val (.double (FP.i2d x)), .second, .val (.double (FP.dsub (FP.i2d x) rn)), .second] [(.ref a1), (.double (FP.i2d x)), (.double (FP.dsub (FP.i2d x) rn)), (.double sq), (.ref a1)])) _
    refine st11 _ ?_
    show Steps p.tables e below (T11.setTop (mkF m 73 #[.val (.ref a1), .val (.double (FP.i2d x)), .second, .val (.double (FP.dsub (FP.i2d x) rn)), .second] [(.double (FP.dadd rn (FP.ddiv (FP.dsub (FP.i2d x) rn) (FP.i2d c')))), (.double (FP.i2d x)), (.double (FP.dsub (FP.i2d x) rn)), (.double sq), (.ref a1)])) _
    refine XS.dsubS X11.here hx rfl (hb hby d_prog_76_method_2_code_73) rfl h73 (v := (FP.dsub (FP.i2d x) (FP.dadd rn (FP.ddiv (FP.dsub (FP.i2d x) rn) (FP.i2d c'))))) rfl ?_
    show Steps p.tables e below (T11.setTop (mkF m 74 #[.val (.ref a1), .val (.double (FP.i2d x)), .second, .val (.double (FP.dsub (FP.i2d x) rn)), .second] [(.double (FP.dsub (FP.i2d x) (FP.dadd rn (FP.ddiv (FP.dsub (FP.i2d x) rn) (FP.i2d c'))))), (.double (FP.dsub (FP.i2d x) rn)), (.double sq), (.ref a1)])) _
    refine XS.dmulS X11.here hx rfl (hb hby d_prog_76_method_2_code_74) rfl h74 (v := (FP.dmul (FP.dsub (FP.i2d x) rn) (FP.dsub (FP.i2d x) (FP.dadd rn (FP.ddiv (FP.dsub (FP.i2d x) rn) (FP.i2d c')))))) rfl ?_
    show Steps p.tables e below (T11.setTop (mkF m 75 #[.val (.ref a1), .val (.double (FP.i2d x)), .second, .val (.double (FP.dsub (FP.i2d x) rn)), .second] [(.double (FP.dmul (FP.dsub (FP.i2d x) rn) (FP.dsub (FP.i2d x) (FP.dadd rn (FP.ddiv (FP.dsub (FP.i2d x) rn) (FP.i2d c')))))), (.double sq), (.ref a1)])) _
    refine XS.daddS X11.here hx rfl (hb hby d_prog_76_method_2_code_75) rfl h75 (v := (FP.dadd sq (FP.dmul (FP.dsub (FP.i2d x) rn) (FP.dsub (FP.i2d x) (FP.dadd rn (FP.ddiv (FP.dsub (FP.i2d x) rn) (FP.i2d c'))))))) rfl ?_
    show Steps p.tables e below (T11.setTop (mkF m 76 #[.val (.ref a1), .val (.double (FP.i2d x)), .second, .val (.double (FP.dsub (FP.i2d x) rn)), .second] [(.double (FP.dadd sq (FP.dmul (FP.dsub (FP.i2d x) rn) (FP.dsub (FP.i2d x) (FP.dadd rn (FP.ddiv (FP.dsub (FP.i2d x) rn) (FP.i2d c'))))))), (.ref a1)])) _
    refine st12 _ ?_
    show Steps p.tables e below (T12.setTop (mkF m 79 #[.val (.ref a1), .val (.double (FP.i2d x)), .second, .val (.double (FP.dsub (FP.i2d x) rn)), .second] [])) _
    exact X12.returnOut hx Bd.returns (hb hby d_prog_76_method_2_code_79) hr
  · show QA Z a1 c' (sm + x.toInt64) (K + 5) h0 n0 _ T12.heap _
    rw [e12]
    exact ⟨_, _, rfl, N12, K12, c12_0, c12_1, c12_2, c12_3, c12_4, hM, h75⟩
def QD (r : UInt64) (h0 : Heap) (n0 : Nat) (v : Option Value) (h : Heap) (L : List Loc) : Prop := (v = some (.double r) ∧ Fr n0 L ∧ h = h0)
theorem d_prog_76_method_4_code_0 : decode prog_76_method_4_code 0 = .ok (.aload_n 0, 1) := by decide +kernel
theorem d_prog_76_method_4_code_1 : decode prog_76_method_4_code 1 = .ok (.getfield 7, 3) := by decide +kernel
theorem d_prog_76_method_4_code_4 : decode prog_76_method_4_code 4 = .ok (.ifCond .ne 7, 3) := by decide +kernel
theorem d_prog_76_method_4_code_7 : decode prog_76_method_4_code 7 = .ok (.dconst 0, 1) := by decide +kernel
theorem d_prog_76_method_4_code_8 : decode prog_76_method_4_code 8 = .ok (.goto 13, 3) := by decide +kernel
theorem d_prog_76_method_4_code_21 : decode prog_76_method_4_code 21 = .ok (.dreturn, 1) := by decide +kernel
theorem ef_prog_76_method_4_code (m : MethodId) (x0 : Addr) : entryFrame m #[(.ref x0)] 1 = mkF m 0 #[.val (.ref x0)] [] := by first | (simp [entryFrame, mkF, argsToLocals, Value.category]; done) | rfl
set_option maxRecDepth 65536 in
set_option maxHeartbeats 40000000 in
theorem rmM0 (l : Launch) (Z : State) (a0 : Array Value) (hw : ∀ d ∈ tables_1, d.before a0 Z = true) (ws : List Jvm.Cond) (a1 : Addr) (h0 : Heap) (n0 : Nat) (Z0 : n0 ≤ h0.size) (F_count : Fld Z h0 a1 "com/example/bytegauge/bytegauge/stats/Tally" "count" "I" (.int (0 : Int32)))  :
    MetFree l (⟨"com/example/bytegauge/bytegauge/stats/Tally", "mean", "()D"⟩ : MethodName) (head1 (Jvm.Cond.code (⟨"com/example/bytegauge/bytegauge/stats/Tally", "mean", "()D"⟩ : MethodName) prog_76_method_4_code 1 (some .double) :: ws) ({ frames := 0, cells := 0, slots := 0, locals := 0 } : Room)) (fun a U => a = #[(.ref a1)] ∧ Z.Warmed39 U.vm ∧ U.heap = h0) (fun _ _ _ _ _ => True) (fun _ U o U' => ∃ v L, o = .returned v ∧ QD 0 h0 n0 v U'.heap L ∧ FrameEnd U o U' L ({ frames := 0, cells := 0, slots := 0, locals := 0 } : Room).cells ({ frames := 0, cells := 0, slots := 0, locals := 0 } : Room).slots) := by
  refine MetFree.of_bodySF (plainFor_of_name pn_com_example_bytegauge_bytegauge_stats_Tally) hisR ?_
  intro p e s m args below meth c s₁ Bd hml0 hP hK
  obtain ⟨rfl, hZ, hh⟩ := hP
  have hx := Bd.exec
  have hby := Bd.bytes
  have hml : c.maxLocals = 1 := hml0
  have hown : s.vm.findClass "com/example/bytegauge/bytegauge/stats/Tally" = some m.cls := findClass_of_methodNamed Bd.named
  have hnm := (name_of_methodNamed Bd.named Bd.method).1
  have X0 : Stand p l e ({ frames := 0, cells := 0, slots := 0, locals := 0 } : Room) s m #[(.ref a1)] below meth c s₁ [] 0 0 := Stand.of_body Bd
  have e0 : s₁.heap = h0 := by rw [← hh, Bd.state]; rfl
  have N0 := Fr.nil n0
  have pre0 : ∀ t, Steps p.tables e below (s₁.setTop (mkF m 0 #[.val (.ref a1)] [])) t → Steps p.tables e below (s₁.setTop (entryFrame m #[(.ref a1)] 1)) t := fun t k => castTop (ef_prog_76_method_4_code m a1) k
  obtain ⟨T1, X1, e1, st1⟩ := getF X0 hx hZ hown (host := "") (Or.inl (hw _ (List.mem_of_getElem? (i := 15) rfl))) Via.refl e0 F_count (g := (mkF m 1 #[.val (.ref a1)] [(.ref a1)])) rfl rfl (hb hby d_prog_76_method_4_code_1)
  obtain ⟨fs, hr, hrun, hended, hW, hsame⟩ := X1.leave (v := some (.double (0 : UInt64))) (fun h => by rw [Bd.returns] at h; cases h)
  refine ⟨_, _, pre0 _ ?_, hrun, hended, _, _, rfl, ?_, ⟨_, rfl⟩, hW, hsame.mono (by decide) (by decide)⟩
  · show Steps p.tables e below (s₁.setTop (mkF m 0 #[.val (.ref a1)] [])) _
    refine XS.aloadN X0.here hx rfl (hb hby d_prog_76_method_4_code_0) rfl rfl ?_
    show Steps p.tables e below (s₁.setTop (mkF m 1 #[.val (.ref a1)] [(.ref a1)])) _
    refine st1 _ ?_
    show Steps p.tables e below (T1.setTop (mkF m 4 #[.val (.ref a1)] [(.int (0 : Int32))])) _
    refine XS.ifNo X1.here hx rfl (hb hby d_prog_76_method_4_code_4) rfl ((if0 _ _).trans (teq (by decide : (0 : Int32) = (0 : Int32))).2) ?_
    show Steps p.tables e below (T1.setTop (mkF m 7 #[.val (.ref a1)] [])) _
    refine XS.dconst0 X1.here hx rfl (hb hby d_prog_76_method_4_code_7) (v := (0 : UInt64)) rfl ?_
    show Steps p.tables e below (T1.setTop (mkF m 8 #[.val (.ref a1)] [(.double (0 : UInt64))])) _
    refine XS.goto X1.here hx rfl (pc0 := 8) (pc' := 21) rfl (hb hby d_prog_76_method_4_code_8) (by decide) (by decide) ?_
    show Steps p.tables e below (T1.setTop (mkF m 21 #[.val (.ref a1)] [(.double (0 : UInt64))])) _
    exact retOut X1 hx (t := .double) Bd.returns rfl (Or.inr (Or.inr (Or.inl ⟨rfl, rfl, _, rfl⟩))) (hb hby d_prog_76_method_4_code_21) hr
  · show QD 0 h0 n0 _ T1.heap _
    rw [e1]
    exact ⟨rfl, N0, rfl⟩
theorem d_prog_76_method_4_code_11 : decode prog_76_method_4_code 11 = .ok (.aload_n 0, 1) := by decide +kernel
theorem d_prog_76_method_4_code_12 : decode prog_76_method_4_code 12 = .ok (.getfield 23, 3) := by decide +kernel
theorem d_prog_76_method_4_code_15 : decode prog_76_method_4_code 15 = .ok (.aload_n 0, 1) := by decide +kernel
theorem d_prog_76_method_4_code_16 : decode prog_76_method_4_code 16 = .ok (.getfield 7, 3) := by decide +kernel
theorem d_prog_76_method_4_code_19 : decode prog_76_method_4_code 19 = .ok (.i2d, 1) := by decide +kernel
theorem d_prog_76_method_4_code_20 : decode prog_76_method_4_code 20 = .ok (.ddiv, 1) := by decide +kernel
set_option maxRecDepth 65536 in
set_option maxHeartbeats 40000000 in
theorem rmM1 (l : Launch) (Z : State) (a0 : Array Value) (hw : ∀ d ∈ tables_1, d.before a0 Z = true) (ws : List Jvm.Cond) (a1 : Addr) (cnt : Int32) (sm : Int64) (h0 : Heap) (n0 : Nat) (Z0 : n0 ≤ h0.size) (F_count : Fld Z h0 a1 "com/example/bytegauge/bytegauge/stats/Tally" "count" "I" (.int cnt)) (F_sum : Fld Z h0 a1 "com/example/bytegauge/bytegauge/stats/Tally" "sum" "D" (.double (FP.l2d sm))) (hc0 : ¬ (cnt = (0 : Int32)))  :
    MetFree l (⟨"com/example/bytegauge/bytegauge/stats/Tally", "mean", "()D"⟩ : MethodName) (head1 (Jvm.Cond.code (⟨"com/example/bytegauge/bytegauge/stats/Tally", "mean", "()D"⟩ : MethodName) prog_76_method_4_code 1 (some .double) :: ws) ({ frames := 0, cells := 0, slots := 0, locals := 0 } : Room)) (fun a U => a = #[(.ref a1)] ∧ Z.Warmed39 U.vm ∧ U.heap = h0) (fun _ _ _ _ _ => True) (fun _ U o U' => ∃ v L, o = .returned v ∧ QD (FP.ddiv (FP.l2d sm) (FP.i2d cnt)) h0 n0 v U'.heap L ∧ FrameEnd U o U' L ({ frames := 0, cells := 0, slots := 0, locals := 0 } : Room).cells ({ frames := 0, cells := 0, slots := 0, locals := 0 } : Room).slots) := by
  refine MetFree.of_bodySF (plainFor_of_name pn_com_example_bytegauge_bytegauge_stats_Tally) hisR ?_
  intro p e s m args below meth c s₁ Bd hml0 hP hK
  obtain ⟨rfl, hZ, hh⟩ := hP
  have hx := Bd.exec
  have hby := Bd.bytes
  have hml : c.maxLocals = 1 := hml0
  have hown : s.vm.findClass "com/example/bytegauge/bytegauge/stats/Tally" = some m.cls := findClass_of_methodNamed Bd.named
  have hnm := (name_of_methodNamed Bd.named Bd.method).1
  have X0 : Stand p l e ({ frames := 0, cells := 0, slots := 0, locals := 0 } : Room) s m #[(.ref a1)] below meth c s₁ [] 0 0 := Stand.of_body Bd
  have e0 : s₁.heap = h0 := by rw [← hh, Bd.state]; rfl
  have N0 := Fr.nil n0
  have pre0 : ∀ t, Steps p.tables e below (s₁.setTop (mkF m 0 #[.val (.ref a1)] [])) t → Steps p.tables e below (s₁.setTop (entryFrame m #[(.ref a1)] 1)) t := fun t k => castTop (ef_prog_76_method_4_code m a1) k
  obtain ⟨T1, X1, e1, st1⟩ := getF X0 hx hZ hown (host := "") (Or.inl (hw _ (List.mem_of_getElem? (i := 15) rfl))) Via.refl e0 F_count (g := (mkF m 1 #[.val (.ref a1)] [(.ref a1)])) rfl rfl (hb hby d_prog_76_method_4_code_1)
  obtain ⟨T2, X2, e2, st2⟩ := getF X1 hx hZ hown (host := "") (Or.inl (hw _ (List.mem_of_getElem? (i := 23) rfl))) Via.refl e1 F_sum (g := (mkF m 12 #[.val (.ref a1)] [(.ref a1)])) rfl rfl (hb hby d_prog_76_method_4_code_12)
  obtain ⟨T3, X3, e3, st3⟩ := getF X2 hx hZ hown (host := "") (Or.inl (hw _ (List.mem_of_getElem? (i := 15) rfl))) Via.refl e2 F_count (g := (mkF m 16 #[.val (.ref a1)] [(.ref a1), (.double (FP.l2d sm))])) rfl rfl (hb hby d_prog_76_method_4_code_16)
  obtain ⟨fs, hr, hrun, hended, hW, hsame⟩ := X3.leave (v := some (.double (FP.ddiv (FP.l2d sm) (FP.i2d cnt)))) (fun h => by rw [Bd.returns] at h; cases h)
  refine ⟨_, _, pre0 _ ?_, hrun, hended, _, _, rfl, ?_, ⟨_, rfl⟩, hW, hsame.mono (by decide) (by decide)⟩
  · show Steps p.tables e below (s₁.setTop (mkF m 0 #[.val (.ref a1)] [])) _
    refine XS.aloadN X0.here hx rfl (hb hby d_prog_76_method_4_code_0) rfl rfl ?_
    show Steps p.tables e below (s₁.setTop (mkF m 1 #[.val (.ref a1)] [(.ref a1)])) _
    refine st1 _ ?_
    show Steps p.tables e below (T1.setTop (mkF m 4 #[.val (.ref a1)] [(.int cnt)])) _
    refine XS.ifYes X1.here hx rfl (pc0 := 4) (pc' := 11) rfl (hb hby d_prog_76_method_4_code_4) rfl ((if0 _ _).trans (feq (hc0 : ¬ (cnt = (0 : Int32)))).2) (by decide) (by decide) ?_
    show Steps p.tables e below (T1.setTop (mkF m 11 #[.val (.ref a1)] [])) _
    refine XS.aloadN X1.here hx rfl (hb hby d_prog_76_method_4_code_11) rfl rfl ?_
    show Steps p.tables e below (T1.setTop (mkF m 12 #[.val (.ref a1)] [(.ref a1)])) _
    refine st2 _ ?_
    show Steps p.tables e below (T2.setTop (mkF m 15 #[.val (.ref a1)] [(.double (FP.l2d sm))])) _
    refine XS.aloadN X2.here hx rfl (hb hby d_prog_76_method_4_code_15) rfl rfl ?_
    show Steps p.tables e below (T2.setTop (mkF m 16 #[.val (.ref a1)] [(.ref a1), (.double (FP.l2d sm))])) _
    refine st3 _ ?_
    show Steps p.tables e below (T3.setTop (mkF m 19 #[.val (.ref a1)] [(.int cnt), (.double (FP.l2d sm))])) _
    refine XS.i2dS X3.here hx rfl (hb hby d_prog_76_method_4_code_19) rfl (v := (FP.i2d cnt)) rfl ?_
    show Steps p.tables e below (T3.setTop (mkF m 20 #[.val (.ref a1)] [(.double (FP.i2d cnt)), (.double (FP.l2d sm))])) _
    refine XS.ddivS X3.here hx rfl (hb hby d_prog_76_method_4_code_20) rfl (own_dv sm hc0) (v := (FP.ddiv (FP.l2d sm) (FP.i2d cnt))) rfl ?_
    show Steps p.tables e below (T3.setTop (mkF m 21 #[.val (.ref a1)] [(.double (FP.ddiv (FP.l2d sm) (FP.i2d cnt)))])) _
    exact retOut X3 hx (t := .double) Bd.returns rfl (Or.inr (Or.inr (Or.inl ⟨rfl, rfl, _, rfl⟩))) (hb hby d_prog_76_method_4_code_21) hr
  · show QD (FP.ddiv (FP.l2d sm) (FP.i2d cnt)) h0 n0 _ T3.heap _
    rw [e3]
    exact ⟨rfl, N0, rfl⟩
def QL (n0 : Nat) (v : Option Value) (h : Heap) (L : List Loc) : Prop := v = some (.int 1) ∧ Fr n0 L
theorem pd___V : parseMethodDescriptor "()V" = some ⟨[], none⟩ := by decide +kernel
theorem pd___D : parseMethodDescriptor "()D" = some ⟨[], some .double⟩ := by decide +kernel
theorem pn_com_example_bytegauge_bytegauge_stats_TallyMeanPinLaw : plainName "com/example/bytegauge/bytegauge/stats/TallyMeanPinLaw" = true := by first | (simp [plainName, overriddenIn]; done) | decide +kernel
theorem ef_code (m : MethodId) (x0 : Int32) (x1 : Int32) (x2 : Int32) (x3 : Int32) (x4 : Int32) : entryFrame m #[(.int x0), (.int x1), (.int x2), (.int x3), (.int x4)] maxLocals = mkF m 0 #[.val (.int x0), .val (.int x1), .val (.int x2), .val (.int x3), .val (.int x4), .unset, .unset, .unset, .unset, .unset, .unset, .unset, .unset] [] := by first | (simp [entryFrame, mkF, argsToLocals, Value.category, maxLocals]; done) | rfl
set_option maxRecDepth 65536 in
set_option maxHeartbeats 40000000 in
theorem rm00 (l : Launch) (Z : State) (a0 : Array Value) (hw : ∀ d ∈ tables_1, d.before a0 Z = true) (ws : List Jvm.Cond) (pk px py pz pw : Int32) (h0 : Heap) (n0 : Nat) (Z0 : n0 ≤ h0.size) (hn5 : ((pk &&& (2147483647 : Int32)) % (5 : Int32)) = (0 : Int32))  :
    MetFree l x (head1 (Jvm.Cond.code x code maxLocals ret :: ws) room_1) (fun a U => a = #[(.int pk), (.int px), (.int py), (.int pz), (.int pw)] ∧ Z.Warmed39 U.vm ∧ U.heap = h0) (fun _ _ _ _ _ => True) (fun _ U o U' => ∃ v L, o = .returned v ∧ QL n0 v U'.heap L ∧ FrameEnd U o U' L 1 4) := by
  refine MetFree.of_bodySF (plainFor_of_name pn_com_example_bytegauge_bytegauge_stats_TallyMeanPinLaw) hisR ?_
  intro p e s m args below meth c s₁ Bd hml0 hP hK
  obtain ⟨rfl, hZ, hh⟩ := hP
  have hx := Bd.exec
  have hby := Bd.bytes
  have hml : c.maxLocals = 13 := hml0
  have hown : s.vm.findClass "com/example/bytegauge/bytegauge/stats/TallyMeanPinLaw" = some m.cls := findClass_of_methodNamed Bd.named
  have hnm := (name_of_methodNamed Bd.named Bd.method).1
  have X0 : Stand p l e room_1 s m #[(.int pk), (.int px), (.int py), (.int pz), (.int pw)] below meth c s₁ [] 0 0 := Stand.of_body Bd
  have e0 : s₁.heap = h0 := by rw [← hh, Bd.state]; rfl
  have N0 := Fr.nil n0
  have pre0 : ∀ t, Steps p.tables e below (s₁.setTop (mkF m 0 #[.val (.int pk), .val (.int px), .val (.int py), .val (.int pz), .val (.int pw), .unset, .unset, .unset, .unset, .unset, .unset, .unset, .unset] [])) t → Steps p.tables e below (s₁.setTop (entryFrame m #[(.int pk), (.int px), (.int py), (.int pz), (.int pw)] maxLocals)) t := fun t k => castTop (ef_code m pk px py pz pw) k
  obtain ⟨T1, h1, X1, e1, E1, A1, D1, -, st1⟩ := newO X0 hx hZ hown (hw _ (List.mem_of_getElem? (i := 1) rfl)) (hw _ (List.mem_of_getElem? (i := 2) rfl)) (hw _ (List.mem_of_getElem? (i := 3) rfl)) e0 (g := (mkF m 8 #[.val (.int pk), .val (.int px), .val (.int py), .val (.int pz), .val (.int pw), .val (.int (0 : Int32)), .unset, .unset, .unset, .unset, .unset, .unset, .unset] [])) rfl (hb hby at_8) (by decide) (by decide)
  obtain ⟨b1, g1⟩ : ∃ z, z = h0.size := ⟨_, rfl⟩
  rw [← g1] at A1 D1 st1
  have g_b1 : n0 ≤ b1 := Nat.le_trans Z0 (Nat.le_of_eq g1.symm)
  have SZ1 := Nat.le_trans Z0 E1.1
  have F1_count : Fld Z h1 b1 "com/example/bytegauge/bytegauge/stats/Tally" "count" "I" (.int (0 : Int32)) := D1 (Or.inl (hw _ (List.mem_of_getElem? (i := 16) rfl))) (ty := .int) (by decide)
  have F1_sum : Fld Z h1 b1 "com/example/bytegauge/bytegauge/stats/Tally" "sum" "D" (.double (0 : UInt64)) := D1 (Or.inl (hw _ (List.mem_of_getElem? (i := 24) rfl))) (ty := .double) (by decide)
  have F1_running : Fld Z h1 b1 "com/example/bytegauge/bytegauge/stats/Tally" "running" "D" (.double (0 : UInt64)) := D1 (Or.inl (hw _ (List.mem_of_getElem? (i := 26) rfl))) (ty := .double) (by decide)
  have F1_squares : Fld Z h1 b1 "com/example/bytegauge/bytegauge/stats/Tally" "squares" "D" (.double (0 : UInt64)) := D1 (Or.inl (hw _ (List.mem_of_getElem? (i := 28) rfl))) (ty := .double) (by decide)
  obtain ⟨_, _, ⟨T2, L2, k2, n2⟩, -, X2, ⟨Lc2, hQ2, l2, y2, z2⟩, st2⟩ := X1.specialBack hx (y := (⟨"com/example/bytegauge/bytegauge/stats/Tally", "<init>", "()V"⟩ : MethodName)) rfl hown (mvT hZ (hw _ (List.mem_of_getElem? (i := 4) rfl))) (mvT hZ (hw _ (List.mem_of_getElem? (i := 5) rfl))) (mvT hZ (hw _ (List.mem_of_getElem? (i := 6) rfl))) (by decide) (backOf (W := 1) (rmI l Z a0 hw [] b1 h1 n0 SZ1) hZ (hw _ (List.mem_of_getElem? (i := 6) rfl)) (hw _ (List.mem_of_getElem? (i := 3) rfl)) (by decide) (by decide)) (g := (mkF m 12 #[.val (.int pk), .val (.int px), .val (.int py), .val (.int pz), .val (.int pw), .val (.int (0 : Int32)), .unset, .unset, .unset, .unset, .unset, .unset, .unset] [(.ref b1), (.ref b1)])) rfl (by rw [hml]; rfl) (Steps.refl _) (a := b1) (argsL := []) (rest := [(.ref b1)]) (lenOf pd___V rfl) rfl (by show 2 * 0 + _ ≤ _; exact Nat.le_of_eq rfl) (hb hby at_12) (fun _ _ => ⟨rfl, e1, (by decide : 1 + 0 ≤ _), (by decide : 4 + 0 ≤ _)⟩)
  dsimp only [Pt.U, Pt.locs, Pt.cells, Pt.slots] at X2 l2 y2 z2 st2 hQ2
  subst l2 y2 z2
  obtain ⟨rfl, N2q, eq2⟩ := hQ2
  have N2 := Fr.app N0 N2q
  obtain ⟨cq3, kq3, q3a, q3b, q3c⟩ := isOf hZ eq2 A1
  obtain ⟨_, _, ⟨T3, L3, k3, n3⟩, -, X3, ⟨Lc3, hQ3, l3, y3, z3⟩, st3⟩ := X2.virtualBack hx (y := (⟨"com/example/bytegauge/bytegauge/stats/Tally", "mean", "()D"⟩ : MethodName)) (z := (⟨"com/example/bytegauge/bytegauge/stats/Tally", "mean", "()D"⟩ : MethodName)) hown (mvT hZ (hw _ (List.mem_of_getElem? (i := 10) rfl))) (mvT hZ (hw _ (List.mem_of_getElem? (i := 11) rfl))) (notFace_of_selects (args := #[]) (mvT hZ (hw _ (List.mem_of_getElem? (i := 13) rfl)))) (mvT hZ (hw _ (List.mem_of_getElem? (i := 13) rfl))) (mvT hZ (hw _ (List.mem_of_getElem? (i := 12) rfl))) (by decide) (backOf (W := 0) (rmM0 l Z a0 hw [] b1 h1 n0 SZ1 F1_count) hZ (hw _ (List.mem_of_getElem? (i := 14) rfl)) (hw _ (List.mem_of_getElem? (i := 3) rfl)) (by decide) (by decide)) q3a q3c (g := (mkF m 104 #[.val (.int pk), .val (.int px), .val (.int py), .val (.int pz), .val (.int pw), .val (.int (0 : Int32)), .val (.ref b1), .val (.long (0 : Int64)), .second, .unset, .unset, .unset, .unset] [(.ref b1)])) rfl (by rw [hml]; rfl) (Steps.refl _) (argsL := []) (rest := []) (lenOf pd___D rfl) rfl (by show 2 * 0 + _ ≤ _; exact Nat.le_of_eq rfl) (hb hby at_104) (fun _ _ => ⟨rfl, eq2, (by decide : 1 + 0 ≤ _), (by decide : 4 + 0 ≤ _)⟩)
  dsimp only [Pt.U, Pt.locs, Pt.cells, Pt.slots] at X3 l3 y3 z3 st3 hQ3
  subst l3 y3 z3
  obtain ⟨rfl, N3q, eq3⟩ := hQ3
  have N3 := Fr.app N2 N3q
  obtain ⟨fs, hr, hrun, hended, hW, hsame⟩ := X3.leave (v := some (.int (1 : Int32))) (fun h => by rw [Bd.returns] at h; cases h)
  refine ⟨_, _, pre0 _ ?_, hrun, hended, _, _, rfl, ?_, ⟨_, rfl⟩, hW, hsame.mono (by decide) (by decide)⟩
  · show Steps p.tables e below (s₁.setTop (mkF m 0 #[.val (.int pk), .val (.int px), .val (.int py), .val (.int pz), .val (.int pw), .unset, .unset, .unset, .unset, .unset, .unset, .unset, .unset] [])) _
    refine XS.iloadN X0.here hx rfl (hb hby at_0) rfl ?_
    show Steps p.tables e below (s₁.setTop (mkF m 1 #[.val (.int pk), .val (.int px), .val (.int py), .val (.int pz), .val (.int pw), .unset, .unset, .unset, .unset, .unset, .unset, .unset, .unset] [(.int pk)])) _
    refine X0.ldcInt hx hown (mvT hZ (hw _ (List.mem_of_getElem? (i := 0) rfl))) (g := (mkF m 1 #[.val (.int pk), .val (.int px), .val (.int py), .val (.int pz), .val (.int pw), .unset, .unset, .unset, .unset, .unset, .unset, .unset, .unset] [(.int pk)])) rfl (hb hby at_1) _ ?_
    show Steps p.tables e below (s₁.setTop (mkF m 3 #[.val (.int pk), .val (.int px), .val (.int py), .val (.int pz), .val (.int pw), .unset, .unset, .unset, .unset, .unset, .unset, .unset, .unset] [(.int (2147483647 : Int32)), (.int pk)])) _
    refine XS.iand X0.here hx rfl (hb hby at_3) rfl ?_
    show Steps p.tables e below (s₁.setTop (mkF m 4 #[.val (.int pk), .val (.int px), .val (.int py), .val (.int pz), .val (.int pw), .unset, .unset, .unset, .unset, .unset, .unset, .unset, .unset] [(.int (pk &&& (2147483647 : Int32)))])) _
    refine XS.iconst X0.here hx rfl (hb hby at_4) ?_
    show Steps p.tables e below (s₁.setTop (mkF m 5 #[.val (.int pk), .val (.int px), .val (.int py), .val (.int pz), .val (.int pw), .unset, .unset, .unset, .unset, .unset, .unset, .unset, .unset] [(.int (5 : Int32)), (.int (pk &&& (2147483647 : Int32)))])) _
    refine iremM X0 hx rfl (hb hby at_5) rfl (by decide) ?_
    show Steps p.tables e below (s₁.setTop (mkF m 6 #[.val (.int pk), .val (.int px), .val (.int py), .val (.int pz), .val (.int pw), .unset, .unset, .unset, .unset, .unset, .unset, .unset, .unset] [(.int ((pk &&& (2147483647 : Int32)) % (5 : Int32)))])) _
    rw [show ((pk &&& (2147483647 : Int32)) % (5 : Int32)) = (0 : Int32) from hn5]
    show Steps p.tables e below (s₁.setTop (mkF m 6 #[.val (.int pk), .val (.int px), .val (.int py), .val (.int pz), .val (.int pw), .unset, .unset, .unset, .unset, .unset, .unset, .unset, .unset] [(.int (0 : Int32))])) _
    refine XS.istore X0.here hx rfl (hb hby at_6) rfl (l' := #[.val (.int pk), .val (.int px), .val (.int py), .val (.int pz), .val (.int pw), .val (.int (0 : Int32)), .unset, .unset, .unset, .unset, .unset, .unset, .unset]) rfl ?_
    show Steps p.tables e below (s₁.setTop (mkF m 8 #[.val (.int pk), .val (.int px), .val (.int py), .val (.int pz), .val (.int pw), .val (.int (0 : Int32)), .unset, .unset, .unset, .unset, .unset, .unset, .unset] [])) _
    refine st1 _ ?_
    show Steps p.tables e below (T1.setTop (mkF m 11 #[.val (.int pk), .val (.int px), .val (.int py), .val (.int pz), .val (.int pw), .val (.int (0 : Int32)), .unset, .unset, .unset, .unset, .unset, .unset, .unset] [(.ref b1)])) _
    refine XS.dup X1.here hx rfl (hb hby at_11) rfl rfl ?_
    show Steps p.tables e below (T1.setTop (mkF m 12 #[.val (.int pk), .val (.int px), .val (.int py), .val (.int pz), .val (.int pw), .val (.int (0 : Int32)), .unset, .unset, .unset, .unset, .unset, .unset, .unset] [(.ref b1), (.ref b1)])) _
    refine st2.trans ?_
    show Steps p.tables e below (T2.setTop (mkF m 15 #[.val (.int pk), .val (.int px), .val (.int py), .val (.int pz), .val (.int pw), .val (.int (0 : Int32)), .unset, .unset, .unset, .unset, .unset, .unset, .unset] [(.ref b1)])) _
    refine XS.astore X2.here hx rfl (hb hby at_15) rfl rfl (l' := #[.val (.int pk), .val (.int px), .val (.int py), .val (.int pz), .val (.int pw), .val (.int (0 : Int32)), .val (.ref b1), .unset, .unset, .unset, .unset, .unset, .unset]) rfl ?_
    show Steps p.tables e below (T2.setTop (mkF m 17 #[.val (.int pk), .val (.int px), .val (.int py), .val (.int pz), .val (.int pw), .val (.int (0 : Int32)), .val (.ref b1), .unset, .unset, .unset, .unset, .unset, .unset] [])) _
    refine XS.lconst X2.here hx rfl (hb hby at_17) ?_
    show Steps p.tables e below (T2.setTop (mkF m 18 #[.val (.int pk), .val (.int px), .val (.int py), .val (.int pz), .val (.int pw), .val (.int (0 : Int32)), .val (.ref b1), .unset, .unset, .unset, .unset, .unset, .unset] [(.long (0 : Int64))])) _
    refine XS.lstore X2.here hx rfl (hb hby at_18) rfl (l' := #[.val (.int pk), .val (.int px), .val (.int py), .val (.int pz), .val (.int pw), .val (.int (0 : Int32)), .val (.ref b1), .val (.long (0 : Int64)), .second, .unset, .unset, .unset, .unset]) rfl ?_
    show Steps p.tables e below (T2.setTop (mkF m 20 #[.val (.int pk), .val (.int px), .val (.int py), .val (.int pz), .val (.int pw), .val (.int (0 : Int32)), .val (.ref b1), .val (.long (0 : Int64)), .second, .unset, .unset, .unset, .unset] [])) _
    refine XS.iload X2.here hx rfl (hb hby at_20) rfl ?_
    show Steps p.tables e below (T2.setTop (mkF m 22 #[.val (.int pk), .val (.int px), .val (.int py), .val (.int pz), .val (.int pw), .val (.int (0 : Int32)), .val (.ref b1), .val (.long (0 : Int64)), .second, .unset, .unset, .unset, .unset] [(.int (0 : Int32))])) _
    refine XS.iconst X2.here hx rfl (hb hby at_22) ?_
    show Steps p.tables e below (T2.setTop (mkF m 23 #[.val (.int pk), .val (.int px), .val (.int py), .val (.int pz), .val (.int pw), .val (.int (0 : Int32)), .val (.ref b1), .val (.long (0 : Int64)), .second, .unset, .unset, .unset, .unset] [(.int (1 : Int32)), (.int (0 : Int32))])) _
    refine XS.icmpYes X2.here hx rfl (pc0 := 23) (pc' := 40) rfl (hb hby at_23) rfl (tlt (by decide : (0 : Int32) < (1 : Int32))).1 (by decide) (by decide) ?_
    show Steps p.tables e below (T2.setTop (mkF m 40 #[.val (.int pk), .val (.int px), .val (.int py), .val (.int pz), .val (.int pw), .val (.int (0 : Int32)), .val (.ref b1), .val (.long (0 : Int64)), .second, .unset, .unset, .unset, .unset] [])) _
    refine XS.iload X2.here hx rfl (hb hby at_40) rfl ?_
    show Steps p.tables e below (T2.setTop (mkF m 42 #[.val (.int pk), .val (.int px), .val (.int py), .val (.int pz), .val (.int pw), .val (.int (0 : Int32)), .val (.ref b1), .val (.long (0 : Int64)), .second, .unset, .unset, .unset, .unset] [(.int (0 : Int32))])) _
    refine XS.iconst X2.here hx rfl (hb hby at_42) ?_
    show Steps p.tables e below (T2.setTop (mkF m 43 #[.val (.int pk), .val (.int px), .val (.int py), .val (.int pz), .val (.int pw), .val (.int (0 : Int32)), .val (.ref b1), .val (.long (0 : Int64)), .second, .unset, .unset, .unset, .unset] [(.int (2 : Int32)), (.int (0 : Int32))])) _
    refine XS.icmpYes X2.here hx rfl (pc0 := 43) (pc' := 60) rfl (hb hby at_43) rfl (tlt (by decide : (0 : Int32) < (2 : Int32))).1 (by decide) (by decide) ?_
    show Steps p.tables e below (T2.setTop (mkF m 60 #[.val (.int pk), .val (.int px), .val (.int py), .val (.int pz), .val (.int pw), .val (.int (0 : Int32)), .val (.ref b1), .val (.long (0 : Int64)), .second, .unset, .unset, .unset, .unset] [])) _
    refine XS.iload X2.here hx rfl (hb hby at_60) rfl ?_
    show Steps p.tables e below (T2.setTop (mkF m 62 #[.val (.int pk), .val (.int px), .val (.int py), .val (.int pz), .val (.int pw), .val (.int (0 : Int32)), .val (.ref b1), .val (.long (0 : Int64)), .second, .unset, .unset, .unset, .unset] [(.int (0 : Int32))])) _
    refine XS.iconst X2.here hx rfl (hb hby at_62) ?_
    show Steps p.tables e below (T2.setTop (mkF m 63 #[.val (.int pk), .val (.int px), .val (.int py), .val (.int pz), .val (.int pw), .val (.int (0 : Int32)), .val (.ref b1), .val (.long (0 : Int64)), .second, .unset, .unset, .unset, .unset] [(.int (3 : Int32)), (.int (0 : Int32))])) _
    refine XS.icmpYes X2.here hx rfl (pc0 := 63) (pc' := 80) rfl (hb hby at_63) rfl (tlt (by decide : (0 : Int32) < (3 : Int32))).1 (by decide) (by decide) ?_
    show Steps p.tables e below (T2.setTop (mkF m 80 #[.val (.int pk), .val (.int px), .val (.int py), .val (.int pz), .val (.int pw), .val (.int (0 : Int32)), .val (.ref b1), .val (.long (0 : Int64)), .second, .unset, .unset, .unset, .unset] [])) _
    refine XS.iload X2.here hx rfl (hb hby at_80) rfl ?_
    show Steps p.tables e below (T2.setTop (mkF m 82 #[.val (.int pk), .val (.int px), .val (.int py), .val (.int pz), .val (.int pw), .val (.int (0 : Int32)), .val (.ref b1), .val (.long (0 : Int64)), .second, .unset, .unset, .unset, .unset] [(.int (0 : Int32))])) _
    refine XS.iconst X2.here hx rfl (hb hby at_82) ?_
    show Steps p.tables e below (T2.setTop (mkF m 83 #[.val (.int pk), .val (.int px), .val (.int py), .val (.int pz), .val (.int pw), .val (.int (0 : Int32)), .val (.ref b1), .val (.long (0 : Int64)), .second, .unset, .unset, .unset, .unset] [(.int (4 : Int32)), (.int (0 : Int32))])) _
    refine XS.icmpYes X2.here hx rfl (pc0 := 83) (pc' := 102) rfl (hb hby at_83) rfl (tlt (by decide : (0 : Int32) < (4 : Int32))).1 (by decide) (by decide) ?_
    show Steps p.tables e below (T2.setTop (mkF m 102 #[.val (.int pk), .val (.int px), .val (.int py), .val (.int pz), .val (.int pw), .val (.int (0 : Int32)), .val (.ref b1), .val (.long (0 : Int64)), .second, .unset, .unset, .unset, .unset] [])) _
    refine XS.aload X2.here hx rfl (hb hby at_102) rfl rfl ?_
    show Steps p.tables e below (T2.setTop (mkF m 104 #[.val (.int pk), .val (.int px), .val (.int py), .val (.int pz), .val (.int pw), .val (.int (0 : Int32)), .val (.ref b1), .val (.long (0 : Int64)), .second, .unset, .unset, .unset, .unset] [(.ref b1)])) _
    refine st3.trans ?_
    show Steps p.tables e below (T3.setTop (mkF m 107 #[.val (.int pk), .val (.int px), .val (.int py), .val (.int pz), .val (.int pw), .val (.int (0 : Int32)), .val (.ref b1), .val (.long (0 : Int64)), .second, .unset, .unset, .unset, .unset] [(.double (0 : UInt64))])) _
    refine XS.dstore X3.here hx rfl (hb hby at_107) rfl (l' := #[.val (.int pk), .val (.int px), .val (.int py), .val (.int pz), .val (.int pw), .val (.int (0 : Int32)), .val (.ref b1), .val (.long (0 : Int64)), .second, .val (.double (0 : UInt64)), .second, .unset, .unset]) rfl ?_
    show Steps p.tables e below (T3.setTop (mkF m 109 #[.val (.int pk), .val (.int px), .val (.int py), .val (.int pz), .val (.int pw), .val (.int (0 : Int32)), .val (.ref b1), .val (.long (0 : Int64)), .second, .val (.double (0 : UInt64)), .second, .unset, .unset] [])) _
    refine XS.iload X3.here hx rfl (hb hby at_109) rfl ?_
    show Steps p.tables e below (T3.setTop (mkF m 111 #[.val (.int pk), .val (.int px), .val (.int py), .val (.int pz), .val (.int pw), .val (.int (0 : Int32)), .val (.ref b1), .val (.long (0 : Int64)), .second, .val (.double (0 : UInt64)), .second, .unset, .unset] [(.int (0 : Int32))])) _
    refine XS.ifNo X3.here hx rfl (hb hby at_111) rfl ((if0 _ _).trans (teq (by decide : (0 : Int32) = (0 : Int32))).2) ?_
    show Steps p.tables e below (T3.setTop (mkF m 114 #[.val (.int pk), .val (.int px), .val (.int py), .val (.int pz), .val (.int pw), .val (.int (0 : Int32)), .val (.ref b1), .val (.long (0 : Int64)), .second, .val (.double (0 : UInt64)), .second, .unset, .unset] [])) _
    refine XS.dconst0 X3.here hx rfl (hb hby at_114) (v := (0 : UInt64)) rfl ?_
    show Steps p.tables e below (T3.setTop (mkF m 115 #[.val (.int pk), .val (.int px), .val (.int py), .val (.int pz), .val (.int pw), .val (.int (0 : Int32)), .val (.ref b1), .val (.long (0 : Int64)), .second, .val (.double (0 : UInt64)), .second, .unset, .unset] [(.double (0 : UInt64))])) _
    refine XS.goto X3.here hx rfl (pc0 := 115) (pc' := 125) rfl (hb hby at_115) (by decide) (by decide) ?_
    show Steps p.tables e below (T3.setTop (mkF m 125 #[.val (.int pk), .val (.int px), .val (.int py), .val (.int pz), .val (.int pw), .val (.int (0 : Int32)), .val (.ref b1), .val (.long (0 : Int64)), .second, .val (.double (0 : UInt64)), .second, .unset, .unset] [(.double (0 : UInt64))])) _
    refine XS.dstore X3.here hx rfl (hb hby at_125) rfl (l' := #[.val (.int pk), .val (.int px), .val (.int py), .val (.int pz), .val (.int pw), .val (.int (0 : Int32)), .val (.ref b1), .val (.long (0 : Int64)), .second, .val (.double (0 : UInt64)), .second, .val (.double (0 : UInt64)), .second]) rfl ?_
    show Steps p.tables e below (T3.setTop (mkF m 127 #[.val (.int pk), .val (.int px), .val (.int py), .val (.int pz), .val (.int pw), .val (.int (0 : Int32)), .val (.ref b1), .val (.long (0 : Int64)), .second, .val (.double (0 : UInt64)), .second, .val (.double (0 : UInt64)), .second] [])) _
    refine XS.dload X3.here hx rfl (hb hby at_127) rfl ?_
    show Steps p.tables e below (T3.setTop (mkF m 129 #[.val (.int pk), .val (.int px), .val (.int py), .val (.int pz), .val (.int pw), .val (.int (0 : Int32)), .val (.ref b1), .val (.long (0 : Int64)), .second, .val (.double (0 : UInt64)), .second, .val (.double (0 : UInt64)), .second] [(.double (0 : UInt64))])) _
    refine XS.dload X3.here hx rfl (hb hby at_129) rfl ?_
    show Steps p.tables e below (T3.setTop (mkF m 131 #[.val (.int pk), .val (.int px), .val (.int py), .val (.int pz), .val (.int pw), .val (.int (0 : Int32)), .val (.ref b1), .val (.long (0 : Int64)), .second, .val (.double (0 : UInt64)), .second, .val (.double (0 : UInt64)), .second] [(.double (0 : UInt64)), (.double (0 : UInt64))])) _
    refine XS.dcmpS X3.here hx rfl (hb hby at_131) rfl (v := (0 : Int32)) own_z ?_
    show Steps p.tables e below (T3.setTop (mkF m 132 #[.val (.int pk), .val (.int px), .val (.int py), .val (.int pz), .val (.int pw), .val (.int (0 : Int32)), .val (.ref b1), .val (.long (0 : Int64)), .second, .val (.double (0 : UInt64)), .second, .val (.double (0 : UInt64)), .second] [(.int (0 : Int32))])) _
    refine XS.ifNo X3.here hx rfl (hb hby at_132) rfl ((if0 _ _).trans (teq (by decide : (0 : Int32) = (0 : Int32))).2) ?_
    show Steps p.tables e below (T3.setTop (mkF m 135 #[.val (.int pk), .val (.int px), .val (.int py), .val (.int pz), .val (.int pw), .val (.int (0 : Int32)), .val (.ref b1), .val (.long (0 : Int64)), .second, .val (.double (0 : UInt64)), .second, .val (.double (0 : UInt64)), .second] [])) _
    refine XS.iconst X3.here hx rfl (hb hby at_135) ?_
    show Steps p.tables e below (T3.setTop (mkF m 136 #[.val (.int pk), .val (.int px), .val (.int py), .val (.int pz), .val (.int pw), .val (.int (0 : Int32)), .val (.ref b1), .val (.long (0 : Int64)), .second, .val (.double (0 : UInt64)), .second, .val (.double (0 : UInt64)), .second] [(.int (1 : Int32))])) _
    refine XS.goto X3.here hx rfl (pc0 := 136) (pc' := 140) rfl (hb hby at_136) (by decide) (by decide) ?_
    show Steps p.tables e below (T3.setTop (mkF m 140 #[.val (.int pk), .val (.int px), .val (.int py), .val (.int pz), .val (.int pw), .val (.int (0 : Int32)), .val (.ref b1), .val (.long (0 : Int64)), .second, .val (.double (0 : UInt64)), .second, .val (.double (0 : UInt64)), .second] [(.int (1 : Int32))])) _
    exact retN X3 hx (t := .boolean) Bd.returns (by simp) (hb hby at_140) hr
  · show QL n0 _ T3.heap _
    rw [eq3]
    exact ⟨rfl, N3⟩
theorem pd__D_V : parseMethodDescriptor "(D)V" = some ⟨[.double], none⟩ := by decide +kernel
set_option maxRecDepth 65536 in
set_option maxHeartbeats 40000000 in
theorem rm01 (l : Launch) (Z : State) (a0 : Array Value) (hw : ∀ d ∈ tables_1, d.before a0 Z = true) (ws : List Jvm.Cond) (pk px py pz pw : Int32) (h0 : Heap) (n0 : Nat) (Z0 : n0 ≤ h0.size) (hn5 : ((pk &&& (2147483647 : Int32)) % (5 : Int32)) = (1 : Int32))  :
    MetFree l x (head1 (Jvm.Cond.code x code maxLocals ret :: ws) room_1) (fun a U => a = #[(.int pk), (.int px), (.int py), (.int pz), (.int pw)] ∧ Z.Warmed39 U.vm ∧ U.heap = h0) (fun _ _ _ _ _ => True) (fun _ U o U' => ∃ v L, o = .returned v ∧ QL n0 v U'.heap L ∧ FrameEnd U o U' L 1 4) := by
  refine MetFree.of_bodySF (plainFor_of_name pn_com_example_bytegauge_bytegauge_stats_TallyMeanPinLaw) hisR ?_
  intro p e s m args below meth c s₁ Bd hml0 hP hK
  obtain ⟨rfl, hZ, hh⟩ := hP
  have hx := Bd.exec
  have hby := Bd.bytes
  have hml : c.maxLocals = 13 := hml0
  have hown : s.vm.findClass "com/example/bytegauge/bytegauge/stats/TallyMeanPinLaw" = some m.cls := findClass_of_methodNamed Bd.named
  have hnm := (name_of_methodNamed Bd.named Bd.method).1
  have X0 : Stand p l e room_1 s m #[(.int pk), (.int px), (.int py), (.int pz), (.int pw)] below meth c s₁ [] 0 0 := Stand.of_body Bd
  have e0 : s₁.heap = h0 := by rw [← hh, Bd.state]; rfl
  have N0 := Fr.nil n0
  have pre0 : ∀ t, Steps p.tables e below (s₁.setTop (mkF m 0 #[.val (.int pk), .val (.int px), .val (.int py), .val (.int pz), .val (.int pw), .unset, .unset, .unset, .unset, .unset, .unset, .unset, .unset] [])) t → Steps p.tables e below (s₁.setTop (entryFrame m #[(.int pk), (.int px), (.int py), (.int pz), (.int pw)] maxLocals)) t := fun t k => castTop (ef_code m pk px py pz pw) k
  obtain ⟨T1, h1, X1, e1, E1, A1, D1, -, st1⟩ := newO X0 hx hZ hown (hw _ (List.mem_of_getElem? (i := 1) rfl)) (hw _ (List.mem_of_getElem? (i := 2) rfl)) (hw _ (List.mem_of_getElem? (i := 3) rfl)) e0 (g := (mkF m 8 #[.val (.int pk), .val (.int px), .val (.int py), .val (.int pz), .val (.int pw), .val (.int (1 : Int32)), .unset, .unset, .unset, .unset, .unset, .unset, .unset] [])) rfl (hb hby at_8) (by decide) (by decide)
  obtain ⟨b1, g1⟩ : ∃ z, z = h0.size := ⟨_, rfl⟩
  rw [← g1] at A1 D1 st1
  have g_b1 : n0 ≤ b1 := Nat.le_trans Z0 (Nat.le_of_eq g1.symm)
  have SZ1 := Nat.le_trans Z0 E1.1
  have F1_count : Fld Z h1 b1 "com/example/bytegauge/bytegauge/stats/Tally" "count" "I" (.int (0 : Int32)) := D1 (Or.inl (hw _ (List.mem_of_getElem? (i := 16) rfl))) (ty := .int) (by decide)
  have F1_sum : Fld Z h1 b1 "com/example/bytegauge/bytegauge/stats/Tally" "sum" "D" (.double (0 : UInt64)) := D1 (Or.inl (hw _ (List.mem_of_getElem? (i := 24) rfl))) (ty := .double) (by decide)
  have F1_running : Fld Z h1 b1 "com/example/bytegauge/bytegauge/stats/Tally" "running" "D" (.double (0 : UInt64)) := D1 (Or.inl (hw _ (List.mem_of_getElem? (i := 26) rfl))) (ty := .double) (by decide)
  have F1_squares : Fld Z h1 b1 "com/example/bytegauge/bytegauge/stats/Tally" "squares" "D" (.double (0 : UInt64)) := D1 (Or.inl (hw _ (List.mem_of_getElem? (i := 28) rfl))) (ty := .double) (by decide)
  obtain ⟨_, _, ⟨T2, L2, k2, n2⟩, -, X2, ⟨Lc2, hQ2, l2, y2, z2⟩, st2⟩ := X1.specialBack hx (y := (⟨"com/example/bytegauge/bytegauge/stats/Tally", "<init>", "()V"⟩ : MethodName)) rfl hown (mvT hZ (hw _ (List.mem_of_getElem? (i := 4) rfl))) (mvT hZ (hw _ (List.mem_of_getElem? (i := 5) rfl))) (mvT hZ (hw _ (List.mem_of_getElem? (i := 6) rfl))) (by decide) (backOf (W := 1) (rmI l Z a0 hw [] b1 h1 n0 SZ1) hZ (hw _ (List.mem_of_getElem? (i := 6) rfl)) (hw _ (List.mem_of_getElem? (i := 3) rfl)) (by decide) (by decide)) (g := (mkF m 12 #[.val (.int pk), .val (.int px), .val (.int py), .val (.int pz), .val (.int pw), .val (.int (1 : Int32)), .unset, .unset, .unset, .unset, .unset, .unset, .unset] [(.ref b1), (.ref b1)])) rfl (by rw [hml]; rfl) (Steps.refl _) (a := b1) (argsL := []) (rest := [(.ref b1)]) (lenOf pd___V rfl) rfl (by show 2 * 0 + _ ≤ _; exact Nat.le_of_eq rfl) (hb hby at_12) (fun _ _ => ⟨rfl, e1, (by decide : 1 + 0 ≤ _), (by decide : 4 + 0 ≤ _)⟩)
  dsimp only [Pt.U, Pt.locs, Pt.cells, Pt.slots] at X2 l2 y2 z2 st2 hQ2
  subst l2 y2 z2
  obtain ⟨rfl, N2q, eq2⟩ := hQ2
  have N2 := Fr.app N0 N2q
  obtain ⟨cq3, kq3, q3a, q3b, q3c⟩ := isOf hZ eq2 A1
  obtain ⟨_, _, ⟨T3, L3, k3, n3⟩, -, X3, ⟨Lc3, hQ3, l3, y3, z3⟩, st3⟩ := X2.virtualBack hx (y := (⟨"com/example/bytegauge/bytegauge/stats/Tally", "add", "(D)V"⟩ : MethodName)) (z := (⟨"com/example/bytegauge/bytegauge/stats/Tally", "add", "(D)V"⟩ : MethodName)) hown (mvT hZ (hw _ (List.mem_of_getElem? (i := 17) rfl))) (mvT hZ (hw _ (List.mem_of_getElem? (i := 18) rfl))) (notFace_of_selects (args := #[]) (mvT hZ (hw _ (List.mem_of_getElem? (i := 20) rfl)))) (mvT hZ (hw _ (List.mem_of_getElem? (i := 20) rfl))) (mvT hZ (hw _ (List.mem_of_getElem? (i := 19) rfl))) (by decide) (backOf (W := 0) (rmA l Z a0 hw [] b1 px (0 : Int32) (1 : Int32) (0 : Int64) (0 : UInt64) (0 : UInt64) 1056 h1 n0 SZ1 A1 F1_count (Fld.zeroD F1_sum) F1_running F1_squares g_b1 (by decide) (by decide) (by decide) (own_B 0 (Int.ofNat_le.mpr own_s0) (by decide)) (by decide) (by decide) own_mag0 own_nn0) hZ (hw _ (List.mem_of_getElem? (i := 21) rfl)) (hw _ (List.mem_of_getElem? (i := 3) rfl)) (by decide) (by decide)) q3a q3c (g := (mkF m 30 #[.val (.int pk), .val (.int px), .val (.int py), .val (.int pz), .val (.int pw), .val (.int (1 : Int32)), .val (.ref b1), .val (.long (0 : Int64)), .second, .unset, .unset, .unset, .unset] [(.double (FP.i2d px)), (.ref b1)])) rfl (by rw [hml]; rfl) (Steps.refl _) (argsL := [(.double (FP.i2d px))]) (rest := []) (lenOf pd__D_V rfl) rfl (by show 2 * 0 + _ ≤ _; exact Nat.le_of_eq rfl) (hb hby at_30) (fun _ _ => ⟨rfl, eq2, (by decide : 1 + 0 ≤ _), (by decide : 4 + 0 ≤ _)⟩)
  dsimp only [Pt.U, Pt.locs, Pt.cells, Pt.slots] at X3 l3 y3 z3 st3 hQ3
  subst l3 y3 z3
  obtain ⟨rn3, sq3, rfl, N3q, K3q, E3q, F3q0, F3q1, F3q2, F3q3, M3q, NN3q⟩ := hQ3
  have c3_0 := A1.keep K3q
  have SZ3 := Nat.le_trans SZ1 K3q.1
  have N3 := Fr.app N2 N3q
  obtain ⟨cq4, kq4, q4a, q4b, q4c⟩ := isOf hZ rfl E3q
  obtain ⟨_, _, ⟨T4, L4, k4, n4⟩, -, X4, ⟨Lc4, hQ4, l4, y4, z4⟩, st4⟩ := X3.virtualBack hx (y := (⟨"com/example/bytegauge/bytegauge/stats/Tally", "mean", "()D"⟩ : MethodName)) (z := (⟨"com/example/bytegauge/bytegauge/stats/Tally", "mean", "()D"⟩ : MethodName)) hown (mvT hZ (hw _ (List.mem_of_getElem? (i := 10) rfl))) (mvT hZ (hw _ (List.mem_of_getElem? (i := 11) rfl))) (notFace_of_selects (args := #[]) (mvT hZ (hw _ (List.mem_of_getElem? (i := 13) rfl)))) (mvT hZ (hw _ (List.mem_of_getElem? (i := 13) rfl))) (mvT hZ (hw _ (List.mem_of_getElem? (i := 12) rfl))) (by decide) (backOf (W := 0) (rmM1 l Z a0 hw [] b1 (1 : Int32) ((0 : Int64) + (px.toInt64)) T3.heap n0 SZ3 F3q0 F3q1 (by decide)) hZ (hw _ (List.mem_of_getElem? (i := 14) rfl)) (hw _ (List.mem_of_getElem? (i := 3) rfl)) (by decide) (by decide)) q4a q4c (g := (mkF m 104 #[.val (.int pk), .val (.int px), .val (.int py), .val (.int pz), .val (.int pw), .val (.int (1 : Int32)), .val (.ref b1), .val (.long ((0 : Int64) + (px.toInt64))), .second, .unset, .unset, .unset, .unset] [(.ref b1)])) rfl (by rw [hml]; rfl) (Steps.refl _) (argsL := []) (rest := []) (lenOf pd___D rfl) rfl (by show 2 * 0 + _ ≤ _; exact Nat.le_of_eq rfl) (hb hby at_104) (fun _ _ => ⟨rfl, rfl, (by decide : 1 + 0 ≤ _), (by decide : 4 + 0 ≤ _)⟩)
  dsimp only [Pt.U, Pt.locs, Pt.cells, Pt.slots] at X4 l4 y4 z4 st4 hQ4
  subst l4 y4 z4
  obtain ⟨rfl, N4q, eq4⟩ := hQ4
  have N4 := Fr.app N3 N4q
  obtain ⟨fs, hr, hrun, hended, hW, hsame⟩ := X4.leave (v := some (.int (1 : Int32))) (fun h => by rw [Bd.returns] at h; cases h)
  refine ⟨_, _, pre0 _ ?_, hrun, hended, _, _, rfl, ?_, ⟨_, rfl⟩, hW, hsame.mono (by decide) (by decide)⟩
  · show Steps p.tables e below (s₁.setTop (mkF m 0 #[.val (.int pk), .val (.int px), .val (.int py), .val (.int pz), .val (.int pw), .unset, .unset, .unset, .unset, .unset, .unset, .unset, .unset] [])) _
    refine XS.iloadN X0.here hx rfl (hb hby at_0) rfl ?_
    show Steps p.tables e below (s₁.setTop (mkF m 1 #[.val (.int pk), .val (.int px), .val (.int py), .val (.int pz), .val (.int pw), .unset, .unset, .unset, .unset, .unset, .unset, .unset, .unset] [(.int pk)])) _
    refine X0.ldcInt hx hown (mvT hZ (hw _ (List.mem_of_getElem? (i := 0) rfl))) (g := (mkF m 1 #[.val (.int pk), .val (.int px), .val (.int py), .val (.int pz), .val (.int pw), .unset, .unset, .unset, .unset, .unset, .unset, .unset, .unset] [(.int pk)])) rfl (hb hby at_1) _ ?_
    show Steps p.tables e below (s₁.setTop (mkF m 3 #[.val (.int pk), .val (.int px), .val (.int py), .val (.int pz), .val (.int pw), .unset, .unset, .unset, .unset, .unset, .unset, .unset, .unset] [(.int (2147483647 : Int32)), (.int pk)])) _
    refine XS.iand X0.here hx rfl (hb hby at_3) rfl ?_
    show Steps p.tables e below (s₁.setTop (mkF m 4 #[.val (.int pk), .val (.int px), .val (.int py), .val (.int pz), .val (.int pw), .unset, .unset, .unset, .unset, .unset, .unset, .unset, .unset] [(.int (pk &&& (2147483647 : Int32)))])) _
    refine XS.iconst X0.here hx rfl (hb hby at_4) ?_
    show Steps p.tables e below (s₁.setTop (mkF m 5 #[.val (.int pk), .val (.int px), .val (.int py), .val (.int pz), .val (.int pw), .unset, .unset, .unset, .unset, .unset, .unset, .unset, .unset] [(.int (5 : Int32)), (.int (pk &&& (2147483647 : Int32)))])) _
    refine iremM X0 hx rfl (hb hby at_5) rfl (by decide) ?_
    show Steps p.tables e below (s₁.setTop (mkF m 6 #[.val (.int pk), .val (.int px), .val (.int py), .val (.int pz), .val (.int pw), .unset, .unset, .unset, .unset, .unset, .unset, .unset, .unset] [(.int ((pk &&& (2147483647 : Int32)) % (5 : Int32)))])) _
    rw [show ((pk &&& (2147483647 : Int32)) % (5 : Int32)) = (1 : Int32) from hn5]
    show Steps p.tables e below (s₁.setTop (mkF m 6 #[.val (.int pk), .val (.int px), .val (.int py), .val (.int pz), .val (.int pw), .unset, .unset, .unset, .unset, .unset, .unset, .unset, .unset] [(.int (1 : Int32))])) _
    refine XS.istore X0.here hx rfl (hb hby at_6) rfl (l' := #[.val (.int pk), .val (.int px), .val (.int py), .val (.int pz), .val (.int pw), .val (.int (1 : Int32)), .unset, .unset, .unset, .unset, .unset, .unset, .unset]) rfl ?_
    show Steps p.tables e below (s₁.setTop (mkF m 8 #[.val (.int pk), .val (.int px), .val (.int py), .val (.int pz), .val (.int pw), .val (.int (1 : Int32)), .unset, .unset, .unset, .unset, .unset, .unset, .unset] [])) _
    refine st1 _ ?_
    show Steps p.tables e below (T1.setTop (mkF m 11 #[.val (.int pk), .val (.int px), .val (.int py), .val (.int pz), .val (.int pw), .val (.int (1 : Int32)), .unset, .unset, .unset, .unset, .unset, .unset, .unset] [(.ref b1)])) _
    refine XS.dup X1.here hx rfl (hb hby at_11) rfl rfl ?_
    show Steps p.tables e below (T1.setTop (mkF m 12 #[.val (.int pk), .val (.int px), .val (.int py), .val (.int pz), .val (.int pw), .val (.int (1 : Int32)), .unset, .unset, .unset, .unset, .unset, .unset, .unset] [(.ref b1), (.ref b1)])) _
    refine st2.trans ?_
    show Steps p.tables e below (T2.setTop (mkF m 15 #[.val (.int pk), .val (.int px), .val (.int py), .val (.int pz), .val (.int pw), .val (.int (1 : Int32)), .unset, .unset, .unset, .unset, .unset, .unset, .unset] [(.ref b1)])) _
    refine XS.astore X2.here hx rfl (hb hby at_15) rfl rfl (l' := #[.val (.int pk), .val (.int px), .val (.int py), .val (.int pz), .val (.int pw), .val (.int (1 : Int32)), .val (.ref b1), .unset, .unset, .unset, .unset, .unset, .unset]) rfl ?_
    show Steps p.tables e below (T2.setTop (mkF m 17 #[.val (.int pk), .val (.int px), .val (.int py), .val (.int pz), .val (.int pw), .val (.int (1 : Int32)), .val (.ref b1), .unset, .unset, .unset, .unset, .unset, .unset] [])) _
    refine XS.lconst X2.here hx rfl (hb hby at_17) ?_
    show Steps p.tables e below (T2.setTop (mkF m 18 #[.val (.int pk), .val (.int px), .val (.int py), .val (.int pz), .val (.int pw), .val (.int (1 : Int32)), .val (.ref b1), .unset, .unset, .unset, .unset, .unset, .unset] [(.long (0 : Int64))])) _
    refine XS.lstore X2.here hx rfl (hb hby at_18) rfl (l' := #[.val (.int pk), .val (.int px), .val (.int py), .val (.int pz), .val (.int pw), .val (.int (1 : Int32)), .val (.ref b1), .val (.long (0 : Int64)), .second, .unset, .unset, .unset, .unset]) rfl ?_
    show Steps p.tables e below (T2.setTop (mkF m 20 #[.val (.int pk), .val (.int px), .val (.int py), .val (.int pz), .val (.int pw), .val (.int (1 : Int32)), .val (.ref b1), .val (.long (0 : Int64)), .second, .unset, .unset, .unset, .unset] [])) _
    refine XS.iload X2.here hx rfl (hb hby at_20) rfl ?_
    show Steps p.tables e below (T2.setTop (mkF m 22 #[.val (.int pk), .val (.int px), .val (.int py), .val (.int pz), .val (.int pw), .val (.int (1 : Int32)), .val (.ref b1), .val (.long (0 : Int64)), .second, .unset, .unset, .unset, .unset] [(.int (1 : Int32))])) _
    refine XS.iconst X2.here hx rfl (hb hby at_22) ?_
    show Steps p.tables e below (T2.setTop (mkF m 23 #[.val (.int pk), .val (.int px), .val (.int py), .val (.int pz), .val (.int pw), .val (.int (1 : Int32)), .val (.ref b1), .val (.long (0 : Int64)), .second, .unset, .unset, .unset, .unset] [(.int (1 : Int32)), (.int (1 : Int32))])) _
    refine XS.icmpNo X2.here hx rfl (hb hby at_23) rfl (flt (by decide : ¬ ((1 : Int32) < (1 : Int32)))).1 ?_
    show Steps p.tables e below (T2.setTop (mkF m 26 #[.val (.int pk), .val (.int px), .val (.int py), .val (.int pz), .val (.int pw), .val (.int (1 : Int32)), .val (.ref b1), .val (.long (0 : Int64)), .second, .unset, .unset, .unset, .unset] [])) _
    refine XS.aload X2.here hx rfl (hb hby at_26) rfl rfl ?_
    show Steps p.tables e below (T2.setTop (mkF m 28 #[.val (.int pk), .val (.int px), .val (.int py), .val (.int pz), .val (.int pw), .val (.int (1 : Int32)), .val (.ref b1), .val (.long (0 : Int64)), .second, .unset, .unset, .unset, .unset] [(.ref b1)])) _
    refine XS.iloadN X2.here hx rfl (hb hby at_28) rfl ?_
    show Steps p.tables e below (T2.setTop (mkF m 29 #[.val (.int pk), .val (.int px), .val (.int py), .val (.int pz), .val (.int pw), .val (.int (1 : Int32)), .val (.ref b1), .val (.long (0 : Int64)), .second, .unset, .unset, .unset, .unset] [(.int px), (.ref b1)])) _
    refine XS.i2dS X2.here hx rfl (hb hby at_29) rfl (v := (FP.i2d px)) rfl ?_
    show Steps p.tables e below (T2.setTop (mkF m 30 #[.val (.int pk), .val (.int px), .val (.int py), .val (.int pz), .val (.int pw), .val (.int (1 : Int32)), .val (.ref b1), .val (.long (0 : Int64)), .second, .unset, .unset, .unset, .unset] [(.double (FP.i2d px)), (.ref b1)])) _
    refine st3.trans ?_
    show Steps p.tables e below (T3.setTop (mkF m 33 #[.val (.int pk), .val (.int px), .val (.int py), .val (.int pz), .val (.int pw), .val (.int (1 : Int32)), .val (.ref b1), .val (.long (0 : Int64)), .second, .unset, .unset, .unset, .unset] [])) _
    refine XS.lload X3.here hx rfl (hb hby at_33) rfl ?_
    show Steps p.tables e below (T3.setTop (mkF m 35 #[.val (.int pk), .val (.int px), .val (.int py), .val (.int pz), .val (.int pw), .val (.int (1 : Int32)), .val (.ref b1), .val (.long (0 : Int64)), .second, .unset, .unset, .unset, .unset] [(.long (0 : Int64))])) _
    refine XS.iloadN X3.here hx rfl (hb hby at_35) rfl ?_
    show Steps p.tables e below (T3.setTop (mkF m 36 #[.val (.int pk), .val (.int px), .val (.int py), .val (.int pz), .val (.int pw), .val (.int (1 : Int32)), .val (.ref b1), .val (.long (0 : Int64)), .second, .unset, .unset, .unset, .unset] [(.int px), (.long (0 : Int64))])) _
    refine XS.i2l X3.here hx rfl (hb hby at_36) rfl ?_
    show Steps p.tables e below (T3.setTop (mkF m 37 #[.val (.int pk), .val (.int px), .val (.int py), .val (.int pz), .val (.int pw), .val (.int (1 : Int32)), .val (.ref b1), .val (.long (0 : Int64)), .second, .unset, .unset, .unset, .unset] [(.long (px.toInt64)), (.long (0 : Int64))])) _
    refine XS.ladd X3.here hx rfl (hb hby at_37) rfl ?_
    show Steps p.tables e below (T3.setTop (mkF m 38 #[.val (.int pk), .val (.int px), .val (.int py), .val (.int pz), .val (.int pw), .val (.int (1 : Int32)), .val (.ref b1), .val (.long (0 : Int64)), .second, .unset, .unset, .unset, .unset] [(.long ((0 : Int64) + (px.toInt64)))])) _
    refine XS.lstore X3.here hx rfl (hb hby at_38) rfl (l' := #[.val (.int pk), .val (.int px), .val (.int py), .val (.int pz), .val (.int pw), .val (.int (1 : Int32)), .val (.ref b1), .val (.long ((0 : Int64) + (px.toInt64))), .second, .unset, .unset, .unset, .unset]) rfl ?_
    show Steps p.tables e below (T3.setTop (mkF m 40 #[.val (.int pk), .val (.int px), .val (.int py), .val (.int pz), .val (.int pw), .val (.int (1 : Int32)), .val (.ref b1), .val (.long ((0 : Int64) + (px.toInt64))), .second, .unset, .unset, .unset, .unset] [])) _
    refine XS.iload X3.here hx rfl (hb hby at_40) rfl ?_
    show Steps p.tables e below (T3.setTop (mkF m 42 #[.val (.int pk), .val (.int px), .val (.int py), .val (.int pz), .val (.int pw), .val (.int (1 : Int32)), .val (.ref b1), .val (.long ((0 : Int64) + (px.toInt64))), .second, .unset, .unset, .unset, .unset] [(.int (1 : Int32))])) _
    refine XS.iconst X3.here hx rfl (hb hby at_42) ?_
    show Steps p.tables e below (T3.setTop (mkF m 43 #[.val (.int pk), .val (.int px), .val (.int py), .val (.int pz), .val (.int pw), .val (.int (1 : Int32)), .val (.ref b1), .val (.long ((0 : Int64) + (px.toInt64))), .second, .unset, .unset, .unset, .unset] [(.int (2 : Int32)), (.int (1 : Int32))])) _
    refine XS.icmpYes X3.here hx rfl (pc0 := 43) (pc' := 60) rfl (hb hby at_43) rfl (tlt (by decide : (1 : Int32) < (2 : Int32))).1 (by decide) (by decide) ?_
    show Steps p.tables e below (T3.setTop (mkF m 60 #[.val (.int pk), .val (.int px), .val (.int py), .val (.int pz), .val (.int pw), .val (.int (1 : Int32)), .val (.ref b1), .val (.long ((0 : Int64) + (px.toInt64))), .second, .unset, .unset, .unset, .unset] [])) _
    refine XS.iload X3.here hx rfl (hb hby at_60) rfl ?_
    show Steps p.tables e below (T3.setTop (mkF m 62 #[.val (.int pk), .val (.int px), .val (.int py), .val (.int pz), .val (.int pw), .val (.int (1 : Int32)), .val (.ref b1), .val (.long ((0 : Int64) + (px.toInt64))), .second, .unset, .unset, .unset, .unset] [(.int (1 : Int32))])) _
    refine XS.iconst X3.here hx rfl (hb hby at_62) ?_
    show Steps p.tables e below (T3.setTop (mkF m 63 #[.val (.int pk), .val (.int px), .val (.int py), .val (.int pz), .val (.int pw), .val (.int (1 : Int32)), .val (.ref b1), .val (.long ((0 : Int64) + (px.toInt64))), .second, .unset, .unset, .unset, .unset] [(.int (3 : Int32)), (.int (1 : Int32))])) _
    refine XS.icmpYes X3.here hx rfl (pc0 := 63) (pc' := 80) rfl (hb hby at_63) rfl (tlt (by decide : (1 : Int32) < (3 : Int32))).1 (by decide) (by decide) ?_
    show Steps p.tables e below (T3.setTop (mkF m 80 #[.val (.int pk), .val (.int px), .val (.int py), .val (.int pz), .val (.int pw), .val (.int (1 : Int32)), .val (.ref b1), .val (.long ((0 : Int64) + (px.toInt64))), .second, .unset, .unset, .unset, .unset] [])) _
    refine XS.iload X3.here hx rfl (hb hby at_80) rfl ?_
    show Steps p.tables e below (T3.setTop (mkF m 82 #[.val (.int pk), .val (.int px), .val (.int py), .val (.int pz), .val (.int pw), .val (.int (1 : Int32)), .val (.ref b1), .val (.long ((0 : Int64) + (px.toInt64))), .second, .unset, .unset, .unset, .unset] [(.int (1 : Int32))])) _
    refine XS.iconst X3.here hx rfl (hb hby at_82) ?_
    show Steps p.tables e below (T3.setTop (mkF m 83 #[.val (.int pk), .val (.int px), .val (.int py), .val (.int pz), .val (.int pw), .val (.int (1 : Int32)), .val (.ref b1), .val (.long ((0 : Int64) + (px.toInt64))), .second, .unset, .unset, .unset, .unset] [(.int (4 : Int32)), (.int (1 : Int32))])) _
    refine XS.icmpYes X3.here hx rfl (pc0 := 83) (pc' := 102) rfl (hb hby at_83) rfl (tlt (by decide : (1 : Int32) < (4 : Int32))).1 (by decide) (by decide) ?_
    show Steps p.tables e below (T3.setTop (mkF m 102 #[.val (.int pk), .val (.int px), .val (.int py), .val (.int pz), .val (.int pw), .val (.int (1 : Int32)), .val (.ref b1), .val (.long ((0 : Int64) + (px.toInt64))), .second, .unset, .unset, .unset, .unset] [])) _
    refine XS.aload X3.here hx rfl (hb hby at_102) rfl rfl ?_
    show Steps p.tables e below (T3.setTop (mkF m 104 #[.val (.int pk), .val (.int px), .val (.int py), .val (.int pz), .val (.int pw), .val (.int (1 : Int32)), .val (.ref b1), .val (.long ((0 : Int64) + (px.toInt64))), .second, .unset, .unset, .unset, .unset] [(.ref b1)])) _
    refine st4.trans ?_
    show Steps p.tables e below (T4.setTop (mkF m 107 #[.val (.int pk), .val (.int px), .val (.int py), .val (.int pz), .val (.int pw), .val (.int (1 : Int32)), .val (.ref b1), .val (.long ((0 : Int64) + (px.toInt64))), .second, .unset, .unset, .unset, .unset] [(.double (FP.ddiv (FP.l2d ((0 : Int64) + (px.toInt64))) (FP.i2d (1 : Int32))))])) _
    refine XS.dstore X4.here hx rfl (hb hby at_107) rfl (l' := #[.val (.int pk), .val (.int px), .val (.int py), .val (.int pz), .val (.int pw), .val (.int (1 : Int32)), .val (.ref b1), .val (.long ((0 : Int64) + (px.toInt64))), .second, .val (.double (FP.ddiv (FP.l2d ((0 : Int64) + (px.toInt64))) (FP.i2d (1 : Int32)))), .second, .unset, .unset]) rfl ?_
    show Steps p.tables e below (T4.setTop (mkF m 109 #[.val (.int pk), .val (.int px), .val (.int py), .val (.int pz), .val (.int pw), .val (.int (1 : Int32)), .val (.ref b1), .val (.long ((0 : Int64) + (px.toInt64))), .second, .val (.double (FP.ddiv (FP.l2d ((0 : Int64) + (px.toInt64))) (FP.i2d (1 : Int32)))), .second, .unset, .unset] [])) _
    refine XS.iload X4.here hx rfl (hb hby at_109) rfl ?_
    show Steps p.tables e below (T4.setTop (mkF m 111 #[.val (.int pk), .val (.int px), .val (.int py), .val (.int pz), .val (.int pw), .val (.int (1 : Int32)), .val (.ref b1), .val (.long ((0 : Int64) + (px.toInt64))), .second, .val (.double (FP.ddiv (FP.l2d ((0 : Int64) + (px.toInt64))) (FP.i2d (1 : Int32)))), .second, .unset, .unset] [(.int (1 : Int32))])) _
    refine XS.ifYes X4.here hx rfl (pc0 := 111) (pc' := 118) rfl (hb hby at_111) rfl ((if0 _ _).trans (feq (by decide : ¬ ((1 : Int32) = (0 : Int32)))).2) (by decide) (by decide) ?_
    show Steps p.tables e below (T4.setTop (mkF m 118 #[.val (.int pk), .val (.int px), .val (.int py), .val (.int pz), .val (.int pw), .val (.int (1 : Int32)), .val (.ref b1), .val (.long ((0 : Int64) + (px.toInt64))), .second, .val (.double (FP.ddiv (FP.l2d ((0 : Int64) + (px.toInt64))) (FP.i2d (1 : Int32)))), .second, .unset, .unset] [])) _
    refine XS.lload X4.here hx rfl (hb hby at_118) rfl ?_
    show Steps p.tables e below (T4.setTop (mkF m 120 #[.val (.int pk), .val (.int px), .val (.int py), .val (.int pz), .val (.int pw), .val (.int (1 : Int32)), .val (.ref b1), .val (.long ((0 : Int64) + (px.toInt64))), .second, .val (.double (FP.ddiv (FP.l2d ((0 : Int64) + (px.toInt64))) (FP.i2d (1 : Int32)))), .second, .unset, .unset] [(.long ((0 : Int64) + (px.toInt64)))])) _
    refine XS.l2dS X4.here hx rfl (hb hby at_120) rfl (v := (FP.l2d ((0 : Int64) + (px.toInt64)))) rfl ?_
    show Steps p.tables e below (T4.setTop (mkF m 121 #[.val (.int pk), .val (.int px), .val (.int py), .val (.int pz), .val (.int pw), .val (.int (1 : Int32)), .val (.ref b1), .val (.long ((0 : Int64) + (px.toInt64))), .second, .val (.double (FP.ddiv (FP.l2d ((0 : Int64) + (px.toInt64))) (FP.i2d (1 : Int32)))), .second, .unset, .unset] [(.double (FP.l2d ((0 : Int64) + (px.toInt64))))])) _
    refine XS.iload X4.here hx rfl (hb hby at_121) rfl ?_
    show Steps p.tables e below (T4.setTop (mkF m 123 #[.val (.int pk), .val (.int px), .val (.int py), .val (.int pz), .val (.int pw), .val (.int (1 : Int32)), .val (.ref b1), .val (.long ((0 : Int64) + (px.toInt64))), .second, .val (.double (FP.ddiv (FP.l2d ((0 : Int64) + (px.toInt64))) (FP.i2d (1 : Int32)))), .second, .unset, .unset] [(.int (1 : Int32)), (.double (FP.l2d ((0 : Int64) + (px.toInt64))))])) _
    refine XS.i2dS X4.here hx rfl (hb hby at_123) rfl (v := (FP.i2d (1 : Int32))) rfl ?_
    show Steps p.tables e below (T4.setTop (mkF m 124 #[.val (.int pk), .val (.int px), .val (.int py), .val (.int pz), .val (.int pw), .val (.int (1 : Int32)), .val (.ref b1), .val (.long ((0 : Int64) + (px.toInt64))), .second, .val (.double (FP.ddiv (FP.l2d ((0 : Int64) + (px.toInt64))) (FP.i2d (1 : Int32)))), .second, .unset, .unset] [(.double (FP.i2d (1 : Int32))), (.double (FP.l2d ((0 : Int64) + (px.toInt64))))])) _
    refine XS.ddivS X4.here hx rfl (hb hby at_124) rfl (own_dv ((0 : Int64) + (px.toInt64)) (by decide)) (v := (FP.ddiv (FP.l2d ((0 : Int64) + (px.toInt64))) (FP.i2d (1 : Int32)))) rfl ?_
    show Steps p.tables e below (T4.setTop (mkF m 125 #[.val (.int pk), .val (.int px), .val (.int py), .val (.int pz), .val (.int pw), .val (.int (1 : Int32)), .val (.ref b1), .val (.long ((0 : Int64) + (px.toInt64))), .second, .val (.double (FP.ddiv (FP.l2d ((0 : Int64) + (px.toInt64))) (FP.i2d (1 : Int32)))), .second, .unset, .unset] [(.double (FP.ddiv (FP.l2d ((0 : Int64) + (px.toInt64))) (FP.i2d (1 : Int32))))])) _
    refine XS.dstore X4.here hx rfl (hb hby at_125) rfl (l' := #[.val (.int pk), .val (.int px), .val (.int py), .val (.int pz), .val (.int pw), .val (.int (1 : Int32)), .val (.ref b1), .val (.long ((0 : Int64) + (px.toInt64))), .second, .val (.double (FP.ddiv (FP.l2d ((0 : Int64) + (px.toInt64))) (FP.i2d (1 : Int32)))), .second, .val (.double (FP.ddiv (FP.l2d ((0 : Int64) + (px.toInt64))) (FP.i2d (1 : Int32)))), .second]) rfl ?_
    show Steps p.tables e below (T4.setTop (mkF m 127 #[.val (.int pk), .val (.int px), .val (.int py), .val (.int pz), .val (.int pw), .val (.int (1 : Int32)), .val (.ref b1), .val (.long ((0 : Int64) + (px.toInt64))), .second, .val (.double (FP.ddiv (FP.l2d ((0 : Int64) + (px.toInt64))) (FP.i2d (1 : Int32)))), .second, .val (.double (FP.ddiv (FP.l2d ((0 : Int64) + (px.toInt64))) (FP.i2d (1 : Int32)))), .second] [])) _
    refine XS.dload X4.here hx rfl (hb hby at_127) rfl ?_
    show Steps p.tables e below (T4.setTop (mkF m 129 #[.val (.int pk), .val (.int px), .val (.int py), .val (.int pz), .val (.int pw), .val (.int (1 : Int32)), .val (.ref b1), .val (.long ((0 : Int64) + (px.toInt64))), .second, .val (.double (FP.ddiv (FP.l2d ((0 : Int64) + (px.toInt64))) (FP.i2d (1 : Int32)))), .second, .val (.double (FP.ddiv (FP.l2d ((0 : Int64) + (px.toInt64))) (FP.i2d (1 : Int32)))), .second] [(.double (FP.ddiv (FP.l2d ((0 : Int64) + (px.toInt64))) (FP.i2d (1 : Int32))))])) _
    refine XS.dload X4.here hx rfl (hb hby at_129) rfl ?_
    show Steps p.tables e below (T4.setTop (mkF m 131 #[.val (.int pk), .val (.int px), .val (.int py), .val (.int pz), .val (.int pw), .val (.int (1 : Int32)), .val (.ref b1), .val (.long ((0 : Int64) + (px.toInt64))), .second, .val (.double (FP.ddiv (FP.l2d ((0 : Int64) + (px.toInt64))) (FP.i2d (1 : Int32)))), .second, .val (.double (FP.ddiv (FP.l2d ((0 : Int64) + (px.toInt64))) (FP.i2d (1 : Int32)))), .second] [(.double (FP.ddiv (FP.l2d ((0 : Int64) + (px.toInt64))) (FP.i2d (1 : Int32)))), (.double (FP.ddiv (FP.l2d ((0 : Int64) + (px.toInt64))) (FP.i2d (1 : Int32))))])) _
    refine XS.dcmpS X4.here hx rfl (hb hby at_131) rfl (v := (0 : Int32)) (dcmpV_self (own_dv ((0 : Int64) + (px.toInt64)) (by decide)) _) ?_
    show Steps p.tables e below (T4.setTop (mkF m 132 #[.val (.int pk), .val (.int px), .val (.int py), .val (.int pz), .val (.int pw), .val (.int (1 : Int32)), .val (.ref b1), .val (.long ((0 : Int64) + (px.toInt64))), .second, .val (.double (FP.ddiv (FP.l2d ((0 : Int64) + (px.toInt64))) (FP.i2d (1 : Int32)))), .second, .val (.double (FP.ddiv (FP.l2d ((0 : Int64) + (px.toInt64))) (FP.i2d (1 : Int32)))), .second] [(.int (0 : Int32))])) _
    refine XS.ifNo X4.here hx rfl (hb hby at_132) rfl ((if0 _ _).trans (teq (by decide : (0 : Int32) = (0 : Int32))).2) ?_
    show Steps p.tables e below (T4.setTop (mkF m 135 #[.val (.int pk), .val (.int px), .val (.int py), .val (.int pz), .val (.int pw), .val (.int (1 : Int32)), .val (.ref b1), .val (.long ((0 : Int64) + (px.toInt64))), .second, .val (.double (FP.ddiv (FP.l2d ((0 : Int64) + (px.toInt64))) (FP.i2d (1 : Int32)))), .second, .val (.double (FP.ddiv (FP.l2d ((0 : Int64) + (px.toInt64))) (FP.i2d (1 : Int32)))), .second] [])) _
    refine XS.iconst X4.here hx rfl (hb hby at_135) ?_
    show Steps p.tables e below (T4.setTop (mkF m 136 #[.val (.int pk), .val (.int px), .val (.int py), .val (.int pz), .val (.int pw), .val (.int (1 : Int32)), .val (.ref b1), .val (.long ((0 : Int64) + (px.toInt64))), .second, .val (.double (FP.ddiv (FP.l2d ((0 : Int64) + (px.toInt64))) (FP.i2d (1 : Int32)))), .second, .val (.double (FP.ddiv (FP.l2d ((0 : Int64) + (px.toInt64))) (FP.i2d (1 : Int32)))), .second] [(.int (1 : Int32))])) _
    refine XS.goto X4.here hx rfl (pc0 := 136) (pc' := 140) rfl (hb hby at_136) (by decide) (by decide) ?_
    show Steps p.tables e below (T4.setTop (mkF m 140 #[.val (.int pk), .val (.int px), .val (.int py), .val (.int pz), .val (.int pw), .val (.int (1 : Int32)), .val (.ref b1), .val (.long ((0 : Int64) + (px.toInt64))), .second, .val (.double (FP.ddiv (FP.l2d ((0 : Int64) + (px.toInt64))) (FP.i2d (1 : Int32)))), .second, .val (.double (FP.ddiv (FP.l2d ((0 : Int64) + (px.toInt64))) (FP.i2d (1 : Int32)))), .second] [(.int (1 : Int32))])) _
    exact retN X4 hx (t := .boolean) Bd.returns (by simp) (hb hby at_140) hr
  · show QL n0 _ T4.heap _
    rw [eq4]
    exact ⟨rfl, N4⟩
set_option maxRecDepth 65536 in
set_option maxHeartbeats 40000000 in
theorem rm02 (l : Launch) (Z : State) (a0 : Array Value) (hw : ∀ d ∈ tables_1, d.before a0 Z = true) (ws : List Jvm.Cond) (pk px py pz pw : Int32) (h0 : Heap) (n0 : Nat) (Z0 : n0 ≤ h0.size) (hn5 : ((pk &&& (2147483647 : Int32)) % (5 : Int32)) = (2 : Int32))  :
    MetFree l x (head1 (Jvm.Cond.code x code maxLocals ret :: ws) room_1) (fun a U => a = #[(.int pk), (.int px), (.int py), (.int pz), (.int pw)] ∧ Z.Warmed39 U.vm ∧ U.heap = h0) (fun _ _ _ _ _ => True) (fun _ U o U' => ∃ v L, o = .returned v ∧ QL n0 v U'.heap L ∧ FrameEnd U o U' L 1 4) := by
  refine MetFree.of_bodySF (plainFor_of_name pn_com_example_bytegauge_bytegauge_stats_TallyMeanPinLaw) hisR ?_
  intro p e s m args below meth c s₁ Bd hml0 hP hK
  obtain ⟨rfl, hZ, hh⟩ := hP
  have hx := Bd.exec
  have hby := Bd.bytes
  have hml : c.maxLocals = 13 := hml0
  have hown : s.vm.findClass "com/example/bytegauge/bytegauge/stats/TallyMeanPinLaw" = some m.cls := findClass_of_methodNamed Bd.named
  have hnm := (name_of_methodNamed Bd.named Bd.method).1
  have X0 : Stand p l e room_1 s m #[(.int pk), (.int px), (.int py), (.int pz), (.int pw)] below meth c s₁ [] 0 0 := Stand.of_body Bd
  have e0 : s₁.heap = h0 := by rw [← hh, Bd.state]; rfl
  have N0 := Fr.nil n0
  have pre0 : ∀ t, Steps p.tables e below (s₁.setTop (mkF m 0 #[.val (.int pk), .val (.int px), .val (.int py), .val (.int pz), .val (.int pw), .unset, .unset, .unset, .unset, .unset, .unset, .unset, .unset] [])) t → Steps p.tables e below (s₁.setTop (entryFrame m #[(.int pk), (.int px), (.int py), (.int pz), (.int pw)] maxLocals)) t := fun t k => castTop (ef_code m pk px py pz pw) k
  obtain ⟨T1, h1, X1, e1, E1, A1, D1, -, st1⟩ := newO X0 hx hZ hown (hw _ (List.mem_of_getElem? (i := 1) rfl)) (hw _ (List.mem_of_getElem? (i := 2) rfl)) (hw _ (List.mem_of_getElem? (i := 3) rfl)) e0 (g := (mkF m 8 #[.val (.int pk), .val (.int px), .val (.int py), .val (.int pz), .val (.int pw), .val (.int (2 : Int32)), .unset, .unset, .unset, .unset, .unset, .unset, .unset] [])) rfl (hb hby at_8) (by decide) (by decide)
  obtain ⟨b1, g1⟩ : ∃ z, z = h0.size := ⟨_, rfl⟩
  rw [← g1] at A1 D1 st1
  have g_b1 : n0 ≤ b1 := Nat.le_trans Z0 (Nat.le_of_eq g1.symm)
  have SZ1 := Nat.le_trans Z0 E1.1
  have F1_count : Fld Z h1 b1 "com/example/bytegauge/bytegauge/stats/Tally" "count" "I" (.int (0 : Int32)) := D1 (Or.inl (hw _ (List.mem_of_getElem? (i := 16) rfl))) (ty := .int) (by decide)
  have F1_sum : Fld Z h1 b1 "com/example/bytegauge/bytegauge/stats/Tally" "sum" "D" (.double (0 : UInt64)) := D1 (Or.inl (hw _ (List.mem_of_getElem? (i := 24) rfl))) (ty := .double) (by decide)
  have F1_running : Fld Z h1 b1 "com/example/bytegauge/bytegauge/stats/Tally" "running" "D" (.double (0 : UInt64)) := D1 (Or.inl (hw _ (List.mem_of_getElem? (i := 26) rfl))) (ty := .double) (by decide)
  have F1_squares : Fld Z h1 b1 "com/example/bytegauge/bytegauge/stats/Tally" "squares" "D" (.double (0 : UInt64)) := D1 (Or.inl (hw _ (List.mem_of_getElem? (i := 28) rfl))) (ty := .double) (by decide)
  obtain ⟨_, _, ⟨T2, L2, k2, n2⟩, -, X2, ⟨Lc2, hQ2, l2, y2, z2⟩, st2⟩ := X1.specialBack hx (y := (⟨"com/example/bytegauge/bytegauge/stats/Tally", "<init>", "()V"⟩ : MethodName)) rfl hown (mvT hZ (hw _ (List.mem_of_getElem? (i := 4) rfl))) (mvT hZ (hw _ (List.mem_of_getElem? (i := 5) rfl))) (mvT hZ (hw _ (List.mem_of_getElem? (i := 6) rfl))) (by decide) (backOf (W := 1) (rmI l Z a0 hw [] b1 h1 n0 SZ1) hZ (hw _ (List.mem_of_getElem? (i := 6) rfl)) (hw _ (List.mem_of_getElem? (i := 3) rfl)) (by decide) (by decide)) (g := (mkF m 12 #[.val (.int pk), .val (.int px), .val (.int py), .val (.int pz), .val (.int pw), .val (.int (2 : Int32)), .unset, .unset, .unset, .unset, .unset, .unset, .unset] [(.ref b1), (.ref b1)])) rfl (by rw [hml]; rfl) (Steps.refl _) (a := b1) (argsL := []) (rest := [(.ref b1)]) (lenOf pd___V rfl) rfl (by show 2 * 0 + _ ≤ _; exact Nat.le_of_eq rfl) (hb hby at_12) (fun _ _ => ⟨rfl, e1, (by decide : 1 + 0 ≤ _), (by decide : 4 + 0 ≤ _)⟩)
  dsimp only [Pt.U, Pt.locs, Pt.cells, Pt.slots] at X2 l2 y2 z2 st2 hQ2
  subst l2 y2 z2
  obtain ⟨rfl, N2q, eq2⟩ := hQ2
  have N2 := Fr.app N0 N2q
  obtain ⟨cq3, kq3, q3a, q3b, q3c⟩ := isOf hZ eq2 A1
  obtain ⟨_, _, ⟨T3, L3, k3, n3⟩, -, X3, ⟨Lc3, hQ3, l3, y3, z3⟩, st3⟩ := X2.virtualBack hx (y := (⟨"com/example/bytegauge/bytegauge/stats/Tally", "add", "(D)V"⟩ : MethodName)) (z := (⟨"com/example/bytegauge/bytegauge/stats/Tally", "add", "(D)V"⟩ : MethodName)) hown (mvT hZ (hw _ (List.mem_of_getElem? (i := 17) rfl))) (mvT hZ (hw _ (List.mem_of_getElem? (i := 18) rfl))) (notFace_of_selects (args := #[]) (mvT hZ (hw _ (List.mem_of_getElem? (i := 20) rfl)))) (mvT hZ (hw _ (List.mem_of_getElem? (i := 20) rfl))) (mvT hZ (hw _ (List.mem_of_getElem? (i := 19) rfl))) (by decide) (backOf (W := 0) (rmA l Z a0 hw [] b1 px (0 : Int32) (1 : Int32) (0 : Int64) (0 : UInt64) (0 : UInt64) 1056 h1 n0 SZ1 A1 F1_count (Fld.zeroD F1_sum) F1_running F1_squares g_b1 (by decide) (by decide) (by decide) (own_B 0 (Int.ofNat_le.mpr own_s0) (by decide)) (by decide) (by decide) own_mag0 own_nn0) hZ (hw _ (List.mem_of_getElem? (i := 21) rfl)) (hw _ (List.mem_of_getElem? (i := 3) rfl)) (by decide) (by decide)) q3a q3c (g := (mkF m 30 #[.val (.int pk), .val (.int px), .val (.int py), .val (.int pz), .val (.int pw), .val (.int (2 : Int32)), .val (.ref b1), .val (.long (0 : Int64)), .second, .unset, .unset, .unset, .unset] [(.double (FP.i2d px)), (.ref b1)])) rfl (by rw [hml]; rfl) (Steps.refl _) (argsL := [(.double (FP.i2d px))]) (rest := []) (lenOf pd__D_V rfl) rfl (by show 2 * 0 + _ ≤ _; exact Nat.le_of_eq rfl) (hb hby at_30) (fun _ _ => ⟨rfl, eq2, (by decide : 1 + 0 ≤ _), (by decide : 4 + 0 ≤ _)⟩)
  dsimp only [Pt.U, Pt.locs, Pt.cells, Pt.slots] at X3 l3 y3 z3 st3 hQ3
  subst l3 y3 z3
  obtain ⟨rn3, sq3, rfl, N3q, K3q, E3q, F3q0, F3q1, F3q2, F3q3, M3q, NN3q⟩ := hQ3
  have c3_0 := A1.keep K3q
  have SZ3 := Nat.le_trans SZ1 K3q.1
  have N3 := Fr.app N2 N3q
  obtain ⟨cq4, kq4, q4a, q4b, q4c⟩ := isOf hZ rfl E3q
  obtain ⟨_, _, ⟨T4, L4, k4, n4⟩, -, X4, ⟨Lc4, hQ4, l4, y4, z4⟩, st4⟩ := X3.virtualBack hx (y := (⟨"com/example/bytegauge/bytegauge/stats/Tally", "add", "(D)V"⟩ : MethodName)) (z := (⟨"com/example/bytegauge/bytegauge/stats/Tally", "add", "(D)V"⟩ : MethodName)) hown (mvT hZ (hw _ (List.mem_of_getElem? (i := 17) rfl))) (mvT hZ (hw _ (List.mem_of_getElem? (i := 18) rfl))) (notFace_of_selects (args := #[]) (mvT hZ (hw _ (List.mem_of_getElem? (i := 20) rfl)))) (mvT hZ (hw _ (List.mem_of_getElem? (i := 20) rfl))) (mvT hZ (hw _ (List.mem_of_getElem? (i := 19) rfl))) (by decide) (backOf (W := 0) (rmA l Z a0 hw [] b1 py (1 : Int32) (2 : Int32) ((0 : Int64) + (px.toInt64)) rn3 sq3 1061 T3.heap n0 SZ3 E3q F3q0 F3q1 F3q2 F3q3 g_b1 (by decide) (by decide) (by decide) (own_B 2147483648 (Int.ofNat_le.mpr (own_step own_s0 (by decide) px)) (by decide)) (by decide) (by decide) M3q NN3q) hZ (hw _ (List.mem_of_getElem? (i := 21) rfl)) (hw _ (List.mem_of_getElem? (i := 3) rfl)) (by decide) (by decide)) q4a q4c (g := (mkF m 50 #[.val (.int pk), .val (.int px), .val (.int py), .val (.int pz), .val (.int pw), .val (.int (2 : Int32)), .val (.ref b1), .val (.long ((0 : Int64) + (px.toInt64))), .second, .unset, .unset, .unset, .unset] [(.double (FP.i2d py)), (.ref b1)])) rfl (by rw [hml]; rfl) (Steps.refl _) (argsL := [(.double (FP.i2d py))]) (rest := []) (lenOf pd__D_V rfl) rfl (by show 2 * 0 + _ ≤ _; exact Nat.le_of_eq rfl) (hb hby at_50) (fun _ _ => ⟨rfl, rfl, (by decide : 1 + 0 ≤ _), (by decide : 4 + 0 ≤ _)⟩)
  dsimp only [Pt.U, Pt.locs, Pt.cells, Pt.slots] at X4 l4 y4 z4 st4 hQ4
  subst l4 y4 z4
  obtain ⟨rn4, sq4, rfl, N4q, K4q, E4q, F4q0, F4q1, F4q2, F4q3, M4q, NN4q⟩ := hQ4
  have c4_0 := E3q.keep K4q
  have SZ4 := Nat.le_trans SZ3 K4q.1
  have N4 := Fr.app N3 N4q
  obtain ⟨cq5, kq5, q5a, q5b, q5c⟩ := isOf hZ rfl E4q
  obtain ⟨_, _, ⟨T5, L5, k5, n5⟩, -, X5, ⟨Lc5, hQ5, l5, y5, z5⟩, st5⟩ := X4.virtualBack hx (y := (⟨"com/example/bytegauge/bytegauge/stats/Tally", "mean", "()D"⟩ : MethodName)) (z := (⟨"com/example/bytegauge/bytegauge/stats/Tally", "mean", "()D"⟩ : MethodName)) hown (mvT hZ (hw _ (List.mem_of_getElem? (i := 10) rfl))) (mvT hZ (hw _ (List.mem_of_getElem? (i := 11) rfl))) (notFace_of_selects (args := #[]) (mvT hZ (hw _ (List.mem_of_getElem? (i := 13) rfl)))) (mvT hZ (hw _ (List.mem_of_getElem? (i := 13) rfl))) (mvT hZ (hw _ (List.mem_of_getElem? (i := 12) rfl))) (by decide) (backOf (W := 0) (rmM1 l Z a0 hw [] b1 (2 : Int32) (((0 : Int64) + (px.toInt64)) + (py.toInt64)) T4.heap n0 SZ4 F4q0 F4q1 (by decide)) hZ (hw _ (List.mem_of_getElem? (i := 14) rfl)) (hw _ (List.mem_of_getElem? (i := 3) rfl)) (by decide) (by decide)) q5a q5c (g := (mkF m 104 #[.val (.int pk), .val (.int px), .val (.int py), .val (.int pz), .val (.int pw), .val (.int (2 : Int32)), .val (.ref b1), .val (.long (((0 : Int64) + (px.toInt64)) + (py.toInt64))), .second, .unset, .unset, .unset, .unset] [(.ref b1)])) rfl (by rw [hml]; rfl) (Steps.refl _) (argsL := []) (rest := []) (lenOf pd___D rfl) rfl (by show 2 * 0 + _ ≤ _; exact Nat.le_of_eq rfl) (hb hby at_104) (fun _ _ => ⟨rfl, rfl, (by decide : 1 + 0 ≤ _), (by decide : 4 + 0 ≤ _)⟩)
  dsimp only [Pt.U, Pt.locs, Pt.cells, Pt.slots] at X5 l5 y5 z5 st5 hQ5
  subst l5 y5 z5
  obtain ⟨rfl, N5q, eq5⟩ := hQ5
  have N5 := Fr.app N4 N5q
  obtain ⟨fs, hr, hrun, hended, hW, hsame⟩ := X5.leave (v := some (.int (1 : Int32))) (fun h => by rw [Bd.returns] at h; cases h)
  refine ⟨_, _, pre0 _ ?_, hrun, hended, _, _, rfl, ?_, ⟨_, rfl⟩, hW, hsame.mono (by decide) (by decide)⟩
  · show Steps p.tables e below (s₁.setTop (mkF m 0 #[.val (.int pk), .val (.int px), .val (.int py), .val (.int pz), .val (.int pw), .unset, .unset, .unset, .unset, .unset, .unset, .unset, .unset] [])) _
    refine XS.iloadN X0.here hx rfl (hb hby at_0) rfl ?_
    show Steps p.tables e below (s₁.setTop (mkF m 1 #[.val (.int pk), .val (.int px), .val (.int py), .val (.int pz), .val (.int pw), .unset, .unset, .unset, .unset, .unset, .unset, .unset, .unset] [(.int pk)])) _
    refine X0.ldcInt hx hown (mvT hZ (hw _ (List.mem_of_getElem? (i := 0) rfl))) (g := (mkF m 1 #[.val (.int pk), .val (.int px), .val (.int py), .val (.int pz), .val (.int pw), .unset, .unset, .unset, .unset, .unset, .unset, .unset, .unset] [(.int pk)])) rfl (hb hby at_1) _ ?_
    show Steps p.tables e below (s₁.setTop (mkF m 3 #[.val (.int pk), .val (.int px), .val (.int py), .val (.int pz), .val (.int pw), .unset, .unset, .unset, .unset, .unset, .unset, .unset, .unset] [(.int (2147483647 : Int32)), (.int pk)])) _
    refine XS.iand X0.here hx rfl (hb hby at_3) rfl ?_
    show Steps p.tables e below (s₁.setTop (mkF m 4 #[.val (.int pk), .val (.int px), .val (.int py), .val (.int pz), .val (.int pw), .unset, .unset, .unset, .unset, .unset, .unset, .unset, .unset] [(.int (pk &&& (2147483647 : Int32)))])) _
    refine XS.iconst X0.here hx rfl (hb hby at_4) ?_
    show Steps p.tables e below (s₁.setTop (mkF m 5 #[.val (.int pk), .val (.int px), .val (.int py), .val (.int pz), .val (.int pw), .unset, .unset, .unset, .unset, .unset, .unset, .unset, .unset] [(.int (5 : Int32)), (.int (pk &&& (2147483647 : Int32)))])) _
    refine iremM X0 hx rfl (hb hby at_5) rfl (by decide) ?_
    show Steps p.tables e below (s₁.setTop (mkF m 6 #[.val (.int pk), .val (.int px), .val (.int py), .val (.int pz), .val (.int pw), .unset, .unset, .unset, .unset, .unset, .unset, .unset, .unset] [(.int ((pk &&& (2147483647 : Int32)) % (5 : Int32)))])) _
    rw [show ((pk &&& (2147483647 : Int32)) % (5 : Int32)) = (2 : Int32) from hn5]
    show Steps p.tables e below (s₁.setTop (mkF m 6 #[.val (.int pk), .val (.int px), .val (.int py), .val (.int pz), .val (.int pw), .unset, .unset, .unset, .unset, .unset, .unset, .unset, .unset] [(.int (2 : Int32))])) _
    refine XS.istore X0.here hx rfl (hb hby at_6) rfl (l' := #[.val (.int pk), .val (.int px), .val (.int py), .val (.int pz), .val (.int pw), .val (.int (2 : Int32)), .unset, .unset, .unset, .unset, .unset, .unset, .unset]) rfl ?_
    show Steps p.tables e below (s₁.setTop (mkF m 8 #[.val (.int pk), .val (.int px), .val (.int py), .val (.int pz), .val (.int pw), .val (.int (2 : Int32)), .unset, .unset, .unset, .unset, .unset, .unset, .unset] [])) _
    refine st1 _ ?_
    show Steps p.tables e below (T1.setTop (mkF m 11 #[.val (.int pk), .val (.int px), .val (.int py), .val (.int pz), .val (.int pw), .val (.int (2 : Int32)), .unset, .unset, .unset, .unset, .unset, .unset, .unset] [(.ref b1)])) _
    refine XS.dup X1.here hx rfl (hb hby at_11) rfl rfl ?_
    show Steps p.tables e below (T1.setTop (mkF m 12 #[.val (.int pk), .val (.int px), .val (.int py), .val (.int pz), .val (.int pw), .val (.int (2 : Int32)), .unset, .unset, .unset, .unset, .unset, .unset, .unset] [(.ref b1), (.ref b1)])) _
    refine st2.trans ?_
    show Steps p.tables e below (T2.setTop (mkF m 15 #[.val (.int pk), .val (.int px), .val (.int py), .val (.int pz), .val (.int pw), .val (.int (2 : Int32)), .unset, .unset, .unset, .unset, .unset, .unset, .unset] [(.ref b1)])) _
    refine XS.astore X2.here hx rfl (hb hby at_15) rfl rfl (l' := #[.val (.int pk), .val (.int px), .val (.int py), .val (.int pz), .val (.int pw), .val (.int (2 : Int32)), .val (.ref b1), .unset, .unset, .unset, .unset, .unset, .unset]) rfl ?_
    show Steps p.tables e below (T2.setTop (mkF m 17 #[.val (.int pk), .val (.int px), .val (.int py), .val (.int pz), .val (.int pw), .val (.int (2 : Int32)), .val (.ref b1), .unset, .unset, .unset, .unset, .unset, .unset] [])) _
    refine XS.lconst X2.here hx rfl (hb hby at_17) ?_
    show Steps p.tables e below (T2.setTop (mkF m 18 #[.val (.int pk), .val (.int px), .val (.int py), .val (.int pz), .val (.int pw), .val (.int (2 : Int32)), .val (.ref b1), .unset, .unset, .unset, .unset, .unset, .unset] [(.long (0 : Int64))])) _
    refine XS.lstore X2.here hx rfl (hb hby at_18) rfl (l' := #[.val (.int pk), .val (.int px), .val (.int py), .val (.int pz), .val (.int pw), .val (.int (2 : Int32)), .val (.ref b1), .val (.long (0 : Int64)), .second, .unset, .unset, .unset, .unset]) rfl ?_
    show Steps p.tables e below (T2.setTop (mkF m 20 #[.val (.int pk), .val (.int px), .val (.int py), .val (.int pz), .val (.int pw), .val (.int (2 : Int32)), .val (.ref b1), .val (.long (0 : Int64)), .second, .unset, .unset, .unset, .unset] [])) _
    refine XS.iload X2.here hx rfl (hb hby at_20) rfl ?_
    show Steps p.tables e below (T2.setTop (mkF m 22 #[.val (.int pk), .val (.int px), .val (.int py), .val (.int pz), .val (.int pw), .val (.int (2 : Int32)), .val (.ref b1), .val (.long (0 : Int64)), .second, .unset, .unset, .unset, .unset] [(.int (2 : Int32))])) _
    refine XS.iconst X2.here hx rfl (hb hby at_22) ?_
    show Steps p.tables e below (T2.setTop (mkF m 23 #[.val (.int pk), .val (.int px), .val (.int py), .val (.int pz), .val (.int pw), .val (.int (2 : Int32)), .val (.ref b1), .val (.long (0 : Int64)), .second, .unset, .unset, .unset, .unset] [(.int (1 : Int32)), (.int (2 : Int32))])) _
    refine XS.icmpNo X2.here hx rfl (hb hby at_23) rfl (flt (by decide : ¬ ((2 : Int32) < (1 : Int32)))).1 ?_
    show Steps p.tables e below (T2.setTop (mkF m 26 #[.val (.int pk), .val (.int px), .val (.int py), .val (.int pz), .val (.int pw), .val (.int (2 : Int32)), .val (.ref b1), .val (.long (0 : Int64)), .second, .unset, .unset, .unset, .unset] [])) _
    refine XS.aload X2.here hx rfl (hb hby at_26) rfl rfl ?_
    show Steps p.tables e below (T2.setTop (mkF m 28 #[.val (.int pk), .val (.int px), .val (.int py), .val (.int pz), .val (.int pw), .val (.int (2 : Int32)), .val (.ref b1), .val (.long (0 : Int64)), .second, .unset, .unset, .unset, .unset] [(.ref b1)])) _
    refine XS.iloadN X2.here hx rfl (hb hby at_28) rfl ?_
    show Steps p.tables e below (T2.setTop (mkF m 29 #[.val (.int pk), .val (.int px), .val (.int py), .val (.int pz), .val (.int pw), .val (.int (2 : Int32)), .val (.ref b1), .val (.long (0 : Int64)), .second, .unset, .unset, .unset, .unset] [(.int px), (.ref b1)])) _
    refine XS.i2dS X2.here hx rfl (hb hby at_29) rfl (v := (FP.i2d px)) rfl ?_
    show Steps p.tables e below (T2.setTop (mkF m 30 #[.val (.int pk), .val (.int px), .val (.int py), .val (.int pz), .val (.int pw), .val (.int (2 : Int32)), .val (.ref b1), .val (.long (0 : Int64)), .second, .unset, .unset, .unset, .unset] [(.double (FP.i2d px)), (.ref b1)])) _
    refine st3.trans ?_
    show Steps p.tables e below (T3.setTop (mkF m 33 #[.val (.int pk), .val (.int px), .val (.int py), .val (.int pz), .val (.int pw), .val (.int (2 : Int32)), .val (.ref b1), .val (.long (0 : Int64)), .second, .unset, .unset, .unset, .unset] [])) _
    refine XS.lload X3.here hx rfl (hb hby at_33) rfl ?_
    show Steps p.tables e below (T3.setTop (mkF m 35 #[.val (.int pk), .val (.int px), .val (.int py), .val (.int pz), .val (.int pw), .val (.int (2 : Int32)), .val (.ref b1), .val (.long (0 : Int64)), .second, .unset, .unset, .unset, .unset] [(.long (0 : Int64))])) _
    refine XS.iloadN X3.here hx rfl (hb hby at_35) rfl ?_
    show Steps p.tables e below (T3.setTop (mkF m 36 #[.val (.int pk), .val (.int px), .val (.int py), .val (.int pz), .val (.int pw), .val (.int (2 : Int32)), .val (.ref b1), .val (.long (0 : Int64)), .second, .unset, .unset, .unset, .unset] [(.int px), (.long (0 : Int64))])) _
    refine XS.i2l X3.here hx rfl (hb hby at_36) rfl ?_
    show Steps p.tables e below (T3.setTop (mkF m 37 #[.val (.int pk), .val (.int px), .val (.int py), .val (.int pz), .val (.int pw), .val (.int (2 : Int32)), .val (.ref b1), .val (.long (0 : Int64)), .second, .unset, .unset, .unset, .unset] [(.long (px.toInt64)), (.long (0 : Int64))])) _
    refine XS.ladd X3.here hx rfl (hb hby at_37) rfl ?_
    show Steps p.tables e below (T3.setTop (mkF m 38 #[.val (.int pk), .val (.int px), .val (.int py), .val (.int pz), .val (.int pw), .val (.int (2 : Int32)), .val (.ref b1), .val (.long (0 : Int64)), .second, .unset, .unset, .unset, .unset] [(.long ((0 : Int64) + (px.toInt64)))])) _
    refine XS.lstore X3.here hx rfl (hb hby at_38) rfl (l' := #[.val (.int pk), .val (.int px), .val (.int py), .val (.int pz), .val (.int pw), .val (.int (2 : Int32)), .val (.ref b1), .val (.long ((0 : Int64) + (px.toInt64))), .second, .unset, .unset, .unset, .unset]) rfl ?_
    show Steps p.tables e below (T3.setTop (mkF m 40 #[.val (.int pk), .val (.int px), .val (.int py), .val (.int pz), .val (.int pw), .val (.int (2 : Int32)), .val (.ref b1), .val (.long ((0 : Int64) + (px.toInt64))), .second, .unset, .unset, .unset, .unset] [])) _
    refine XS.iload X3.here hx rfl (hb hby at_40) rfl ?_
    show Steps p.tables e below (T3.setTop (mkF m 42 #[.val (.int pk), .val (.int px), .val (.int py), .val (.int pz), .val (.int pw), .val (.int (2 : Int32)), .val (.ref b1), .val (.long ((0 : Int64) + (px.toInt64))), .second, .unset, .unset, .unset, .unset] [(.int (2 : Int32))])) _
    refine XS.iconst X3.here hx rfl (hb hby at_42) ?_
    show Steps p.tables e below (T3.setTop (mkF m 43 #[.val (.int pk), .val (.int px), .val (.int py), .val (.int pz), .val (.int pw), .val (.int (2 : Int32)), .val (.ref b1), .val (.long ((0 : Int64) + (px.toInt64))), .second, .unset, .unset, .unset, .unset] [(.int (2 : Int32)), (.int (2 : Int32))])) _
    refine XS.icmpNo X3.here hx rfl (hb hby at_43) rfl (flt (by decide : ¬ ((2 : Int32) < (2 : Int32)))).1 ?_
    show Steps p.tables e below (T3.setTop (mkF m 46 #[.val (.int pk), .val (.int px), .val (.int py), .val (.int pz), .val (.int pw), .val (.int (2 : Int32)), .val (.ref b1), .val (.long ((0 : Int64) + (px.toInt64))), .second, .unset, .unset, .unset, .unset] [])) _
    refine XS.aload X3.here hx rfl (hb hby at_46) rfl rfl ?_
    show Steps p.tables e below (T3.setTop (mkF m 48 #[.val (.int pk), .val (.int px), .val (.int py), .val (.int pz), .val (.int pw), .val (.int (2 : Int32)), .val (.ref b1), .val (.long ((0 : Int64) + (px.toInt64))), .second, .unset, .unset, .unset, .unset] [(.ref b1)])) _
    refine XS.iloadN X3.here hx rfl (hb hby at_48) rfl ?_
    show Steps p.tables e below (T3.setTop (mkF m 49 #[.val (.int pk), .val (.int px), .val (.int py), .val (.int pz), .val (.int pw), .val (.int (2 : Int32)), .val (.ref b1), .val (.long ((0 : Int64) + (px.toInt64))), .second, .unset, .unset, .unset, .unset] [(.int py), (.ref b1)])) _
    refine XS.i2dS X3.here hx rfl (hb hby at_49) rfl (v := (FP.i2d py)) rfl ?_
    show Steps p.tables e below (T3.setTop (mkF m 50 #[.val (.int pk), .val (.int px), .val (.int py), .val (.int pz), .val (.int pw), .val (.int (2 : Int32)), .val (.ref b1), .val (.long ((0 : Int64) + (px.toInt64))), .second, .unset, .unset, .unset, .unset] [(.double (FP.i2d py)), (.ref b1)])) _
    refine st4.trans ?_
    show Steps p.tables e below (T4.setTop (mkF m 53 #[.val (.int pk), .val (.int px), .val (.int py), .val (.int pz), .val (.int pw), .val (.int (2 : Int32)), .val (.ref b1), .val (.long ((0 : Int64) + (px.toInt64))), .second, .unset, .unset, .unset, .unset] [])) _
    refine XS.lload X4.here hx rfl (hb hby at_53) rfl ?_
    show Steps p.tables e below (T4.setTop (mkF m 55 #[.val (.int pk), .val (.int px), .val (.int py), .val (.int pz), .val (.int pw), .val (.int (2 : Int32)), .val (.ref b1), .val (.long ((0 : Int64) + (px.toInt64))), .second, .unset, .unset, .unset, .unset] [(.long ((0 : Int64) + (px.toInt64)))])) _
    refine XS.iloadN X4.here hx rfl (hb hby at_55) rfl ?_
    show Steps p.tables e below (T4.setTop (mkF m 56 #[.val (.int pk), .val (.int px), .val (.int py), .val (.int pz), .val (.int pw), .val (.int (2 : Int32)), .val (.ref b1), .val (.long ((0 : Int64) + (px.toInt64))), .second, .unset, .unset, .unset, .unset] [(.int py), (.long ((0 : Int64) + (px.toInt64)))])) _
    refine XS.i2l X4.here hx rfl (hb hby at_56) rfl ?_
    show Steps p.tables e below (T4.setTop (mkF m 57 #[.val (.int pk), .val (.int px), .val (.int py), .val (.int pz), .val (.int pw), .val (.int (2 : Int32)), .val (.ref b1), .val (.long ((0 : Int64) + (px.toInt64))), .second, .unset, .unset, .unset, .unset] [(.long (py.toInt64)), (.long ((0 : Int64) + (px.toInt64)))])) _
    refine XS.ladd X4.here hx rfl (hb hby at_57) rfl ?_
    show Steps p.tables e below (T4.setTop (mkF m 58 #[.val (.int pk), .val (.int px), .val (.int py), .val (.int pz), .val (.int pw), .val (.int (2 : Int32)), .val (.ref b1), .val (.long ((0 : Int64) + (px.toInt64))), .second, .unset, .unset, .unset, .unset] [(.long (((0 : Int64) + (px.toInt64)) + (py.toInt64)))])) _
    refine XS.lstore X4.here hx rfl (hb hby at_58) rfl (l' := #[.val (.int pk), .val (.int px), .val (.int py), .val (.int pz), .val (.int pw), .val (.int (2 : Int32)), .val (.ref b1), .val (.long (((0 : Int64) + (px.toInt64)) + (py.toInt64))), .second, .unset, .unset, .unset, .unset]) rfl ?_
    show Steps p.tables e below (T4.setTop (mkF m 60 #[.val (.int pk), .val (.int px), .val (.int py), .val (.int pz), .val (.int pw), .val (.int (2 : Int32)), .val (.ref b1), .val (.long (((0 : Int64) + (px.toInt64)) + (py.toInt64))), .second, .unset, .unset, .unset, .unset] [])) _
    refine XS.iload X4.here hx rfl (hb hby at_60) rfl ?_
    show Steps p.tables e below (T4.setTop (mkF m 62 #[.val (.int pk), .val (.int px), .val (.int py), .val (.int pz), .val (.int pw), .val (.int (2 : Int32)), .val (.ref b1), .val (.long (((0 : Int64) + (px.toInt64)) + (py.toInt64))), .second, .unset, .unset, .unset, .unset] [(.int (2 : Int32))])) _
    refine XS.iconst X4.here hx rfl (hb hby at_62) ?_
    show Steps p.tables e below (T4.setTop (mkF m 63 #[.val (.int pk), .val (.int px), .val (.int py), .val (.int pz), .val (.int pw), .val (.int (2 : Int32)), .val (.ref b1), .val (.long (((0 : Int64) + (px.toInt64)) + (py.toInt64))), .second, .unset, .unset, .unset, .unset] [(.int (3 : Int32)), (.int (2 : Int32))])) _
    refine XS.icmpYes X4.here hx rfl (pc0 := 63) (pc' := 80) rfl (hb hby at_63) rfl (tlt (by decide : (2 : Int32) < (3 : Int32))).1 (by decide) (by decide) ?_
    show Steps p.tables e below (T4.setTop (mkF m 80 #[.val (.int pk), .val (.int px), .val (.int py), .val (.int pz), .val (.int pw), .val (.int (2 : Int32)), .val (.ref b1), .val (.long (((0 : Int64) + (px.toInt64)) + (py.toInt64))), .second, .unset, .unset, .unset, .unset] [])) _
    refine XS.iload X4.here hx rfl (hb hby at_80) rfl ?_
    show Steps p.tables e below (T4.setTop (mkF m 82 #[.val (.int pk), .val (.int px), .val (.int py), .val (.int pz), .val (.int pw), .val (.int (2 : Int32)), .val (.ref b1), .val (.long (((0 : Int64) + (px.toInt64)) + (py.toInt64))), .second, .unset, .unset, .unset, .unset] [(.int (2 : Int32))])) _
    refine XS.iconst X4.here hx rfl (hb hby at_82) ?_
    show Steps p.tables e below (T4.setTop (mkF m 83 #[.val (.int pk), .val (.int px), .val (.int py), .val (.int pz), .val (.int pw), .val (.int (2 : Int32)), .val (.ref b1), .val (.long (((0 : Int64) + (px.toInt64)) + (py.toInt64))), .second, .unset, .unset, .unset, .unset] [(.int (4 : Int32)), (.int (2 : Int32))])) _
    refine XS.icmpYes X4.here hx rfl (pc0 := 83) (pc' := 102) rfl (hb hby at_83) rfl (tlt (by decide : (2 : Int32) < (4 : Int32))).1 (by decide) (by decide) ?_
    show Steps p.tables e below (T4.setTop (mkF m 102 #[.val (.int pk), .val (.int px), .val (.int py), .val (.int pz), .val (.int pw), .val (.int (2 : Int32)), .val (.ref b1), .val (.long (((0 : Int64) + (px.toInt64)) + (py.toInt64))), .second, .unset, .unset, .unset, .unset] [])) _
    refine XS.aload X4.here hx rfl (hb hby at_102) rfl rfl ?_
    show Steps p.tables e below (T4.setTop (mkF m 104 #[.val (.int pk), .val (.int px), .val (.int py), .val (.int pz), .val (.int pw), .val (.int (2 : Int32)), .val (.ref b1), .val (.long (((0 : Int64) + (px.toInt64)) + (py.toInt64))), .second, .unset, .unset, .unset, .unset] [(.ref b1)])) _
    refine st5.trans ?_
    show Steps p.tables e below (T5.setTop (mkF m 107 #[.val (.int pk), .val (.int px), .val (.int py), .val (.int pz), .val (.int pw), .val (.int (2 : Int32)), .val (.ref b1), .val (.long (((0 : Int64) + (px.toInt64)) + (py.toInt64))), .second, .unset, .unset, .unset, .unset] [(.double (FP.ddiv (FP.l2d (((0 : Int64) + (px.toInt64)) + (py.toInt64))) (FP.i2d (2 : Int32))))])) _
    refine XS.dstore X5.here hx rfl (hb hby at_107) rfl (l' := #[.val (.int pk), .val (.int px), .val (.int py), .val (.int pz), .val (.int pw), .val (.int (2 : Int32)), .val (.ref b1), .val (.long (((0 : Int64) + (px.toInt64)) + (py.toInt64))), .second, .val (.double (FP.ddiv (FP.l2d (((0 : Int64) + (px.toInt64)) + (py.toInt64))) (FP.i2d (2 : Int32)))), .second, .unset, .unset]) rfl ?_
    show Steps p.tables e below (T5.setTop (mkF m 109 #[.val (.int pk), .val (.int px), .val (.int py), .val (.int pz), .val (.int pw), .val (.int (2 : Int32)), .val (.ref b1), .val (.long (((0 : Int64) + (px.toInt64)) + (py.toInt64))), .second, .val (.double (FP.ddiv (FP.l2d (((0 : Int64) + (px.toInt64)) + (py.toInt64))) (FP.i2d (2 : Int32)))), .second, .unset, .unset] [])) _
    refine XS.iload X5.here hx rfl (hb hby at_109) rfl ?_
    show Steps p.tables e below (T5.setTop (mkF m 111 #[.val (.int pk), .val (.int px), .val (.int py), .val (.int pz), .val (.int pw), .val (.int (2 : Int32)), .val (.ref b1), .val (.long (((0 : Int64) + (px.toInt64)) + (py.toInt64))), .second, .val (.double (FP.ddiv (FP.l2d (((0 : Int64) + (px.toInt64)) + (py.toInt64))) (FP.i2d (2 : Int32)))), .second, .unset, .unset] [(.int (2 : Int32))])) _
    refine XS.ifYes X5.here hx rfl (pc0 := 111) (pc' := 118) rfl (hb hby at_111) rfl ((if0 _ _).trans (feq (by decide : ¬ ((2 : Int32) = (0 : Int32)))).2) (by decide) (by decide) ?_
    show Steps p.tables e below (T5.setTop (mkF m 118 #[.val (.int pk), .val (.int px), .val (.int py), .val (.int pz), .val (.int pw), .val (.int (2 : Int32)), .val (.ref b1), .val (.long (((0 : Int64) + (px.toInt64)) + (py.toInt64))), .second, .val (.double (FP.ddiv (FP.l2d (((0 : Int64) + (px.toInt64)) + (py.toInt64))) (FP.i2d (2 : Int32)))), .second, .unset, .unset] [])) _
    refine XS.lload X5.here hx rfl (hb hby at_118) rfl ?_
    show Steps p.tables e below (T5.setTop (mkF m 120 #[.val (.int pk), .val (.int px), .val (.int py), .val (.int pz), .val (.int pw), .val (.int (2 : Int32)), .val (.ref b1), .val (.long (((0 : Int64) + (px.toInt64)) + (py.toInt64))), .second, .val (.double (FP.ddiv (FP.l2d (((0 : Int64) + (px.toInt64)) + (py.toInt64))) (FP.i2d (2 : Int32)))), .second, .unset, .unset] [(.long (((0 : Int64) + (px.toInt64)) + (py.toInt64)))])) _
    refine XS.l2dS X5.here hx rfl (hb hby at_120) rfl (v := (FP.l2d (((0 : Int64) + (px.toInt64)) + (py.toInt64)))) rfl ?_
    show Steps p.tables e below (T5.setTop (mkF m 121 #[.val (.int pk), .val (.int px), .val (.int py), .val (.int pz), .val (.int pw), .val (.int (2 : Int32)), .val (.ref b1), .val (.long (((0 : Int64) + (px.toInt64)) + (py.toInt64))), .second, .val (.double (FP.ddiv (FP.l2d (((0 : Int64) + (px.toInt64)) + (py.toInt64))) (FP.i2d (2 : Int32)))), .second, .unset, .unset] [(.double (FP.l2d (((0 : Int64) + (px.toInt64)) + (py.toInt64))))])) _
    refine XS.iload X5.here hx rfl (hb hby at_121) rfl ?_
    show Steps p.tables e below (T5.setTop (mkF m 123 #[.val (.int pk), .val (.int px), .val (.int py), .val (.int pz), .val (.int pw), .val (.int (2 : Int32)), .val (.ref b1), .val (.long (((0 : Int64) + (px.toInt64)) + (py.toInt64))), .second, .val (.double (FP.ddiv (FP.l2d (((0 : Int64) + (px.toInt64)) + (py.toInt64))) (FP.i2d (2 : Int32)))), .second, .unset, .unset] [(.int (2 : Int32)), (.double (FP.l2d (((0 : Int64) + (px.toInt64)) + (py.toInt64))))])) _
    refine XS.i2dS X5.here hx rfl (hb hby at_123) rfl (v := (FP.i2d (2 : Int32))) rfl ?_
    show Steps p.tables e below (T5.setTop (mkF m 124 #[.val (.int pk), .val (.int px), .val (.int py), .val (.int pz), .val (.int pw), .val (.int (2 : Int32)), .val (.ref b1), .val (.long (((0 : Int64) + (px.toInt64)) + (py.toInt64))), .second, .val (.double (FP.ddiv (FP.l2d (((0 : Int64) + (px.toInt64)) + (py.toInt64))) (FP.i2d (2 : Int32)))), .second, .unset, .unset] [(.double (FP.i2d (2 : Int32))), (.double (FP.l2d (((0 : Int64) + (px.toInt64)) + (py.toInt64))))])) _
    refine XS.ddivS X5.here hx rfl (hb hby at_124) rfl (own_dv (((0 : Int64) + (px.toInt64)) + (py.toInt64)) (by decide)) (v := (FP.ddiv (FP.l2d (((0 : Int64) + (px.toInt64)) + (py.toInt64))) (FP.i2d (2 : Int32)))) rfl ?_
    show Steps p.tables e below (T5.setTop (mkF m 125 #[.val (.int pk), .val (.int px), .val (.int py), .val (.int pz), .val (.int pw), .val (.int (2 : Int32)), .val (.ref b1), .val (.long (((0 : Int64) + (px.toInt64)) + (py.toInt64))), .second, .val (.double (FP.ddiv (FP.l2d (((0 : Int64) + (px.toInt64)) + (py.toInt64))) (FP.i2d (2 : Int32)))), .second, .unset, .unset] [(.double (FP.ddiv (FP.l2d (((0 : Int64) + (px.toInt64)) + (py.toInt64))) (FP.i2d (2 : Int32))))])) _
    refine XS.dstore X5.here hx rfl (hb hby at_125) rfl (l' := #[.val (.int pk), .val (.int px), .val (.int py), .val (.int pz), .val (.int pw), .val (.int (2 : Int32)), .val (.ref b1), .val (.long (((0 : Int64) + (px.toInt64)) + (py.toInt64))), .second, .val (.double (FP.ddiv (FP.l2d (((0 : Int64) + (px.toInt64)) + (py.toInt64))) (FP.i2d (2 : Int32)))), .second, .val (.double (FP.ddiv (FP.l2d (((0 : Int64) + (px.toInt64)) + (py.toInt64))) (FP.i2d (2 : Int32)))), .second]) rfl ?_
    show Steps p.tables e below (T5.setTop (mkF m 127 #[.val (.int pk), .val (.int px), .val (.int py), .val (.int pz), .val (.int pw), .val (.int (2 : Int32)), .val (.ref b1), .val (.long (((0 : Int64) + (px.toInt64)) + (py.toInt64))), .second, .val (.double (FP.ddiv (FP.l2d (((0 : Int64) + (px.toInt64)) + (py.toInt64))) (FP.i2d (2 : Int32)))), .second, .val (.double (FP.ddiv (FP.l2d (((0 : Int64) + (px.toInt64)) + (py.toInt64))) (FP.i2d (2 : Int32)))), .second] [])) _
    refine XS.dload X5.here hx rfl (hb hby at_127) rfl ?_
    show Steps p.tables e below (T5.setTop (mkF m 129 #[.val (.int pk), .val (.int px), .val (.int py), .val (.int pz), .val (.int pw), .val (.int (2 : Int32)), .val (.ref b1), .val (.long (((0 : Int64) + (px.toInt64)) + (py.toInt64))), .second, .val (.double (FP.ddiv (FP.l2d (((0 : Int64) + (px.toInt64)) + (py.toInt64))) (FP.i2d (2 : Int32)))), .second, .val (.double (FP.ddiv (FP.l2d (((0 : Int64) + (px.toInt64)) + (py.toInt64))) (FP.i2d (2 : Int32)))), .second] [(.double (FP.ddiv (FP.l2d (((0 : Int64) + (px.toInt64)) + (py.toInt64))) (FP.i2d (2 : Int32))))])) _
    refine XS.dload X5.here hx rfl (hb hby at_129) rfl ?_
    show Steps p.tables e below (T5.setTop (mkF m 131 #[.val (.int pk), .val (.int px), .val (.int py), .val (.int pz), .val (.int pw), .val (.int (2 : Int32)), .val (.ref b1), .val (.long (((0 : Int64) + (px.toInt64)) + (py.toInt64))), .second, .val (.double (FP.ddiv (FP.l2d (((0 : Int64) + (px.toInt64)) + (py.toInt64))) (FP.i2d (2 : Int32)))), .second, .val (.double (FP.ddiv (FP.l2d (((0 : Int64) + (px.toInt64)) + (py.toInt64))) (FP.i2d (2 : Int32)))), .second] [(.double (FP.ddiv (FP.l2d (((0 : Int64) + (px.toInt64)) + (py.toInt64))) (FP.i2d (2 : Int32)))), (.double (FP.ddiv (FP.l2d (((0 : Int64) + (px.toInt64)) + (py.toInt64))) (FP.i2d (2 : Int32))))])) _
    refine XS.dcmpS X5.here hx rfl (hb hby at_131) rfl (v := (0 : Int32)) (dcmpV_self (own_dv (((0 : Int64) + (px.toInt64)) + (py.toInt64)) (by decide)) _) ?_
    show Steps p.tables e below (T5.setTop (mkF m 132 #[.val (.int pk), .val (.int px), .val (.int py), .val (.int pz), .val (.int pw), .val (.int (2 : Int32)), .val (.ref b1), .val (.long (((0 : Int64) + (px.toInt64)) + (py.toInt64))), .second, .val (.double (FP.ddiv (FP.l2d (((0 : Int64) + (px.toInt64)) + (py.toInt64))) (FP.i2d (2 : Int32)))), .second, .val (.double (FP.ddiv (FP.l2d (((0 : Int64) + (px.toInt64)) + (py.toInt64))) (FP.i2d (2 : Int32)))), .second] [(.int (0 : Int32))])) _
    refine XS.ifNo X5.here hx rfl (hb hby at_132) rfl ((if0 _ _).trans (teq (by decide : (0 : Int32) = (0 : Int32))).2) ?_
    show Steps p.tables e below (T5.setTop (mkF m 135 #[.val (.int pk), .val (.int px), .val (.int py), .val (.int pz), .val (.int pw), .val (.int (2 : Int32)), .val (.ref b1), .val (.long (((0 : Int64) + (px.toInt64)) + (py.toInt64))), .second, .val (.double (FP.ddiv (FP.l2d (((0 : Int64) + (px.toInt64)) + (py.toInt64))) (FP.i2d (2 : Int32)))), .second, .val (.double (FP.ddiv (FP.l2d (((0 : Int64) + (px.toInt64)) + (py.toInt64))) (FP.i2d (2 : Int32)))), .second] [])) _
    refine XS.iconst X5.here hx rfl (hb hby at_135) ?_
    show Steps p.tables e below (T5.setTop (mkF m 136 #[.val (.int pk), .val (.int px), .val (.int py), .val (.int pz), .val (.int pw), .val (.int (2 : Int32)), .val (.ref b1), .val (.long (((0 : Int64) + (px.toInt64)) + (py.toInt64))), .second, .val (.double (FP.ddiv (FP.l2d (((0 : Int64) + (px.toInt64)) + (py.toInt64))) (FP.i2d (2 : Int32)))), .second, .val (.double (FP.ddiv (FP.l2d (((0 : Int64) + (px.toInt64)) + (py.toInt64))) (FP.i2d (2 : Int32)))), .second] [(.int (1 : Int32))])) _
    refine XS.goto X5.here hx rfl (pc0 := 136) (pc' := 140) rfl (hb hby at_136) (by decide) (by decide) ?_
    show Steps p.tables e below (T5.setTop (mkF m 140 #[.val (.int pk), .val (.int px), .val (.int py), .val (.int pz), .val (.int pw), .val (.int (2 : Int32)), .val (.ref b1), .val (.long (((0 : Int64) + (px.toInt64)) + (py.toInt64))), .second, .val (.double (FP.ddiv (FP.l2d (((0 : Int64) + (px.toInt64)) + (py.toInt64))) (FP.i2d (2 : Int32)))), .second, .val (.double (FP.ddiv (FP.l2d (((0 : Int64) + (px.toInt64)) + (py.toInt64))) (FP.i2d (2 : Int32)))), .second] [(.int (1 : Int32))])) _
    exact retN X5 hx (t := .boolean) Bd.returns (by simp) (hb hby at_140) hr
  · show QL n0 _ T5.heap _
    rw [eq5]
    exact ⟨rfl, N5⟩
set_option maxRecDepth 65536 in
set_option maxHeartbeats 40000000 in
theorem rm03 (l : Launch) (Z : State) (a0 : Array Value) (hw : ∀ d ∈ tables_1, d.before a0 Z = true) (ws : List Jvm.Cond) (pk px py pz pw : Int32) (h0 : Heap) (n0 : Nat) (Z0 : n0 ≤ h0.size) (hn5 : ((pk &&& (2147483647 : Int32)) % (5 : Int32)) = (3 : Int32))  :
    MetFree l x (head1 (Jvm.Cond.code x code maxLocals ret :: ws) room_1) (fun a U => a = #[(.int pk), (.int px), (.int py), (.int pz), (.int pw)] ∧ Z.Warmed39 U.vm ∧ U.heap = h0) (fun _ _ _ _ _ => True) (fun _ U o U' => ∃ v L, o = .returned v ∧ QL n0 v U'.heap L ∧ FrameEnd U o U' L 1 4) := by
  refine MetFree.of_bodySF (plainFor_of_name pn_com_example_bytegauge_bytegauge_stats_TallyMeanPinLaw) hisR ?_
  intro p e s m args below meth c s₁ Bd hml0 hP hK
  obtain ⟨rfl, hZ, hh⟩ := hP
  have hx := Bd.exec
  have hby := Bd.bytes
  have hml : c.maxLocals = 13 := hml0
  have hown : s.vm.findClass "com/example/bytegauge/bytegauge/stats/TallyMeanPinLaw" = some m.cls := findClass_of_methodNamed Bd.named
  have hnm := (name_of_methodNamed Bd.named Bd.method).1
  have X0 : Stand p l e room_1 s m #[(.int pk), (.int px), (.int py), (.int pz), (.int pw)] below meth c s₁ [] 0 0 := Stand.of_body Bd
  have e0 : s₁.heap = h0 := by rw [← hh, Bd.state]; rfl
  have N0 := Fr.nil n0
  have pre0 : ∀ t, Steps p.tables e below (s₁.setTop (mkF m 0 #[.val (.int pk), .val (.int px), .val (.int py), .val (.int pz), .val (.int pw), .unset, .unset, .unset, .unset, .unset, .unset, .unset, .unset] [])) t → Steps p.tables e below (s₁.setTop (entryFrame m #[(.int pk), (.int px), (.int py), (.int pz), (.int pw)] maxLocals)) t := fun t k => castTop (ef_code m pk px py pz pw) k
  obtain ⟨T1, h1, X1, e1, E1, A1, D1, -, st1⟩ := newO X0 hx hZ hown (hw _ (List.mem_of_getElem? (i := 1) rfl)) (hw _ (List.mem_of_getElem? (i := 2) rfl)) (hw _ (List.mem_of_getElem? (i := 3) rfl)) e0 (g := (mkF m 8 #[.val (.int pk), .val (.int px), .val (.int py), .val (.int pz), .val (.int pw), .val (.int (3 : Int32)), .unset, .unset, .unset, .unset, .unset, .unset, .unset] [])) rfl (hb hby at_8) (by decide) (by decide)
  obtain ⟨b1, g1⟩ : ∃ z, z = h0.size := ⟨_, rfl⟩
  rw [← g1] at A1 D1 st1
  have g_b1 : n0 ≤ b1 := Nat.le_trans Z0 (Nat.le_of_eq g1.symm)
  have SZ1 := Nat.le_trans Z0 E1.1
  have F1_count : Fld Z h1 b1 "com/example/bytegauge/bytegauge/stats/Tally" "count" "I" (.int (0 : Int32)) := D1 (Or.inl (hw _ (List.mem_of_getElem? (i := 16) rfl))) (ty := .int) (by decide)
  have F1_sum : Fld Z h1 b1 "com/example/bytegauge/bytegauge/stats/Tally" "sum" "D" (.double (0 : UInt64)) := D1 (Or.inl (hw _ (List.mem_of_getElem? (i := 24) rfl))) (ty := .double) (by decide)
  have F1_running : Fld Z h1 b1 "com/example/bytegauge/bytegauge/stats/Tally" "running" "D" (.double (0 : UInt64)) := D1 (Or.inl (hw _ (List.mem_of_getElem? (i := 26) rfl))) (ty := .double) (by decide)
  have F1_squares : Fld Z h1 b1 "com/example/bytegauge/bytegauge/stats/Tally" "squares" "D" (.double (0 : UInt64)) := D1 (Or.inl (hw _ (List.mem_of_getElem? (i := 28) rfl))) (ty := .double) (by decide)
  obtain ⟨_, _, ⟨T2, L2, k2, n2⟩, -, X2, ⟨Lc2, hQ2, l2, y2, z2⟩, st2⟩ := X1.specialBack hx (y := (⟨"com/example/bytegauge/bytegauge/stats/Tally", "<init>", "()V"⟩ : MethodName)) rfl hown (mvT hZ (hw _ (List.mem_of_getElem? (i := 4) rfl))) (mvT hZ (hw _ (List.mem_of_getElem? (i := 5) rfl))) (mvT hZ (hw _ (List.mem_of_getElem? (i := 6) rfl))) (by decide) (backOf (W := 1) (rmI l Z a0 hw [] b1 h1 n0 SZ1) hZ (hw _ (List.mem_of_getElem? (i := 6) rfl)) (hw _ (List.mem_of_getElem? (i := 3) rfl)) (by decide) (by decide)) (g := (mkF m 12 #[.val (.int pk), .val (.int px), .val (.int py), .val (.int pz), .val (.int pw), .val (.int (3 : Int32)), .unset, .unset, .unset, .unset, .unset, .unset, .unset] [(.ref b1), (.ref b1)])) rfl (by rw [hml]; rfl) (Steps.refl _) (a := b1) (argsL := []) (rest := [(.ref b1)]) (lenOf pd___V rfl) rfl (by show 2 * 0 + _ ≤ _; exact Nat.le_of_eq rfl) (hb hby at_12) (fun _ _ => ⟨rfl, e1, (by decide : 1 + 0 ≤ _), (by decide : 4 + 0 ≤ _)⟩)
  dsimp only [Pt.U, Pt.locs, Pt.cells, Pt.slots] at X2 l2 y2 z2 st2 hQ2
  subst l2 y2 z2
  obtain ⟨rfl, N2q, eq2⟩ := hQ2
  have N2 := Fr.app N0 N2q
  obtain ⟨cq3, kq3, q3a, q3b, q3c⟩ := isOf hZ eq2 A1
  obtain ⟨_, _, ⟨T3, L3, k3, n3⟩, -, X3, ⟨Lc3, hQ3, l3, y3, z3⟩, st3⟩ := X2.virtualBack hx (y := (⟨"com/example/bytegauge/bytegauge/stats/Tally", "add", "(D)V"⟩ : MethodName)) (z := (⟨"com/example/bytegauge/bytegauge/stats/Tally", "add", "(D)V"⟩ : MethodName)) hown (mvT hZ (hw _ (List.mem_of_getElem? (i := 17) rfl))) (mvT hZ (hw _ (List.mem_of_getElem? (i := 18) rfl))) (notFace_of_selects (args := #[]) (mvT hZ (hw _ (List.mem_of_getElem? (i := 20) rfl)))) (mvT hZ (hw _ (List.mem_of_getElem? (i := 20) rfl))) (mvT hZ (hw _ (List.mem_of_getElem? (i := 19) rfl))) (by decide) (backOf (W := 0) (rmA l Z a0 hw [] b1 px (0 : Int32) (1 : Int32) (0 : Int64) (0 : UInt64) (0 : UInt64) 1056 h1 n0 SZ1 A1 F1_count (Fld.zeroD F1_sum) F1_running F1_squares g_b1 (by decide) (by decide) (by decide) (own_B 0 (Int.ofNat_le.mpr own_s0) (by decide)) (by decide) (by decide) own_mag0 own_nn0) hZ (hw _ (List.mem_of_getElem? (i := 21) rfl)) (hw _ (List.mem_of_getElem? (i := 3) rfl)) (by decide) (by decide)) q3a q3c (g := (mkF m 30 #[.val (.int pk), .val (.int px), .val (.int py), .val (.int pz), .val (.int pw), .val (.int (3 : Int32)), .val (.ref b1), .val (.long (0 : Int64)), .second, .unset, .unset, .unset, .unset] [(.double (FP.i2d px)), (.ref b1)])) rfl (by rw [hml]; rfl) (Steps.refl _) (argsL := [(.double (FP.i2d px))]) (rest := []) (lenOf pd__D_V rfl) rfl (by show 2 * 0 + _ ≤ _; exact Nat.le_of_eq rfl) (hb hby at_30) (fun _ _ => ⟨rfl, eq2, (by decide : 1 + 0 ≤ _), (by decide : 4 + 0 ≤ _)⟩)
  dsimp only [Pt.U, Pt.locs, Pt.cells, Pt.slots] at X3 l3 y3 z3 st3 hQ3
  subst l3 y3 z3
  obtain ⟨rn3, sq3, rfl, N3q, K3q, E3q, F3q0, F3q1, F3q2, F3q3, M3q, NN3q⟩ := hQ3
  have c3_0 := A1.keep K3q
  have SZ3 := Nat.le_trans SZ1 K3q.1
  have N3 := Fr.app N2 N3q
  obtain ⟨cq4, kq4, q4a, q4b, q4c⟩ := isOf hZ rfl E3q
  obtain ⟨_, _, ⟨T4, L4, k4, n4⟩, -, X4, ⟨Lc4, hQ4, l4, y4, z4⟩, st4⟩ := X3.virtualBack hx (y := (⟨"com/example/bytegauge/bytegauge/stats/Tally", "add", "(D)V"⟩ : MethodName)) (z := (⟨"com/example/bytegauge/bytegauge/stats/Tally", "add", "(D)V"⟩ : MethodName)) hown (mvT hZ (hw _ (List.mem_of_getElem? (i := 17) rfl))) (mvT hZ (hw _ (List.mem_of_getElem? (i := 18) rfl))) (notFace_of_selects (args := #[]) (mvT hZ (hw _ (List.mem_of_getElem? (i := 20) rfl)))) (mvT hZ (hw _ (List.mem_of_getElem? (i := 20) rfl))) (mvT hZ (hw _ (List.mem_of_getElem? (i := 19) rfl))) (by decide) (backOf (W := 0) (rmA l Z a0 hw [] b1 py (1 : Int32) (2 : Int32) ((0 : Int64) + (px.toInt64)) rn3 sq3 1061 T3.heap n0 SZ3 E3q F3q0 F3q1 F3q2 F3q3 g_b1 (by decide) (by decide) (by decide) (own_B 2147483648 (Int.ofNat_le.mpr (own_step own_s0 (by decide) px)) (by decide)) (by decide) (by decide) M3q NN3q) hZ (hw _ (List.mem_of_getElem? (i := 21) rfl)) (hw _ (List.mem_of_getElem? (i := 3) rfl)) (by decide) (by decide)) q4a q4c (g := (mkF m 50 #[.val (.int pk), .val (.int px), .val (.int py), .val (.int pz), .val (.int pw), .val (.int (3 : Int32)), .val (.ref b1), .val (.long ((0 : Int64) + (px.toInt64))), .second, .unset, .unset, .unset, .unset] [(.double (FP.i2d py)), (.ref b1)])) rfl (by rw [hml]; rfl) (Steps.refl _) (argsL := [(.double (FP.i2d py))]) (rest := []) (lenOf pd__D_V rfl) rfl (by show 2 * 0 + _ ≤ _; exact Nat.le_of_eq rfl) (hb hby at_50) (fun _ _ => ⟨rfl, rfl, (by decide : 1 + 0 ≤ _), (by decide : 4 + 0 ≤ _)⟩)
  dsimp only [Pt.U, Pt.locs, Pt.cells, Pt.slots] at X4 l4 y4 z4 st4 hQ4
  subst l4 y4 z4
  obtain ⟨rn4, sq4, rfl, N4q, K4q, E4q, F4q0, F4q1, F4q2, F4q3, M4q, NN4q⟩ := hQ4
  have c4_0 := E3q.keep K4q
  have SZ4 := Nat.le_trans SZ3 K4q.1
  have N4 := Fr.app N3 N4q
  obtain ⟨cq5, kq5, q5a, q5b, q5c⟩ := isOf hZ rfl E4q
  obtain ⟨_, _, ⟨T5, L5, k5, n5⟩, -, X5, ⟨Lc5, hQ5, l5, y5, z5⟩, st5⟩ := X4.virtualBack hx (y := (⟨"com/example/bytegauge/bytegauge/stats/Tally", "add", "(D)V"⟩ : MethodName)) (z := (⟨"com/example/bytegauge/bytegauge/stats/Tally", "add", "(D)V"⟩ : MethodName)) hown (mvT hZ (hw _ (List.mem_of_getElem? (i := 17) rfl))) (mvT hZ (hw _ (List.mem_of_getElem? (i := 18) rfl))) (notFace_of_selects (args := #[]) (mvT hZ (hw _ (List.mem_of_getElem? (i := 20) rfl)))) (mvT hZ (hw _ (List.mem_of_getElem? (i := 20) rfl))) (mvT hZ (hw _ (List.mem_of_getElem? (i := 19) rfl))) (by decide) (backOf (W := 0) (rmA l Z a0 hw [] b1 pz (2 : Int32) (3 : Int32) (((0 : Int64) + (px.toInt64)) + (py.toInt64)) rn4 sq4 1066 T4.heap n0 SZ4 E4q F4q0 F4q1 F4q2 F4q3 g_b1 (by decide) (by decide) (by decide) (own_B 4294967296 (Int.ofNat_le.mpr (own_step (own_step own_s0 (by decide) px) (by decide) py)) (by decide)) (by decide) (by decide) M4q NN4q) hZ (hw _ (List.mem_of_getElem? (i := 21) rfl)) (hw _ (List.mem_of_getElem? (i := 3) rfl)) (by decide) (by decide)) q5a q5c (g := (mkF m 70 #[.val (.int pk), .val (.int px), .val (.int py), .val (.int pz), .val (.int pw), .val (.int (3 : Int32)), .val (.ref b1), .val (.long (((0 : Int64) + (px.toInt64)) + (py.toInt64))), .second, .unset, .unset, .unset, .unset] [(.double (FP.i2d pz)), (.ref b1)])) rfl (by rw [hml]; rfl) (Steps.refl _) (argsL := [(.double (FP.i2d pz))]) (rest := []) (lenOf pd__D_V rfl) rfl (by show 2 * 0 + _ ≤ _; exact Nat.le_of_eq rfl) (hb hby at_70) (fun _ _ => ⟨rfl, rfl, (by decide : 1 + 0 ≤ _), (by decide : 4 + 0 ≤ _)⟩)
  dsimp only [Pt.U, Pt.locs, Pt.cells, Pt.slots] at X5 l5 y5 z5 st5 hQ5
  subst l5 y5 z5
  obtain ⟨rn5, sq5, rfl, N5q, K5q, E5q, F5q0, F5q1, F5q2, F5q3, M5q, NN5q⟩ := hQ5
  have c5_0 := E4q.keep K5q
  have SZ5 := Nat.le_trans SZ4 K5q.1
  have N5 := Fr.app N4 N5q
  obtain ⟨cq6, kq6, q6a, q6b, q6c⟩ := isOf hZ rfl E5q
  obtain ⟨_, _, ⟨T6, L6, k6, n6⟩, -, X6, ⟨Lc6, hQ6, l6, y6, z6⟩, st6⟩ := X5.virtualBack hx (y := (⟨"com/example/bytegauge/bytegauge/stats/Tally", "mean", "()D"⟩ : MethodName)) (z := (⟨"com/example/bytegauge/bytegauge/stats/Tally", "mean", "()D"⟩ : MethodName)) hown (mvT hZ (hw _ (List.mem_of_getElem? (i := 10) rfl))) (mvT hZ (hw _ (List.mem_of_getElem? (i := 11) rfl))) (notFace_of_selects (args := #[]) (mvT hZ (hw _ (List.mem_of_getElem? (i := 13) rfl)))) (mvT hZ (hw _ (List.mem_of_getElem? (i := 13) rfl))) (mvT hZ (hw _ (List.mem_of_getElem? (i := 12) rfl))) (by decide) (backOf (W := 0) (rmM1 l Z a0 hw [] b1 (3 : Int32) ((((0 : Int64) + (px.toInt64)) + (py.toInt64)) + (pz.toInt64)) T5.heap n0 SZ5 F5q0 F5q1 (by decide)) hZ (hw _ (List.mem_of_getElem? (i := 14) rfl)) (hw _ (List.mem_of_getElem? (i := 3) rfl)) (by decide) (by decide)) q6a q6c (g := (mkF m 104 #[.val (.int pk), .val (.int px), .val (.int py), .val (.int pz), .val (.int pw), .val (.int (3 : Int32)), .val (.ref b1), .val (.long ((((0 : Int64) + (px.toInt64)) + (py.toInt64)) + (pz.toInt64))), .second, .unset, .unset, .unset, .unset] [(.ref b1)])) rfl (by rw [hml]; rfl) (Steps.refl _) (argsL := []) (rest := []) (lenOf pd___D rfl) rfl (by show 2 * 0 + _ ≤ _; exact Nat.le_of_eq rfl) (hb hby at_104) (fun _ _ => ⟨rfl, rfl, (by decide : 1 + 0 ≤ _), (by decide : 4 + 0 ≤ _)⟩)
  dsimp only [Pt.U, Pt.locs, Pt.cells, Pt.slots] at X6 l6 y6 z6 st6 hQ6
  subst l6 y6 z6
  obtain ⟨rfl, N6q, eq6⟩ := hQ6
  have N6 := Fr.app N5 N6q
  obtain ⟨fs, hr, hrun, hended, hW, hsame⟩ := X6.leave (v := some (.int (1 : Int32))) (fun h => by rw [Bd.returns] at h; cases h)
  refine ⟨_, _, pre0 _ ?_, hrun, hended, _, _, rfl, ?_, ⟨_, rfl⟩, hW, hsame.mono (by decide) (by decide)⟩
  · show Steps p.tables e below (s₁.setTop (mkF m 0 #[.val (.int pk), .val (.int px), .val (.int py), .val (.int pz), .val (.int pw), .unset, .unset, .unset, .unset, .unset, .unset, .unset, .unset] [])) _
    refine XS.iloadN X0.here hx rfl (hb hby at_0) rfl ?_
    show Steps p.tables e below (s₁.setTop (mkF m 1 #[.val (.int pk), .val (.int px), .val (.int py), .val (.int pz), .val (.int pw), .unset, .unset, .unset, .unset, .unset, .unset, .unset, .unset] [(.int pk)])) _
    refine X0.ldcInt hx hown (mvT hZ (hw _ (List.mem_of_getElem? (i := 0) rfl))) (g := (mkF m 1 #[.val (.int pk), .val (.int px), .val (.int py), .val (.int pz), .val (.int pw), .unset, .unset, .unset, .unset, .unset, .unset, .unset, .unset] [(.int pk)])) rfl (hb hby at_1) _ ?_
    show Steps p.tables e below (s₁.setTop (mkF m 3 #[.val (.int pk), .val (.int px), .val (.int py), .val (.int pz), .val (.int pw), .unset, .unset, .unset, .unset, .unset, .unset, .unset, .unset] [(.int (2147483647 : Int32)), (.int pk)])) _
    refine XS.iand X0.here hx rfl (hb hby at_3) rfl ?_
    show Steps p.tables e below (s₁.setTop (mkF m 4 #[.val (.int pk), .val (.int px), .val (.int py), .val (.int pz), .val (.int pw), .unset, .unset, .unset, .unset, .unset, .unset, .unset, .unset] [(.int (pk &&& (2147483647 : Int32)))])) _
    refine XS.iconst X0.here hx rfl (hb hby at_4) ?_
    show Steps p.tables e below (s₁.setTop (mkF m 5 #[.val (.int pk), .val (.int px), .val (.int py), .val (.int pz), .val (.int pw), .unset, .unset, .unset, .unset, .unset, .unset, .unset, .unset] [(.int (5 : Int32)), (.int (pk &&& (2147483647 : Int32)))])) _
    refine iremM X0 hx rfl (hb hby at_5) rfl (by decide) ?_
    show Steps p.tables e below (s₁.setTop (mkF m 6 #[.val (.int pk), .val (.int px), .val (.int py), .val (.int pz), .val (.int pw), .unset, .unset, .unset, .unset, .unset, .unset, .unset, .unset] [(.int ((pk &&& (2147483647 : Int32)) % (5 : Int32)))])) _
    rw [show ((pk &&& (2147483647 : Int32)) % (5 : Int32)) = (3 : Int32) from hn5]
    show Steps p.tables e below (s₁.setTop (mkF m 6 #[.val (.int pk), .val (.int px), .val (.int py), .val (.int pz), .val (.int pw), .unset, .unset, .unset, .unset, .unset, .unset, .unset, .unset] [(.int (3 : Int32))])) _
    refine XS.istore X0.here hx rfl (hb hby at_6) rfl (l' := #[.val (.int pk), .val (.int px), .val (.int py), .val (.int pz), .val (.int pw), .val (.int (3 : Int32)), .unset, .unset, .unset, .unset, .unset, .unset, .unset]) rfl ?_
    show Steps p.tables e below (s₁.setTop (mkF m 8 #[.val (.int pk), .val (.int px), .val (.int py), .val (.int pz), .val (.int pw), .val (.int (3 : Int32)), .unset, .unset, .unset, .unset, .unset, .unset, .unset] [])) _
    refine st1 _ ?_
    show Steps p.tables e below (T1.setTop (mkF m 11 #[.val (.int pk), .val (.int px), .val (.int py), .val (.int pz), .val (.int pw), .val (.int (3 : Int32)), .unset, .unset, .unset, .unset, .unset, .unset, .unset] [(.ref b1)])) _
    refine XS.dup X1.here hx rfl (hb hby at_11) rfl rfl ?_
    show Steps p.tables e below (T1.setTop (mkF m 12 #[.val (.int pk), .val (.int px), .val (.int py), .val (.int pz), .val (.int pw), .val (.int (3 : Int32)), .unset, .unset, .unset, .unset, .unset, .unset, .unset] [(.ref b1), (.ref b1)])) _
    refine st2.trans ?_
    show Steps p.tables e below (T2.setTop (mkF m 15 #[.val (.int pk), .val (.int px), .val (.int py), .val (.int pz), .val (.int pw), .val (.int (3 : Int32)), .unset, .unset, .unset, .unset, .unset, .unset, .unset] [(.ref b1)])) _
    refine XS.astore X2.here hx rfl (hb hby at_15) rfl rfl (l' := #[.val (.int pk), .val (.int px), .val (.int py), .val (.int pz), .val (.int pw), .val (.int (3 : Int32)), .val (.ref b1), .unset, .unset, .unset, .unset, .unset, .unset]) rfl ?_
    show Steps p.tables e below (T2.setTop (mkF m 17 #[.val (.int pk), .val (.int px), .val (.int py), .val (.int pz), .val (.int pw), .val (.int (3 : Int32)), .val (.ref b1), .unset, .unset, .unset, .unset, .unset, .unset] [])) _
    refine XS.lconst X2.here hx rfl (hb hby at_17) ?_
    show Steps p.tables e below (T2.setTop (mkF m 18 #[.val (.int pk), .val (.int px), .val (.int py), .val (.int pz), .val (.int pw), .val (.int (3 : Int32)), .val (.ref b1), .unset, .unset, .unset, .unset, .unset, .unset] [(.long (0 : Int64))])) _
    refine XS.lstore X2.here hx rfl (hb hby at_18) rfl (l' := #[.val (.int pk), .val (.int px), .val (.int py), .val (.int pz), .val (.int pw), .val (.int (3 : Int32)), .val (.ref b1), .val (.long (0 : Int64)), .second, .unset, .unset, .unset, .unset]) rfl ?_
    show Steps p.tables e below (T2.setTop (mkF m 20 #[.val (.int pk), .val (.int px), .val (.int py), .val (.int pz), .val (.int pw), .val (.int (3 : Int32)), .val (.ref b1), .val (.long (0 : Int64)), .second, .unset, .unset, .unset, .unset] [])) _
    refine XS.iload X2.here hx rfl (hb hby at_20) rfl ?_
    show Steps p.tables e below (T2.setTop (mkF m 22 #[.val (.int pk), .val (.int px), .val (.int py), .val (.int pz), .val (.int pw), .val (.int (3 : Int32)), .val (.ref b1), .val (.long (0 : Int64)), .second, .unset, .unset, .unset, .unset] [(.int (3 : Int32))])) _
    refine XS.iconst X2.here hx rfl (hb hby at_22) ?_
    show Steps p.tables e below (T2.setTop (mkF m 23 #[.val (.int pk), .val (.int px), .val (.int py), .val (.int pz), .val (.int pw), .val (.int (3 : Int32)), .val (.ref b1), .val (.long (0 : Int64)), .second, .unset, .unset, .unset, .unset] [(.int (1 : Int32)), (.int (3 : Int32))])) _
    refine XS.icmpNo X2.here hx rfl (hb hby at_23) rfl (flt (by decide : ¬ ((3 : Int32) < (1 : Int32)))).1 ?_
    show Steps p.tables e below (T2.setTop (mkF m 26 #[.val (.int pk), .val (.int px), .val (.int py), .val (.int pz), .val (.int pw), .val (.int (3 : Int32)), .val (.ref b1), .val (.long (0 : Int64)), .second, .unset, .unset, .unset, .unset] [])) _
    refine XS.aload X2.here hx rfl (hb hby at_26) rfl rfl ?_
    show Steps p.tables e below (T2.setTop (mkF m 28 #[.val (.int pk), .val (.int px), .val (.int py), .val (.int pz), .val (.int pw), .val (.int (3 : Int32)), .val (.ref b1), .val (.long (0 : Int64)), .second, .unset, .unset, .unset, .unset] [(.ref b1)])) _
    refine XS.iloadN X2.here hx rfl (hb hby at_28) rfl ?_
    show Steps p.tables e below (T2.setTop (mkF m 29 #[.val (.int pk), .val (.int px), .val (.int py), .val (.int pz), .val (.int pw), .val (.int (3 : Int32)), .val (.ref b1), .val (.long (0 : Int64)), .second, .unset, .unset, .unset, .unset] [(.int px), (.ref b1)])) _
    refine XS.i2dS X2.here hx rfl (hb hby at_29) rfl (v := (FP.i2d px)) rfl ?_
    show Steps p.tables e below (T2.setTop (mkF m 30 #[.val (.int pk), .val (.int px), .val (.int py), .val (.int pz), .val (.int pw), .val (.int (3 : Int32)), .val (.ref b1), .val (.long (0 : Int64)), .second, .unset, .unset, .unset, .unset] [(.double (FP.i2d px)), (.ref b1)])) _
    refine st3.trans ?_
    show Steps p.tables e below (T3.setTop (mkF m 33 #[.val (.int pk), .val (.int px), .val (.int py), .val (.int pz), .val (.int pw), .val (.int (3 : Int32)), .val (.ref b1), .val (.long (0 : Int64)), .second, .unset, .unset, .unset, .unset] [])) _
    refine XS.lload X3.here hx rfl (hb hby at_33) rfl ?_
    show Steps p.tables e below (T3.setTop (mkF m 35 #[.val (.int pk), .val (.int px), .val (.int py), .val (.int pz), .val (.int pw), .val (.int (3 : Int32)), .val (.ref b1), .val (.long (0 : Int64)), .second, .unset, .unset, .unset, .unset] [(.long (0 : Int64))])) _
    refine XS.iloadN X3.here hx rfl (hb hby at_35) rfl ?_
    show Steps p.tables e below (T3.setTop (mkF m 36 #[.val (.int pk), .val (.int px), .val (.int py), .val (.int pz), .val (.int pw), .val (.int (3 : Int32)), .val (.ref b1), .val (.long (0 : Int64)), .second, .unset, .unset, .unset, .unset] [(.int px), (.long (0 : Int64))])) _
    refine XS.i2l X3.here hx rfl (hb hby at_36) rfl ?_
    show Steps p.tables e below (T3.setTop (mkF m 37 #[.val (.int pk), .val (.int px), .val (.int py), .val (.int pz), .val (.int pw), .val (.int (3 : Int32)), .val (.ref b1), .val (.long (0 : Int64)), .second, .unset, .unset, .unset, .unset] [(.long (px.toInt64)), (.long (0 : Int64))])) _
    refine XS.ladd X3.here hx rfl (hb hby at_37) rfl ?_
    show Steps p.tables e below (T3.setTop (mkF m 38 #[.val (.int pk), .val (.int px), .val (.int py), .val (.int pz), .val (.int pw), .val (.int (3 : Int32)), .val (.ref b1), .val (.long (0 : Int64)), .second, .unset, .unset, .unset, .unset] [(.long ((0 : Int64) + (px.toInt64)))])) _
    refine XS.lstore X3.here hx rfl (hb hby at_38) rfl (l' := #[.val (.int pk), .val (.int px), .val (.int py), .val (.int pz), .val (.int pw), .val (.int (3 : Int32)), .val (.ref b1), .val (.long ((0 : Int64) + (px.toInt64))), .second, .unset, .unset, .unset, .unset]) rfl ?_
    show Steps p.tables e below (T3.setTop (mkF m 40 #[.val (.int pk), .val (.int px), .val (.int py), .val (.int pz), .val (.int pw), .val (.int (3 : Int32)), .val (.ref b1), .val (.long ((0 : Int64) + (px.toInt64))), .second, .unset, .unset, .unset, .unset] [])) _
    refine XS.iload X3.here hx rfl (hb hby at_40) rfl ?_
    show Steps p.tables e below (T3.setTop (mkF m 42 #[.val (.int pk), .val (.int px), .val (.int py), .val (.int pz), .val (.int pw), .val (.int (3 : Int32)), .val (.ref b1), .val (.long ((0 : Int64) + (px.toInt64))), .second, .unset, .unset, .unset, .unset] [(.int (3 : Int32))])) _
    refine XS.iconst X3.here hx rfl (hb hby at_42) ?_
    show Steps p.tables e below (T3.setTop (mkF m 43 #[.val (.int pk), .val (.int px), .val (.int py), .val (.int pz), .val (.int pw), .val (.int (3 : Int32)), .val (.ref b1), .val (.long ((0 : Int64) + (px.toInt64))), .second, .unset, .unset, .unset, .unset] [(.int (2 : Int32)), (.int (3 : Int32))])) _
    refine XS.icmpNo X3.here hx rfl (hb hby at_43) rfl (flt (by decide : ¬ ((3 : Int32) < (2 : Int32)))).1 ?_
    show Steps p.tables e below (T3.setTop (mkF m 46 #[.val (.int pk), .val (.int px), .val (.int py), .val (.int pz), .val (.int pw), .val (.int (3 : Int32)), .val (.ref b1), .val (.long ((0 : Int64) + (px.toInt64))), .second, .unset, .unset, .unset, .unset] [])) _
    refine XS.aload X3.here hx rfl (hb hby at_46) rfl rfl ?_
    show Steps p.tables e below (T3.setTop (mkF m 48 #[.val (.int pk), .val (.int px), .val (.int py), .val (.int pz), .val (.int pw), .val (.int (3 : Int32)), .val (.ref b1), .val (.long ((0 : Int64) + (px.toInt64))), .second, .unset, .unset, .unset, .unset] [(.ref b1)])) _
    refine XS.iloadN X3.here hx rfl (hb hby at_48) rfl ?_
    show Steps p.tables e below (T3.setTop (mkF m 49 #[.val (.int pk), .val (.int px), .val (.int py), .val (.int pz), .val (.int pw), .val (.int (3 : Int32)), .val (.ref b1), .val (.long ((0 : Int64) + (px.toInt64))), .second, .unset, .unset, .unset, .unset] [(.int py), (.ref b1)])) _
    refine XS.i2dS X3.here hx rfl (hb hby at_49) rfl (v := (FP.i2d py)) rfl ?_
    show Steps p.tables e below (T3.setTop (mkF m 50 #[.val (.int pk), .val (.int px), .val (.int py), .val (.int pz), .val (.int pw), .val (.int (3 : Int32)), .val (.ref b1), .val (.long ((0 : Int64) + (px.toInt64))), .second, .unset, .unset, .unset, .unset] [(.double (FP.i2d py)), (.ref b1)])) _
    refine st4.trans ?_
    show Steps p.tables e below (T4.setTop (mkF m 53 #[.val (.int pk), .val (.int px), .val (.int py), .val (.int pz), .val (.int pw), .val (.int (3 : Int32)), .val (.ref b1), .val (.long ((0 : Int64) + (px.toInt64))), .second, .unset, .unset, .unset, .unset] [])) _
    refine XS.lload X4.here hx rfl (hb hby at_53) rfl ?_
    show Steps p.tables e below (T4.setTop (mkF m 55 #[.val (.int pk), .val (.int px), .val (.int py), .val (.int pz), .val (.int pw), .val (.int (3 : Int32)), .val (.ref b1), .val (.long ((0 : Int64) + (px.toInt64))), .second, .unset, .unset, .unset, .unset] [(.long ((0 : Int64) + (px.toInt64)))])) _
    refine XS.iloadN X4.here hx rfl (hb hby at_55) rfl ?_
    show Steps p.tables e below (T4.setTop (mkF m 56 #[.val (.int pk), .val (.int px), .val (.int py), .val (.int pz), .val (.int pw), .val (.int (3 : Int32)), .val (.ref b1), .val (.long ((0 : Int64) + (px.toInt64))), .second, .unset, .unset, .unset, .unset] [(.int py), (.long ((0 : Int64) + (px.toInt64)))])) _
    refine XS.i2l X4.here hx rfl (hb hby at_56) rfl ?_
    show Steps p.tables e below (T4.setTop (mkF m 57 #[.val (.int pk), .val (.int px), .val (.int py), .val (.int pz), .val (.int pw), .val (.int (3 : Int32)), .val (.ref b1), .val (.long ((0 : Int64) + (px.toInt64))), .second, .unset, .unset, .unset, .unset] [(.long (py.toInt64)), (.long ((0 : Int64) + (px.toInt64)))])) _
    refine XS.ladd X4.here hx rfl (hb hby at_57) rfl ?_
    show Steps p.tables e below (T4.setTop (mkF m 58 #[.val (.int pk), .val (.int px), .val (.int py), .val (.int pz), .val (.int pw), .val (.int (3 : Int32)), .val (.ref b1), .val (.long ((0 : Int64) + (px.toInt64))), .second, .unset, .unset, .unset, .unset] [(.long (((0 : Int64) + (px.toInt64)) + (py.toInt64)))])) _
    refine XS.lstore X4.here hx rfl (hb hby at_58) rfl (l' := #[.val (.int pk), .val (.int px), .val (.int py), .val (.int pz), .val (.int pw), .val (.int (3 : Int32)), .val (.ref b1), .val (.long (((0 : Int64) + (px.toInt64)) + (py.toInt64))), .second, .unset, .unset, .unset, .unset]) rfl ?_
    show Steps p.tables e below (T4.setTop (mkF m 60 #[.val (.int pk), .val (.int px), .val (.int py), .val (.int pz), .val (.int pw), .val (.int (3 : Int32)), .val (.ref b1), .val (.long (((0 : Int64) + (px.toInt64)) + (py.toInt64))), .second, .unset, .unset, .unset, .unset] [])) _
    refine XS.iload X4.here hx rfl (hb hby at_60) rfl ?_
    show Steps p.tables e below (T4.setTop (mkF m 62 #[.val (.int pk), .val (.int px), .val (.int py), .val (.int pz), .val (.int pw), .val (.int (3 : Int32)), .val (.ref b1), .val (.long (((0 : Int64) + (px.toInt64)) + (py.toInt64))), .second, .unset, .unset, .unset, .unset] [(.int (3 : Int32))])) _
    refine XS.iconst X4.here hx rfl (hb hby at_62) ?_
    show Steps p.tables e below (T4.setTop (mkF m 63 #[.val (.int pk), .val (.int px), .val (.int py), .val (.int pz), .val (.int pw), .val (.int (3 : Int32)), .val (.ref b1), .val (.long (((0 : Int64) + (px.toInt64)) + (py.toInt64))), .second, .unset, .unset, .unset, .unset] [(.int (3 : Int32)), (.int (3 : Int32))])) _
    refine XS.icmpNo X4.here hx rfl (hb hby at_63) rfl (flt (by decide : ¬ ((3 : Int32) < (3 : Int32)))).1 ?_
    show Steps p.tables e below (T4.setTop (mkF m 66 #[.val (.int pk), .val (.int px), .val (.int py), .val (.int pz), .val (.int pw), .val (.int (3 : Int32)), .val (.ref b1), .val (.long (((0 : Int64) + (px.toInt64)) + (py.toInt64))), .second, .unset, .unset, .unset, .unset] [])) _
    refine XS.aload X4.here hx rfl (hb hby at_66) rfl rfl ?_
    show Steps p.tables e below (T4.setTop (mkF m 68 #[.val (.int pk), .val (.int px), .val (.int py), .val (.int pz), .val (.int pw), .val (.int (3 : Int32)), .val (.ref b1), .val (.long (((0 : Int64) + (px.toInt64)) + (py.toInt64))), .second, .unset, .unset, .unset, .unset] [(.ref b1)])) _
    refine XS.iloadN X4.here hx rfl (hb hby at_68) rfl ?_
    show Steps p.tables e below (T4.setTop (mkF m 69 #[.val (.int pk), .val (.int px), .val (.int py), .val (.int pz), .val (.int pw), .val (.int (3 : Int32)), .val (.ref b1), .val (.long (((0 : Int64) + (px.toInt64)) + (py.toInt64))), .second, .unset, .unset, .unset, .unset] [(.int pz), (.ref b1)])) _
    refine XS.i2dS X4.here hx rfl (hb hby at_69) rfl (v := (FP.i2d pz)) rfl ?_
    show Steps p.tables e below (T4.setTop (mkF m 70 #[.val (.int pk), .val (.int px), .val (.int py), .val (.int pz), .val (.int pw), .val (.int (3 : Int32)), .val (.ref b1), .val (.long (((0 : Int64) + (px.toInt64)) + (py.toInt64))), .second, .unset, .unset, .unset, .unset] [(.double (FP.i2d pz)), (.ref b1)])) _
    refine st5.trans ?_
    show Steps p.tables e below (T5.setTop (mkF m 73 #[.val (.int pk), .val (.int px), .val (.int py), .val (.int pz), .val (.int pw), .val (.int (3 : Int32)), .val (.ref b1), .val (.long (((0 : Int64) + (px.toInt64)) + (py.toInt64))), .second, .unset, .unset, .unset, .unset] [])) _
    refine XS.lload X5.here hx rfl (hb hby at_73) rfl ?_
    show Steps p.tables e below (T5.setTop (mkF m 75 #[.val (.int pk), .val (.int px), .val (.int py), .val (.int pz), .val (.int pw), .val (.int (3 : Int32)), .val (.ref b1), .val (.long (((0 : Int64) + (px.toInt64)) + (py.toInt64))), .second, .unset, .unset, .unset, .unset] [(.long (((0 : Int64) + (px.toInt64)) + (py.toInt64)))])) _
    refine XS.iloadN X5.here hx rfl (hb hby at_75) rfl ?_
    show Steps p.tables e below (T5.setTop (mkF m 76 #[.val (.int pk), .val (.int px), .val (.int py), .val (.int pz), .val (.int pw), .val (.int (3 : Int32)), .val (.ref b1), .val (.long (((0 : Int64) + (px.toInt64)) + (py.toInt64))), .second, .unset, .unset, .unset, .unset] [(.int pz), (.long (((0 : Int64) + (px.toInt64)) + (py.toInt64)))])) _
    refine XS.i2l X5.here hx rfl (hb hby at_76) rfl ?_
    show Steps p.tables e below (T5.setTop (mkF m 77 #[.val (.int pk), .val (.int px), .val (.int py), .val (.int pz), .val (.int pw), .val (.int (3 : Int32)), .val (.ref b1), .val (.long (((0 : Int64) + (px.toInt64)) + (py.toInt64))), .second, .unset, .unset, .unset, .unset] [(.long (pz.toInt64)), (.long (((0 : Int64) + (px.toInt64)) + (py.toInt64)))])) _
    refine XS.ladd X5.here hx rfl (hb hby at_77) rfl ?_
    show Steps p.tables e below (T5.setTop (mkF m 78 #[.val (.int pk), .val (.int px), .val (.int py), .val (.int pz), .val (.int pw), .val (.int (3 : Int32)), .val (.ref b1), .val (.long (((0 : Int64) + (px.toInt64)) + (py.toInt64))), .second, .unset, .unset, .unset, .unset] [(.long ((((0 : Int64) + (px.toInt64)) + (py.toInt64)) + (pz.toInt64)))])) _
    refine XS.lstore X5.here hx rfl (hb hby at_78) rfl (l' := #[.val (.int pk), .val (.int px), .val (.int py), .val (.int pz), .val (.int pw), .val (.int (3 : Int32)), .val (.ref b1), .val (.long ((((0 : Int64) + (px.toInt64)) + (py.toInt64)) + (pz.toInt64))), .second, .unset, .unset, .unset, .unset]) rfl ?_
    show Steps p.tables e below (T5.setTop (mkF m 80 #[.val (.int pk), .val (.int px), .val (.int py), .val (.int pz), .val (.int pw), .val (.int (3 : Int32)), .val (.ref b1), .val (.long ((((0 : Int64) + (px.toInt64)) + (py.toInt64)) + (pz.toInt64))), .second, .unset, .unset, .unset, .unset] [])) _
    refine XS.iload X5.here hx rfl (hb hby at_80) rfl ?_
    show Steps p.tables e below (T5.setTop (mkF m 82 #[.val (.int pk), .val (.int px), .val (.int py), .val (.int pz), .val (.int pw), .val (.int (3 : Int32)), .val (.ref b1), .val (.long ((((0 : Int64) + (px.toInt64)) + (py.toInt64)) + (pz.toInt64))), .second, .unset, .unset, .unset, .unset] [(.int (3 : Int32))])) _
    refine XS.iconst X5.here hx rfl (hb hby at_82) ?_
    show Steps p.tables e below (T5.setTop (mkF m 83 #[.val (.int pk), .val (.int px), .val (.int py), .val (.int pz), .val (.int pw), .val (.int (3 : Int32)), .val (.ref b1), .val (.long ((((0 : Int64) + (px.toInt64)) + (py.toInt64)) + (pz.toInt64))), .second, .unset, .unset, .unset, .unset] [(.int (4 : Int32)), (.int (3 : Int32))])) _
    refine XS.icmpYes X5.here hx rfl (pc0 := 83) (pc' := 102) rfl (hb hby at_83) rfl (tlt (by decide : (3 : Int32) < (4 : Int32))).1 (by decide) (by decide) ?_
    show Steps p.tables e below (T5.setTop (mkF m 102 #[.val (.int pk), .val (.int px), .val (.int py), .val (.int pz), .val (.int pw), .val (.int (3 : Int32)), .val (.ref b1), .val (.long ((((0 : Int64) + (px.toInt64)) + (py.toInt64)) + (pz.toInt64))), .second, .unset, .unset, .unset, .unset] [])) _
    refine XS.aload X5.here hx rfl (hb hby at_102) rfl rfl ?_
    show Steps p.tables e below (T5.setTop (mkF m 104 #[.val (.int pk), .val (.int px), .val (.int py), .val (.int pz), .val (.int pw), .val (.int (3 : Int32)), .val (.ref b1), .val (.long ((((0 : Int64) + (px.toInt64)) + (py.toInt64)) + (pz.toInt64))), .second, .unset, .unset, .unset, .unset] [(.ref b1)])) _
    refine st6.trans ?_
    show Steps p.tables e below (T6.setTop (mkF m 107 #[.val (.int pk), .val (.int px), .val (.int py), .val (.int pz), .val (.int pw), .val (.int (3 : Int32)), .val (.ref b1), .val (.long ((((0 : Int64) + (px.toInt64)) + (py.toInt64)) + (pz.toInt64))), .second, .unset, .unset, .unset, .unset] [(.double (FP.ddiv (FP.l2d ((((0 : Int64) + (px.toInt64)) + (py.toInt64)) + (pz.toInt64))) (FP.i2d (3 : Int32))))])) _
    refine XS.dstore X6.here hx rfl (hb hby at_107) rfl (l' := #[.val (.int pk), .val (.int px), .val (.int py), .val (.int pz), .val (.int pw), .val (.int (3 : Int32)), .val (.ref b1), .val (.long ((((0 : Int64) + (px.toInt64)) + (py.toInt64)) + (pz.toInt64))), .second, .val (.double (FP.ddiv (FP.l2d ((((0 : Int64) + (px.toInt64)) + (py.toInt64)) + (pz.toInt64))) (FP.i2d (3 : Int32)))), .second, .unset, .unset]) rfl ?_
    show Steps p.tables e below (T6.setTop (mkF m 109 #[.val (.int pk), .val (.int px), .val (.int py), .val (.int pz), .val (.int pw), .val (.int (3 : Int32)), .val (.ref b1), .val (.long ((((0 : Int64) + (px.toInt64)) + (py.toInt64)) + (pz.toInt64))), .second, .val (.double (FP.ddiv (FP.l2d ((((0 : Int64) + (px.toInt64)) + (py.toInt64)) + (pz.toInt64))) (FP.i2d (3 : Int32)))), .second, .unset, .unset] [])) _
    refine XS.iload X6.here hx rfl (hb hby at_109) rfl ?_
    show Steps p.tables e below (T6.setTop (mkF m 111 #[.val (.int pk), .val (.int px), .val (.int py), .val (.int pz), .val (.int pw), .val (.int (3 : Int32)), .val (.ref b1), .val (.long ((((0 : Int64) + (px.toInt64)) + (py.toInt64)) + (pz.toInt64))), .second, .val (.double (FP.ddiv (FP.l2d ((((0 : Int64) + (px.toInt64)) + (py.toInt64)) + (pz.toInt64))) (FP.i2d (3 : Int32)))), .second, .unset, .unset] [(.int (3 : Int32))])) _
    refine XS.ifYes X6.here hx rfl (pc0 := 111) (pc' := 118) rfl (hb hby at_111) rfl ((if0 _ _).trans (feq (by decide : ¬ ((3 : Int32) = (0 : Int32)))).2) (by decide) (by decide) ?_
    show Steps p.tables e below (T6.setTop (mkF m 118 #[.val (.int pk), .val (.int px), .val (.int py), .val (.int pz), .val (.int pw), .val (.int (3 : Int32)), .val (.ref b1), .val (.long ((((0 : Int64) + (px.toInt64)) + (py.toInt64)) + (pz.toInt64))), .second, .val (.double (FP.ddiv (FP.l2d ((((0 : Int64) + (px.toInt64)) + (py.toInt64)) + (pz.toInt64))) (FP.i2d (3 : Int32)))), .second, .unset, .unset] [])) _
    refine XS.lload X6.here hx rfl (hb hby at_118) rfl ?_
    show Steps p.tables e below (T6.setTop (mkF m 120 #[.val (.int pk), .val (.int px), .val (.int py), .val (.int pz), .val (.int pw), .val (.int (3 : Int32)), .val (.ref b1), .val (.long ((((0 : Int64) + (px.toInt64)) + (py.toInt64)) + (pz.toInt64))), .second, .val (.double (FP.ddiv (FP.l2d ((((0 : Int64) + (px.toInt64)) + (py.toInt64)) + (pz.toInt64))) (FP.i2d (3 : Int32)))), .second, .unset, .unset] [(.long ((((0 : Int64) + (px.toInt64)) + (py.toInt64)) + (pz.toInt64)))])) _
    refine XS.l2dS X6.here hx rfl (hb hby at_120) rfl (v := (FP.l2d ((((0 : Int64) + (px.toInt64)) + (py.toInt64)) + (pz.toInt64)))) rfl ?_
    show Steps p.tables e below (T6.setTop (mkF m 121 #[.val (.int pk), .val (.int px), .val (.int py), .val (.int pz), .val (.int pw), .val (.int (3 : Int32)), .val (.ref b1), .val (.long ((((0 : Int64) + (px.toInt64)) + (py.toInt64)) + (pz.toInt64))), .second, .val (.double (FP.ddiv (FP.l2d ((((0 : Int64) + (px.toInt64)) + (py.toInt64)) + (pz.toInt64))) (FP.i2d (3 : Int32)))), .second, .unset, .unset] [(.double (FP.l2d ((((0 : Int64) + (px.toInt64)) + (py.toInt64)) + (pz.toInt64))))])) _
    refine XS.iload X6.here hx rfl (hb hby at_121) rfl ?_
    show Steps p.tables e below (T6.setTop (mkF m 123 #[.val (.int pk), .val (.int px), .val (.int py), .val (.int pz), .val (.int pw), .val (.int (3 : Int32)), .val (.ref b1), .val (.long ((((0 : Int64) + (px.toInt64)) + (py.toInt64)) + (pz.toInt64))), .second, .val (.double (FP.ddiv (FP.l2d ((((0 : Int64) + (px.toInt64)) + (py.toInt64)) + (pz.toInt64))) (FP.i2d (3 : Int32)))), .second, .unset, .unset] [(.int (3 : Int32)), (.double (FP.l2d ((((0 : Int64) + (px.toInt64)) + (py.toInt64)) + (pz.toInt64))))])) _
    refine XS.i2dS X6.here hx rfl (hb hby at_123) rfl (v := (FP.i2d (3 : Int32))) rfl ?_
    show Steps p.tables e below (T6.setTop (mkF m 124 #[.val (.int pk), .val (.int px), .val (.int py), .val (.int pz), .val (.int pw), .val (.int (3 : Int32)), .val (.ref b1), .val (.long ((((0 : Int64) + (px.toInt64)) + (py.toInt64)) + (pz.toInt64))), .second, .val (.double (FP.ddiv (FP.l2d ((((0 : Int64) + (px.toInt64)) + (py.toInt64)) + (pz.toInt64))) (FP.i2d (3 : Int32)))), .second, .unset, .unset] [(.double (FP.i2d (3 : Int32))), (.double (FP.l2d ((((0 : Int64) + (px.toInt64)) + (py.toInt64)) + (pz.toInt64))))])) _
    refine XS.ddivS X6.here hx rfl (hb hby at_124) rfl (own_dv ((((0 : Int64) + (px.toInt64)) + (py.toInt64)) + (pz.toInt64)) (by decide)) (v := (FP.ddiv (FP.l2d ((((0 : Int64) + (px.toInt64)) + (py.toInt64)) + (pz.toInt64))) (FP.i2d (3 : Int32)))) rfl ?_
    show Steps p.tables e below (T6.setTop (mkF m 125 #[.val (.int pk), .val (.int px), .val (.int py), .val (.int pz), .val (.int pw), .val (.int (3 : Int32)), .val (.ref b1), .val (.long ((((0 : Int64) + (px.toInt64)) + (py.toInt64)) + (pz.toInt64))), .second, .val (.double (FP.ddiv (FP.l2d ((((0 : Int64) + (px.toInt64)) + (py.toInt64)) + (pz.toInt64))) (FP.i2d (3 : Int32)))), .second, .unset, .unset] [(.double (FP.ddiv (FP.l2d ((((0 : Int64) + (px.toInt64)) + (py.toInt64)) + (pz.toInt64))) (FP.i2d (3 : Int32))))])) _
    refine XS.dstore X6.here hx rfl (hb hby at_125) rfl (l' := #[.val (.int pk), .val (.int px), .val (.int py), .val (.int pz), .val (.int pw), .val (.int (3 : Int32)), .val (.ref b1), .val (.long ((((0 : Int64) + (px.toInt64)) + (py.toInt64)) + (pz.toInt64))), .second, .val (.double (FP.ddiv (FP.l2d ((((0 : Int64) + (px.toInt64)) + (py.toInt64)) + (pz.toInt64))) (FP.i2d (3 : Int32)))), .second, .val (.double (FP.ddiv (FP.l2d ((((0 : Int64) + (px.toInt64)) + (py.toInt64)) + (pz.toInt64))) (FP.i2d (3 : Int32)))), .second]) rfl ?_
    show Steps p.tables e below (T6.setTop (mkF m 127 #[.val (.int pk), .val (.int px), .val (.int py), .val (.int pz), .val (.int pw), .val (.int (3 : Int32)), .val (.ref b1), .val (.long ((((0 : Int64) + (px.toInt64)) + (py.toInt64)) + (pz.toInt64))), .second, .val (.double (FP.ddiv (FP.l2d ((((0 : Int64) + (px.toInt64)) + (py.toInt64)) + (pz.toInt64))) (FP.i2d (3 : Int32)))), .second, .val (.double (FP.ddiv (FP.l2d ((((0 : Int64) + (px.toInt64)) + (py.toInt64)) + (pz.toInt64))) (FP.i2d (3 : Int32)))), .second] [])) _
    refine XS.dload X6.here hx rfl (hb hby at_127) rfl ?_
    show Steps p.tables e below (T6.setTop (mkF m 129 #[.val (.int pk), .val (.int px), .val (.int py), .val (.int pz), .val (.int pw), .val (.int (3 : Int32)), .val (.ref b1), .val (.long ((((0 : Int64) + (px.toInt64)) + (py.toInt64)) + (pz.toInt64))), .second, .val (.double (FP.ddiv (FP.l2d ((((0 : Int64) + (px.toInt64)) + (py.toInt64)) + (pz.toInt64))) (FP.i2d (3 : Int32)))), .second, .val (.double (FP.ddiv (FP.l2d ((((0 : Int64) + (px.toInt64)) + (py.toInt64)) + (pz.toInt64))) (FP.i2d (3 : Int32)))), .second] [(.double (FP.ddiv (FP.l2d ((((0 : Int64) + (px.toInt64)) + (py.toInt64)) + (pz.toInt64))) (FP.i2d (3 : Int32))))])) _
    refine XS.dload X6.here hx rfl (hb hby at_129) rfl ?_
    show Steps p.tables e below (T6.setTop (mkF m 131 #[.val (.int pk), .val (.int px), .val (.int py), .val (.int pz), .val (.int pw), .val (.int (3 : Int32)), .val (.ref b1), .val (.long ((((0 : Int64) + (px.toInt64)) + (py.toInt64)) + (pz.toInt64))), .second, .val (.double (FP.ddiv (FP.l2d ((((0 : Int64) + (px.toInt64)) + (py.toInt64)) + (pz.toInt64))) (FP.i2d (3 : Int32)))), .second, .val (.double (FP.ddiv (FP.l2d ((((0 : Int64) + (px.toInt64)) + (py.toInt64)) + (pz.toInt64))) (FP.i2d (3 : Int32)))), .second] [(.double (FP.ddiv (FP.l2d ((((0 : Int64) + (px.toInt64)) + (py.toInt64)) + (pz.toInt64))) (FP.i2d (3 : Int32)))), (.double (FP.ddiv (FP.l2d ((((0 : Int64) + (px.toInt64)) + (py.toInt64)) + (pz.toInt64))) (FP.i2d (3 : Int32))))])) _
    refine XS.dcmpS X6.here hx rfl (hb hby at_131) rfl (v := (0 : Int32)) (dcmpV_self (own_dv ((((0 : Int64) + (px.toInt64)) + (py.toInt64)) + (pz.toInt64)) (by decide)) _) ?_
    show Steps p.tables e below (T6.setTop (mkF m 132 #[.val (.int pk), .val (.int px), .val (.int py), .val (.int pz), .val (.int pw), .val (.int (3 : Int32)), .val (.ref b1), .val (.long ((((0 : Int64) + (px.toInt64)) + (py.toInt64)) + (pz.toInt64))), .second, .val (.double (FP.ddiv (FP.l2d ((((0 : Int64) + (px.toInt64)) + (py.toInt64)) + (pz.toInt64))) (FP.i2d (3 : Int32)))), .second, .val (.double (FP.ddiv (FP.l2d ((((0 : Int64) + (px.toInt64)) + (py.toInt64)) + (pz.toInt64))) (FP.i2d (3 : Int32)))), .second] [(.int (0 : Int32))])) _
    refine XS.ifNo X6.here hx rfl (hb hby at_132) rfl ((if0 _ _).trans (teq (by decide : (0 : Int32) = (0 : Int32))).2) ?_
    show Steps p.tables e below (T6.setTop (mkF m 135 #[.val (.int pk), .val (.int px), .val (.int py), .val (.int pz), .val (.int pw), .val (.int (3 : Int32)), .val (.ref b1), .val (.long ((((0 : Int64) + (px.toInt64)) + (py.toInt64)) + (pz.toInt64))), .second, .val (.double (FP.ddiv (FP.l2d ((((0 : Int64) + (px.toInt64)) + (py.toInt64)) + (pz.toInt64))) (FP.i2d (3 : Int32)))), .second, .val (.double (FP.ddiv (FP.l2d ((((0 : Int64) + (px.toInt64)) + (py.toInt64)) + (pz.toInt64))) (FP.i2d (3 : Int32)))), .second] [])) _
    refine XS.iconst X6.here hx rfl (hb hby at_135) ?_
    show Steps p.tables e below (T6.setTop (mkF m 136 #[.val (.int pk), .val (.int px), .val (.int py), .val (.int pz), .val (.int pw), .val (.int (3 : Int32)), .val (.ref b1), .val (.long ((((0 : Int64) + (px.toInt64)) + (py.toInt64)) + (pz.toInt64))), .second, .val (.double (FP.ddiv (FP.l2d ((((0 : Int64) + (px.toInt64)) + (py.toInt64)) + (pz.toInt64))) (FP.i2d (3 : Int32)))), .second, .val (.double (FP.ddiv (FP.l2d ((((0 : Int64) + (px.toInt64)) + (py.toInt64)) + (pz.toInt64))) (FP.i2d (3 : Int32)))), .second] [(.int (1 : Int32))])) _
    refine XS.goto X6.here hx rfl (pc0 := 136) (pc' := 140) rfl (hb hby at_136) (by decide) (by decide) ?_
    show Steps p.tables e below (T6.setTop (mkF m 140 #[.val (.int pk), .val (.int px), .val (.int py), .val (.int pz), .val (.int pw), .val (.int (3 : Int32)), .val (.ref b1), .val (.long ((((0 : Int64) + (px.toInt64)) + (py.toInt64)) + (pz.toInt64))), .second, .val (.double (FP.ddiv (FP.l2d ((((0 : Int64) + (px.toInt64)) + (py.toInt64)) + (pz.toInt64))) (FP.i2d (3 : Int32)))), .second, .val (.double (FP.ddiv (FP.l2d ((((0 : Int64) + (px.toInt64)) + (py.toInt64)) + (pz.toInt64))) (FP.i2d (3 : Int32)))), .second] [(.int (1 : Int32))])) _
    exact retN X6 hx (t := .boolean) Bd.returns (by simp) (hb hby at_140) hr
  · show QL n0 _ T6.heap _
    rw [eq6]
    exact ⟨rfl, N6⟩
set_option maxRecDepth 65536 in
set_option maxHeartbeats 40000000 in
theorem rm04 (l : Launch) (Z : State) (a0 : Array Value) (hw : ∀ d ∈ tables_1, d.before a0 Z = true) (ws : List Jvm.Cond) (pk px py pz pw : Int32) (h0 : Heap) (n0 : Nat) (Z0 : n0 ≤ h0.size) (hn5 : ((pk &&& (2147483647 : Int32)) % (5 : Int32)) = (4 : Int32))  :
    MetFree l x (head1 (Jvm.Cond.code x code maxLocals ret :: ws) room_1) (fun a U => a = #[(.int pk), (.int px), (.int py), (.int pz), (.int pw)] ∧ Z.Warmed39 U.vm ∧ U.heap = h0) (fun _ _ _ _ _ => True) (fun _ U o U' => ∃ v L, o = .returned v ∧ QL n0 v U'.heap L ∧ FrameEnd U o U' L 1 4) := by
  refine MetFree.of_bodySF (plainFor_of_name pn_com_example_bytegauge_bytegauge_stats_TallyMeanPinLaw) hisR ?_
  intro p e s m args below meth c s₁ Bd hml0 hP hK
  obtain ⟨rfl, hZ, hh⟩ := hP
  have hx := Bd.exec
  have hby := Bd.bytes
  have hml : c.maxLocals = 13 := hml0
  have hown : s.vm.findClass "com/example/bytegauge/bytegauge/stats/TallyMeanPinLaw" = some m.cls := findClass_of_methodNamed Bd.named
  have hnm := (name_of_methodNamed Bd.named Bd.method).1
  have X0 : Stand p l e room_1 s m #[(.int pk), (.int px), (.int py), (.int pz), (.int pw)] below meth c s₁ [] 0 0 := Stand.of_body Bd
  have e0 : s₁.heap = h0 := by rw [← hh, Bd.state]; rfl
  have N0 := Fr.nil n0
  have pre0 : ∀ t, Steps p.tables e below (s₁.setTop (mkF m 0 #[.val (.int pk), .val (.int px), .val (.int py), .val (.int pz), .val (.int pw), .unset, .unset, .unset, .unset, .unset, .unset, .unset, .unset] [])) t → Steps p.tables e below (s₁.setTop (entryFrame m #[(.int pk), (.int px), (.int py), (.int pz), (.int pw)] maxLocals)) t := fun t k => castTop (ef_code m pk px py pz pw) k
  obtain ⟨T1, h1, X1, e1, E1, A1, D1, -, st1⟩ := newO X0 hx hZ hown (hw _ (List.mem_of_getElem? (i := 1) rfl)) (hw _ (List.mem_of_getElem? (i := 2) rfl)) (hw _ (List.mem_of_getElem? (i := 3) rfl)) e0 (g := (mkF m 8 #[.val (.int pk), .val (.int px), .val (.int py), .val (.int pz), .val (.int pw), .val (.int (4 : Int32)), .unset, .unset, .unset, .unset, .unset, .unset, .unset] [])) rfl (hb hby at_8) (by decide) (by decide)
  obtain ⟨b1, g1⟩ : ∃ z, z = h0.size := ⟨_, rfl⟩
  rw [← g1] at A1 D1 st1
  have g_b1 : n0 ≤ b1 := Nat.le_trans Z0 (Nat.le_of_eq g1.symm)
  have SZ1 := Nat.le_trans Z0 E1.1
  have F1_count : Fld Z h1 b1 "com/example/bytegauge/bytegauge/stats/Tally" "count" "I" (.int (0 : Int32)) := D1 (Or.inl (hw _ (List.mem_of_getElem? (i := 16) rfl))) (ty := .int) (by decide)
  have F1_sum : Fld Z h1 b1 "com/example/bytegauge/bytegauge/stats/Tally" "sum" "D" (.double (0 : UInt64)) := D1 (Or.inl (hw _ (List.mem_of_getElem? (i := 24) rfl))) (ty := .double) (by decide)
  have F1_running : Fld Z h1 b1 "com/example/bytegauge/bytegauge/stats/Tally" "running" "D" (.double (0 : UInt64)) := D1 (Or.inl (hw _ (List.mem_of_getElem? (i := 26) rfl))) (ty := .double) (by decide)
  have F1_squares : Fld Z h1 b1 "com/example/bytegauge/bytegauge/stats/Tally" "squares" "D" (.double (0 : UInt64)) := D1 (Or.inl (hw _ (List.mem_of_getElem? (i := 28) rfl))) (ty := .double) (by decide)
  obtain ⟨_, _, ⟨T2, L2, k2, n2⟩, -, X2, ⟨Lc2, hQ2, l2, y2, z2⟩, st2⟩ := X1.specialBack hx (y := (⟨"com/example/bytegauge/bytegauge/stats/Tally", "<init>", "()V"⟩ : MethodName)) rfl hown (mvT hZ (hw _ (List.mem_of_getElem? (i := 4) rfl))) (mvT hZ (hw _ (List.mem_of_getElem? (i := 5) rfl))) (mvT hZ (hw _ (List.mem_of_getElem? (i := 6) rfl))) (by decide) (backOf (W := 1) (rmI l Z a0 hw [] b1 h1 n0 SZ1) hZ (hw _ (List.mem_of_getElem? (i := 6) rfl)) (hw _ (List.mem_of_getElem? (i := 3) rfl)) (by decide) (by decide)) (g := (mkF m 12 #[.val (.int pk), .val (.int px), .val (.int py), .val (.int pz), .val (.int pw), .val (.int (4 : Int32)), .unset, .unset, .unset, .unset, .unset, .unset, .unset] [(.ref b1), (.ref b1)])) rfl (by rw [hml]; rfl) (Steps.refl _) (a := b1) (argsL := []) (rest := [(.ref b1)]) (lenOf pd___V rfl) rfl (by show 2 * 0 + _ ≤ _; exact Nat.le_of_eq rfl) (hb hby at_12) (fun _ _ => ⟨rfl, e1, (by decide : 1 + 0 ≤ _), (by decide : 4 + 0 ≤ _)⟩)
  dsimp only [Pt.U, Pt.locs, Pt.cells, Pt.slots] at X2 l2 y2 z2 st2 hQ2
  subst l2 y2 z2
  obtain ⟨rfl, N2q, eq2⟩ := hQ2
  have N2 := Fr.app N0 N2q
  obtain ⟨cq3, kq3, q3a, q3b, q3c⟩ := isOf hZ eq2 A1
  obtain ⟨_, _, ⟨T3, L3, k3, n3⟩, -, X3, ⟨Lc3, hQ3, l3, y3, z3⟩, st3⟩ := X2.virtualBack hx (y := (⟨"com/example/bytegauge/bytegauge/stats/Tally", "add", "(D)V"⟩ : MethodName)) (z := (⟨"com/example/bytegauge/bytegauge/stats/Tally", "add", "(D)V"⟩ : MethodName)) hown (mvT hZ (hw _ (List.mem_of_getElem? (i := 17) rfl))) (mvT hZ (hw _ (List.mem_of_getElem? (i := 18) rfl))) (notFace_of_selects (args := #[]) (mvT hZ (hw _ (List.mem_of_getElem? (i := 20) rfl)))) (mvT hZ (hw _ (List.mem_of_getElem? (i := 20) rfl))) (mvT hZ (hw _ (List.mem_of_getElem? (i := 19) rfl))) (by decide) (backOf (W := 0) (rmA l Z a0 hw [] b1 px (0 : Int32) (1 : Int32) (0 : Int64) (0 : UInt64) (0 : UInt64) 1056 h1 n0 SZ1 A1 F1_count (Fld.zeroD F1_sum) F1_running F1_squares g_b1 (by decide) (by decide) (by decide) (own_B 0 (Int.ofNat_le.mpr own_s0) (by decide)) (by decide) (by decide) own_mag0 own_nn0) hZ (hw _ (List.mem_of_getElem? (i := 21) rfl)) (hw _ (List.mem_of_getElem? (i := 3) rfl)) (by decide) (by decide)) q3a q3c (g := (mkF m 30 #[.val (.int pk), .val (.int px), .val (.int py), .val (.int pz), .val (.int pw), .val (.int (4 : Int32)), .val (.ref b1), .val (.long (0 : Int64)), .second, .unset, .unset, .unset, .unset] [(.double (FP.i2d px)), (.ref b1)])) rfl (by rw [hml]; rfl) (Steps.refl _) (argsL := [(.double (FP.i2d px))]) (rest := []) (lenOf pd__D_V rfl) rfl (by show 2 * 0 + _ ≤ _; exact Nat.le_of_eq rfl) (hb hby at_30) (fun _ _ => ⟨rfl, eq2, (by decide : 1 + 0 ≤ _), (by decide : 4 + 0 ≤ _)⟩)
  dsimp only [Pt.U, Pt.locs, Pt.cells, Pt.slots] at X3 l3 y3 z3 st3 hQ3
  subst l3 y3 z3
  obtain ⟨rn3, sq3, rfl, N3q, K3q, E3q, F3q0, F3q1, F3q2, F3q3, M3q, NN3q⟩ := hQ3
  have c3_0 := A1.keep K3q
  have SZ3 := Nat.le_trans SZ1 K3q.1
  have N3 := Fr.app N2 N3q
  obtain ⟨cq4, kq4, q4a, q4b, q4c⟩ := isOf hZ rfl E3q
  obtain ⟨_, _, ⟨T4, L4, k4, n4⟩, -, X4, ⟨Lc4, hQ4, l4, y4, z4⟩, st4⟩ := X3.virtualBack hx (y := (⟨"com/example/bytegauge/bytegauge/stats/Tally", "add", "(D)V"⟩ : MethodName)) (z := (⟨"com/example/bytegauge/bytegauge/stats/Tally", "add", "(D)V"⟩ : MethodName)) hown (mvT hZ (hw _ (List.mem_of_getElem? (i := 17) rfl))) (mvT hZ (hw _ (List.mem_of_getElem? (i := 18) rfl))) (notFace_of_selects (args := #[]) (mvT hZ (hw _ (List.mem_of_getElem? (i := 20) rfl)))) (mvT hZ (hw _ (List.mem_of_getElem? (i := 20) rfl))) (mvT hZ (hw _ (List.mem_of_getElem? (i := 19) rfl))) (by decide) (backOf (W := 0) (rmA l Z a0 hw [] b1 py (1 : Int32) (2 : Int32) ((0 : Int64) + (px.toInt64)) rn3 sq3 1061 T3.heap n0 SZ3 E3q F3q0 F3q1 F3q2 F3q3 g_b1 (by decide) (by decide) (by decide) (own_B 2147483648 (Int.ofNat_le.mpr (own_step own_s0 (by decide) px)) (by decide)) (by decide) (by decide) M3q NN3q) hZ (hw _ (List.mem_of_getElem? (i := 21) rfl)) (hw _ (List.mem_of_getElem? (i := 3) rfl)) (by decide) (by decide)) q4a q4c (g := (mkF m 50 #[.val (.int pk), .val (.int px), .val (.int py), .val (.int pz), .val (.int pw), .val (.int (4 : Int32)), .val (.ref b1), .val (.long ((0 : Int64) + (px.toInt64))), .second, .unset, .unset, .unset, .unset] [(.double (FP.i2d py)), (.ref b1)])) rfl (by rw [hml]; rfl) (Steps.refl _) (argsL := [(.double (FP.i2d py))]) (rest := []) (lenOf pd__D_V rfl) rfl (by show 2 * 0 + _ ≤ _; exact Nat.le_of_eq rfl) (hb hby at_50) (fun _ _ => ⟨rfl, rfl, (by decide : 1 + 0 ≤ _), (by decide : 4 + 0 ≤ _)⟩)
  dsimp only [Pt.U, Pt.locs, Pt.cells, Pt.slots] at X4 l4 y4 z4 st4 hQ4
  subst l4 y4 z4
  obtain ⟨rn4, sq4, rfl, N4q, K4q, E4q, F4q0, F4q1, F4q2, F4q3, M4q, NN4q⟩ := hQ4
  have c4_0 := E3q.keep K4q
  have SZ4 := Nat.le_trans SZ3 K4q.1
  have N4 := Fr.app N3 N4q
  obtain ⟨cq5, kq5, q5a, q5b, q5c⟩ := isOf hZ rfl E4q
  obtain ⟨_, _, ⟨T5, L5, k5, n5⟩, -, X5, ⟨Lc5, hQ5, l5, y5, z5⟩, st5⟩ := X4.virtualBack hx (y := (⟨"com/example/bytegauge/bytegauge/stats/Tally", "add", "(D)V"⟩ : MethodName)) (z := (⟨"com/example/bytegauge/bytegauge/stats/Tally", "add", "(D)V"⟩ : MethodName)) hown (mvT hZ (hw _ (List.mem_of_getElem? (i := 17) rfl))) (mvT hZ (hw _ (List.mem_of_getElem? (i := 18) rfl))) (notFace_of_selects (args := #[]) (mvT hZ (hw _ (List.mem_of_getElem? (i := 20) rfl)))) (mvT hZ (hw _ (List.mem_of_getElem? (i := 20) rfl))) (mvT hZ (hw _ (List.mem_of_getElem? (i := 19) rfl))) (by decide) (backOf (W := 0) (rmA l Z a0 hw [] b1 pz (2 : Int32) (3 : Int32) (((0 : Int64) + (px.toInt64)) + (py.toInt64)) rn4 sq4 1066 T4.heap n0 SZ4 E4q F4q0 F4q1 F4q2 F4q3 g_b1 (by decide) (by decide) (by decide) (own_B 4294967296 (Int.ofNat_le.mpr (own_step (own_step own_s0 (by decide) px) (by decide) py)) (by decide)) (by decide) (by decide) M4q NN4q) hZ (hw _ (List.mem_of_getElem? (i := 21) rfl)) (hw _ (List.mem_of_getElem? (i := 3) rfl)) (by decide) (by decide)) q5a q5c (g := (mkF m 70 #[.val (.int pk), .val (.int px), .val (.int py), .val (.int pz), .val (.int pw), .val (.int (4 : Int32)), .val (.ref b1), .val (.long (((0 : Int64) + (px.toInt64)) + (py.toInt64))), .second, .unset, .unset, .unset, .unset] [(.double (FP.i2d pz)), (.ref b1)])) rfl (by rw [hml]; rfl) (Steps.refl _) (argsL := [(.double (FP.i2d pz))]) (rest := []) (lenOf pd__D_V rfl) rfl (by show 2 * 0 + _ ≤ _; exact Nat.le_of_eq rfl) (hb hby at_70) (fun _ _ => ⟨rfl, rfl, (by decide : 1 + 0 ≤ _), (by decide : 4 + 0 ≤ _)⟩)
  dsimp only [Pt.U, Pt.locs, Pt.cells, Pt.slots] at X5 l5 y5 z5 st5 hQ5
  subst l5 y5 z5
  obtain ⟨rn5, sq5, rfl, N5q, K5q, E5q, F5q0, F5q1, F5q2, F5q3, M5q, NN5q⟩ := hQ5
  have c5_0 := E4q.keep K5q
  have SZ5 := Nat.le_trans SZ4 K5q.1
  have N5 := Fr.app N4 N5q
  obtain ⟨cq6, kq6, q6a, q6b, q6c⟩ := isOf hZ rfl E5q
  obtain ⟨_, _, ⟨T6, L6, k6, n6⟩, -, X6, ⟨Lc6, hQ6, l6, y6, z6⟩, st6⟩ := X5.virtualBack hx (y := (⟨"com/example/bytegauge/bytegauge/stats/Tally", "add", "(D)V"⟩ : MethodName)) (z := (⟨"com/example/bytegauge/bytegauge/stats/Tally", "add", "(D)V"⟩ : MethodName)) hown (mvT hZ (hw _ (List.mem_of_getElem? (i := 17) rfl))) (mvT hZ (hw _ (List.mem_of_getElem? (i := 18) rfl))) (notFace_of_selects (args := #[]) (mvT hZ (hw _ (List.mem_of_getElem? (i := 20) rfl)))) (mvT hZ (hw _ (List.mem_of_getElem? (i := 20) rfl))) (mvT hZ (hw _ (List.mem_of_getElem? (i := 19) rfl))) (by decide) (backOf (W := 0) (rmA l Z a0 hw [] b1 pw (3 : Int32) (4 : Int32) ((((0 : Int64) + (px.toInt64)) + (py.toInt64)) + (pz.toInt64)) rn5 sq5 1071 T5.heap n0 SZ5 E5q F5q0 F5q1 F5q2 F5q3 g_b1 (by decide) (by decide) (by decide) (own_B 6442450944 (Int.ofNat_le.mpr (own_step (own_step (own_step own_s0 (by decide) px) (by decide) py) (by decide) pz)) (by decide)) (by decide) (by decide) M5q NN5q) hZ (hw _ (List.mem_of_getElem? (i := 21) rfl)) (hw _ (List.mem_of_getElem? (i := 3) rfl)) (by decide) (by decide)) q6a q6c (g := (mkF m 91 #[.val (.int pk), .val (.int px), .val (.int py), .val (.int pz), .val (.int pw), .val (.int (4 : Int32)), .val (.ref b1), .val (.long ((((0 : Int64) + (px.toInt64)) + (py.toInt64)) + (pz.toInt64))), .second, .unset, .unset, .unset, .unset] [(.double (FP.i2d pw)), (.ref b1)])) rfl (by rw [hml]; rfl) (Steps.refl _) (argsL := [(.double (FP.i2d pw))]) (rest := []) (lenOf pd__D_V rfl) rfl (by show 2 * 0 + _ ≤ _; exact Nat.le_of_eq rfl) (hb hby at_91) (fun _ _ => ⟨rfl, rfl, (by decide : 1 + 0 ≤ _), (by decide : 4 + 0 ≤ _)⟩)
  dsimp only [Pt.U, Pt.locs, Pt.cells, Pt.slots] at X6 l6 y6 z6 st6 hQ6
  subst l6 y6 z6
  obtain ⟨rn6, sq6, rfl, N6q, K6q, E6q, F6q0, F6q1, F6q2, F6q3, M6q, NN6q⟩ := hQ6
  have c6_0 := E5q.keep K6q
  have SZ6 := Nat.le_trans SZ5 K6q.1
  have N6 := Fr.app N5 N6q
  obtain ⟨cq7, kq7, q7a, q7b, q7c⟩ := isOf hZ rfl E6q
  obtain ⟨_, _, ⟨T7, L7, k7, n7⟩, -, X7, ⟨Lc7, hQ7, l7, y7, z7⟩, st7⟩ := X6.virtualBack hx (y := (⟨"com/example/bytegauge/bytegauge/stats/Tally", "mean", "()D"⟩ : MethodName)) (z := (⟨"com/example/bytegauge/bytegauge/stats/Tally", "mean", "()D"⟩ : MethodName)) hown (mvT hZ (hw _ (List.mem_of_getElem? (i := 10) rfl))) (mvT hZ (hw _ (List.mem_of_getElem? (i := 11) rfl))) (notFace_of_selects (args := #[]) (mvT hZ (hw _ (List.mem_of_getElem? (i := 13) rfl)))) (mvT hZ (hw _ (List.mem_of_getElem? (i := 13) rfl))) (mvT hZ (hw _ (List.mem_of_getElem? (i := 12) rfl))) (by decide) (backOf (W := 0) (rmM1 l Z a0 hw [] b1 (4 : Int32) (((((0 : Int64) + (px.toInt64)) + (py.toInt64)) + (pz.toInt64)) + (pw.toInt64)) T6.heap n0 SZ6 F6q0 F6q1 (by decide)) hZ (hw _ (List.mem_of_getElem? (i := 14) rfl)) (hw _ (List.mem_of_getElem? (i := 3) rfl)) (by decide) (by decide)) q7a q7c (g := (mkF m 104 #[.val (.int pk), .val (.int px), .val (.int py), .val (.int pz), .val (.int pw), .val (.int (4 : Int32)), .val (.ref b1), .val (.long (((((0 : Int64) + (px.toInt64)) + (py.toInt64)) + (pz.toInt64)) + (pw.toInt64))), .second, .unset, .unset, .unset, .unset] [(.ref b1)])) rfl (by rw [hml]; rfl) (Steps.refl _) (argsL := []) (rest := []) (lenOf pd___D rfl) rfl (by show 2 * 0 + _ ≤ _; exact Nat.le_of_eq rfl) (hb hby at_104) (fun _ _ => ⟨rfl, rfl, (by decide : 1 + 0 ≤ _), (by decide : 4 + 0 ≤ _)⟩)
  dsimp only [Pt.U, Pt.locs, Pt.cells, Pt.slots] at X7 l7 y7 z7 st7 hQ7
  subst l7 y7 z7
  obtain ⟨rfl, N7q, eq7⟩ := hQ7
  have N7 := Fr.app N6 N7q
  obtain ⟨fs, hr, hrun, hended, hW, hsame⟩ := X7.leave (v := some (.int (1 : Int32))) (fun h => by rw [Bd.returns] at h; cases h)
  refine ⟨_, _, pre0 _ ?_, hrun, hended, _, _, rfl, ?_, ⟨_, rfl⟩, hW, hsame.mono (by decide) (by decide)⟩
  · show Steps p.tables e below (s₁.setTop (mkF m 0 #[.val (.int pk), .val (.int px), .val (.int py), .val (.int pz), .val (.int pw), .unset, .unset, .unset, .unset, .unset, .unset, .unset, .unset] [])) _
    refine XS.iloadN X0.here hx rfl (hb hby at_0) rfl ?_
    show Steps p.tables e below (s₁.setTop (mkF m 1 #[.val (.int pk), .val (.int px), .val (.int py), .val (.int pz), .val (.int pw), .unset, .unset, .unset, .unset, .unset, .unset, .unset, .unset] [(.int pk)])) _
    refine X0.ldcInt hx hown (mvT hZ (hw _ (List.mem_of_getElem? (i := 0) rfl))) (g := (mkF m 1 #[.val (.int pk), .val (.int px), .val (.int py), .val (.int pz), .val (.int pw), .unset, .unset, .unset, .unset, .unset, .unset, .unset, .unset] [(.int pk)])) rfl (hb hby at_1) _ ?_
    show Steps p.tables e below (s₁.setTop (mkF m 3 #[.val (.int pk), .val (.int px), .val (.int py), .val (.int pz), .val (.int pw), .unset, .unset, .unset, .unset, .unset, .unset, .unset, .unset] [(.int (2147483647 : Int32)), (.int pk)])) _
    refine XS.iand X0.here hx rfl (hb hby at_3) rfl ?_
    show Steps p.tables e below (s₁.setTop (mkF m 4 #[.val (.int pk), .val (.int px), .val (.int py), .val (.int pz), .val (.int pw), .unset, .unset, .unset, .unset, .unset, .unset, .unset, .unset] [(.int (pk &&& (2147483647 : Int32)))])) _
    refine XS.iconst X0.here hx rfl (hb hby at_4) ?_
    show Steps p.tables e below (s₁.setTop (mkF m 5 #[.val (.int pk), .val (.int px), .val (.int py), .val (.int pz), .val (.int pw), .unset, .unset, .unset, .unset, .unset, .unset, .unset, .unset] [(.int (5 : Int32)), (.int (pk &&& (2147483647 : Int32)))])) _
    refine iremM X0 hx rfl (hb hby at_5) rfl (by decide) ?_
    show Steps p.tables e below (s₁.setTop (mkF m 6 #[.val (.int pk), .val (.int px), .val (.int py), .val (.int pz), .val (.int pw), .unset, .unset, .unset, .unset, .unset, .unset, .unset, .unset] [(.int ((pk &&& (2147483647 : Int32)) % (5 : Int32)))])) _
    rw [show ((pk &&& (2147483647 : Int32)) % (5 : Int32)) = (4 : Int32) from hn5]
    show Steps p.tables e below (s₁.setTop (mkF m 6 #[.val (.int pk), .val (.int px), .val (.int py), .val (.int pz), .val (.int pw), .unset, .unset, .unset, .unset, .unset, .unset, .unset, .unset] [(.int (4 : Int32))])) _
    refine XS.istore X0.here hx rfl (hb hby at_6) rfl (l' := #[.val (.int pk), .val (.int px), .val (.int py), .val (.int pz), .val (.int pw), .val (.int (4 : Int32)), .unset, .unset, .unset, .unset, .unset, .unset, .unset]) rfl ?_
    show Steps p.tables e below (s₁.setTop (mkF m 8 #[.val (.int pk), .val (.int px), .val (.int py), .val (.int pz), .val (.int pw), .val (.int (4 : Int32)), .unset, .unset, .unset, .unset, .unset, .unset, .unset] [])) _
    refine st1 _ ?_
    show Steps p.tables e below (T1.setTop (mkF m 11 #[.val (.int pk), .val (.int px), .val (.int py), .val (.int pz), .val (.int pw), .val (.int (4 : Int32)), .unset, .unset, .unset, .unset, .unset, .unset, .unset] [(.ref b1)])) _
    refine XS.dup X1.here hx rfl (hb hby at_11) rfl rfl ?_
    show Steps p.tables e below (T1.setTop (mkF m 12 #[.val (.int pk), .val (.int px), .val (.int py), .val (.int pz), .val (.int pw), .val (.int (4 : Int32)), .unset, .unset, .unset, .unset, .unset, .unset, .unset] [(.ref b1), (.ref b1)])) _
    refine st2.trans ?_
    show Steps p.tables e below (T2.setTop (mkF m 15 #[.val (.int pk), .val (.int px), .val (.int py), .val (.int pz), .val (.int pw), .val (.int (4 : Int32)), .unset, .unset, .unset, .unset, .unset, .unset, .unset] [(.ref b1)])) _
    refine XS.astore X2.here hx rfl (hb hby at_15) rfl rfl (l' := #[.val (.int pk), .val (.int px), .val (.int py), .val (.int pz), .val (.int pw), .val (.int (4 : Int32)), .val (.ref b1), .unset, .unset, .unset, .unset, .unset, .unset]) rfl ?_
    show Steps p.tables e below (T2.setTop (mkF m 17 #[.val (.int pk), .val (.int px), .val (.int py), .val (.int pz), .val (.int pw), .val (.int (4 : Int32)), .val (.ref b1), .unset, .unset, .unset, .unset, .unset, .unset] [])) _
    refine XS.lconst X2.here hx rfl (hb hby at_17) ?_
    show Steps p.tables e below (T2.setTop (mkF m 18 #[.val (.int pk), .val (.int px), .val (.int py), .val (.int pz), .val (.int pw), .val (.int (4 : Int32)), .val (.ref b1), .unset, .unset, .unset, .unset, .unset, .unset] [(.long (0 : Int64))])) _
    refine XS.lstore X2.here hx rfl (hb hby at_18) rfl (l' := #[.val (.int pk), .val (.int px), .val (.int py), .val (.int pz), .val (.int pw), .val (.int (4 : Int32)), .val (.ref b1), .val (.long (0 : Int64)), .second, .unset, .unset, .unset, .unset]) rfl ?_
    show Steps p.tables e below (T2.setTop (mkF m 20 #[.val (.int pk), .val (.int px), .val (.int py), .val (.int pz), .val (.int pw), .val (.int (4 : Int32)), .val (.ref b1), .val (.long (0 : Int64)), .second, .unset, .unset, .unset, .unset] [])) _
    refine XS.iload X2.here hx rfl (hb hby at_20) rfl ?_
    show Steps p.tables e below (T2.setTop (mkF m 22 #[.val (.int pk), .val (.int px), .val (.int py), .val (.int pz), .val (.int pw), .val (.int (4 : Int32)), .val (.ref b1), .val (.long (0 : Int64)), .second, .unset, .unset, .unset, .unset] [(.int (4 : Int32))])) _
    refine XS.iconst X2.here hx rfl (hb hby at_22) ?_
    show Steps p.tables e below (T2.setTop (mkF m 23 #[.val (.int pk), .val (.int px), .val (.int py), .val (.int pz), .val (.int pw), .val (.int (4 : Int32)), .val (.ref b1), .val (.long (0 : Int64)), .second, .unset, .unset, .unset, .unset] [(.int (1 : Int32)), (.int (4 : Int32))])) _
    refine XS.icmpNo X2.here hx rfl (hb hby at_23) rfl (flt (by decide : ¬ ((4 : Int32) < (1 : Int32)))).1 ?_
    show Steps p.tables e below (T2.setTop (mkF m 26 #[.val (.int pk), .val (.int px), .val (.int py), .val (.int pz), .val (.int pw), .val (.int (4 : Int32)), .val (.ref b1), .val (.long (0 : Int64)), .second, .unset, .unset, .unset, .unset] [])) _
    refine XS.aload X2.here hx rfl (hb hby at_26) rfl rfl ?_
    show Steps p.tables e below (T2.setTop (mkF m 28 #[.val (.int pk), .val (.int px), .val (.int py), .val (.int pz), .val (.int pw), .val (.int (4 : Int32)), .val (.ref b1), .val (.long (0 : Int64)), .second, .unset, .unset, .unset, .unset] [(.ref b1)])) _
    refine XS.iloadN X2.here hx rfl (hb hby at_28) rfl ?_
    show Steps p.tables e below (T2.setTop (mkF m 29 #[.val (.int pk), .val (.int px), .val (.int py), .val (.int pz), .val (.int pw), .val (.int (4 : Int32)), .val (.ref b1), .val (.long (0 : Int64)), .second, .unset, .unset, .unset, .unset] [(.int px), (.ref b1)])) _
    refine XS.i2dS X2.here hx rfl (hb hby at_29) rfl (v := (FP.i2d px)) rfl ?_
    show Steps p.tables e below (T2.setTop (mkF m 30 #[.val (.int pk), .val (.int px), .val (.int py), .val (.int pz), .val (.int pw), .val (.int (4 : Int32)), .val (.ref b1), .val (.long (0 : Int64)), .second, .unset, .unset, .unset, .unset] [(.double (FP.i2d px)), (.ref b1)])) _
    refine st3.trans ?_
    show Steps p.tables e below (T3.setTop (mkF m 33 #[.val (.int pk), .val (.int px), .val (.int py), .val (.int pz), .val (.int pw), .val (.int (4 : Int32)), .val (.ref b1), .val (.long (0 : Int64)), .second, .unset, .unset, .unset, .unset] [])) _
    refine XS.lload X3.here hx rfl (hb hby at_33) rfl ?_
    show Steps p.tables e below (T3.setTop (mkF m 35 #[.val (.int pk), .val (.int px), .val (.int py), .val (.int pz), .val (.int pw), .val (.int (4 : Int32)), .val (.ref b1), .val (.long (0 : Int64)), .second, .unset, .unset, .unset, .unset] [(.long (0 : Int64))])) _
    refine XS.iloadN X3.here hx rfl (hb hby at_35) rfl ?_
    show Steps p.tables e below (T3.setTop (mkF m 36 #[.val (.int pk), .val (.int px), .val (.int py), .val (.int pz), .val (.int pw), .val (.int (4 : Int32)), .val (.ref b1), .val (.long (0 : Int64)), .second, .unset, .unset, .unset, .unset] [(.int px), (.long (0 : Int64))])) _
    refine XS.i2l X3.here hx rfl (hb hby at_36) rfl ?_
    show Steps p.tables e below (T3.setTop (mkF m 37 #[.val (.int pk), .val (.int px), .val (.int py), .val (.int pz), .val (.int pw), .val (.int (4 : Int32)), .val (.ref b1), .val (.long (0 : Int64)), .second, .unset, .unset, .unset, .unset] [(.long (px.toInt64)), (.long (0 : Int64))])) _
    refine XS.ladd X3.here hx rfl (hb hby at_37) rfl ?_
    show Steps p.tables e below (T3.setTop (mkF m 38 #[.val (.int pk), .val (.int px), .val (.int py), .val (.int pz), .val (.int pw), .val (.int (4 : Int32)), .val (.ref b1), .val (.long (0 : Int64)), .second, .unset, .unset, .unset, .unset] [(.long ((0 : Int64) + (px.toInt64)))])) _
    refine XS.lstore X3.here hx rfl (hb hby at_38) rfl (l' := #[.val (.int pk), .val (.int px), .val (.int py), .val (.int pz), .val (.int pw), .val (.int (4 : Int32)), .val (.ref b1), .val (.long ((0 : Int64) + (px.toInt64))), .second, .unset, .unset, .unset, .unset]) rfl ?_
    show Steps p.tables e below (T3.setTop (mkF m 40 #[.val (.int pk), .val (.int px), .val (.int py), .val (.int pz), .val (.int pw), .val (.int (4 : Int32)), .val (.ref b1), .val (.long ((0 : Int64) + (px.toInt64))), .second, .unset, .unset, .unset, .unset] [])) _
    refine XS.iload X3.here hx rfl (hb hby at_40) rfl ?_
    show Steps p.tables e below (T3.setTop (mkF m 42 #[.val (.int pk), .val (.int px), .val (.int py), .val (.int pz), .val (.int pw), .val (.int (4 : Int32)), .val (.ref b1), .val (.long ((0 : Int64) + (px.toInt64))), .second, .unset, .unset, .unset, .unset] [(.int (4 : Int32))])) _
    refine XS.iconst X3.here hx rfl (hb hby at_42) ?_
    show Steps p.tables e below (T3.setTop (mkF m 43 #[.val (.int pk), .val (.int px), .val (.int py), .val (.int pz), .val (.int pw), .val (.int (4 : Int32)), .val (.ref b1), .val (.long ((0 : Int64) + (px.toInt64))), .second, .unset, .unset, .unset, .unset] [(.int (2 : Int32)), (.int (4 : Int32))])) _
    refine XS.icmpNo X3.here hx rfl (hb hby at_43) rfl (flt (by decide : ¬ ((4 : Int32) < (2 : Int32)))).1 ?_
    show Steps p.tables e below (T3.setTop (mkF m 46 #[.val (.int pk), .val (.int px), .val (.int py), .val (.int pz), .val (.int pw), .val (.int (4 : Int32)), .val (.ref b1), .val (.long ((0 : Int64) + (px.toInt64))), .second, .unset, .unset, .unset, .unset] [])) _
    refine XS.aload X3.here hx rfl (hb hby at_46) rfl rfl ?_
    show Steps p.tables e below (T3.setTop (mkF m 48 #[.val (.int pk), .val (.int px), .val (.int py), .val (.int pz), .val (.int pw), .val (.int (4 : Int32)), .val (.ref b1), .val (.long ((0 : Int64) + (px.toInt64))), .second, .unset, .unset, .unset, .unset] [(.ref b1)])) _
    refine XS.iloadN X3.here hx rfl (hb hby at_48) rfl ?_
    show Steps p.tables e below (T3.setTop (mkF m 49 #[.val (.int pk), .val (.int px), .val (.int py), .val (.int pz), .val (.int pw), .val (.int (4 : Int32)), .val (.ref b1), .val (.long ((0 : Int64) + (px.toInt64))), .second, .unset, .unset, .unset, .unset] [(.int py), (.ref b1)])) _
    refine XS.i2dS X3.here hx rfl (hb hby at_49) rfl (v := (FP.i2d py)) rfl ?_
    show Steps p.tables e below (T3.setTop (mkF m 50 #[.val (.int pk), .val (.int px), .val (.int py), .val (.int pz), .val (.int pw), .val (.int (4 : Int32)), .val (.ref b1), .val (.long ((0 : Int64) + (px.toInt64))), .second, .unset, .unset, .unset, .unset] [(.double (FP.i2d py)), (.ref b1)])) _
    refine st4.trans ?_
    show Steps p.tables e below (T4.setTop (mkF m 53 #[.val (.int pk), .val (.int px), .val (.int py), .val (.int pz), .val (.int pw), .val (.int (4 : Int32)), .val (.ref b1), .val (.long ((0 : Int64) + (px.toInt64))), .second, .unset, .unset, .unset, .unset] [])) _
    refine XS.lload X4.here hx rfl (hb hby at_53) rfl ?_
    show Steps p.tables e below (T4.setTop (mkF m 55 #[.val (.int pk), .val (.int px), .val (.int py), .val (.int pz), .val (.int pw), .val (.int (4 : Int32)), .val (.ref b1), .val (.long ((0 : Int64) + (px.toInt64))), .second, .unset, .unset, .unset, .unset] [(.long ((0 : Int64) + (px.toInt64)))])) _
    refine XS.iloadN X4.here hx rfl (hb hby at_55) rfl ?_
    show Steps p.tables e below (T4.setTop (mkF m 56 #[.val (.int pk), .val (.int px), .val (.int py), .val (.int pz), .val (.int pw), .val (.int (4 : Int32)), .val (.ref b1), .val (.long ((0 : Int64) + (px.toInt64))), .second, .unset, .unset, .unset, .unset] [(.int py), (.long ((0 : Int64) + (px.toInt64)))])) _
    refine XS.i2l X4.here hx rfl (hb hby at_56) rfl ?_
    show Steps p.tables e below (T4.setTop (mkF m 57 #[.val (.int pk), .val (.int px), .val (.int py), .val (.int pz), .val (.int pw), .val (.int (4 : Int32)), .val (.ref b1), .val (.long ((0 : Int64) + (px.toInt64))), .second, .unset, .unset, .unset, .unset] [(.long (py.toInt64)), (.long ((0 : Int64) + (px.toInt64)))])) _
    refine XS.ladd X4.here hx rfl (hb hby at_57) rfl ?_
    show Steps p.tables e below (T4.setTop (mkF m 58 #[.val (.int pk), .val (.int px), .val (.int py), .val (.int pz), .val (.int pw), .val (.int (4 : Int32)), .val (.ref b1), .val (.long ((0 : Int64) + (px.toInt64))), .second, .unset, .unset, .unset, .unset] [(.long (((0 : Int64) + (px.toInt64)) + (py.toInt64)))])) _
    refine XS.lstore X4.here hx rfl (hb hby at_58) rfl (l' := #[.val (.int pk), .val (.int px), .val (.int py), .val (.int pz), .val (.int pw), .val (.int (4 : Int32)), .val (.ref b1), .val (.long (((0 : Int64) + (px.toInt64)) + (py.toInt64))), .second, .unset, .unset, .unset, .unset]) rfl ?_
    show Steps p.tables e below (T4.setTop (mkF m 60 #[.val (.int pk), .val (.int px), .val (.int py), .val (.int pz), .val (.int pw), .val (.int (4 : Int32)), .val (.ref b1), .val (.long (((0 : Int64) + (px.toInt64)) + (py.toInt64))), .second, .unset, .unset, .unset, .unset] [])) _
    refine XS.iload X4.here hx rfl (hb hby at_60) rfl ?_
    show Steps p.tables e below (T4.setTop (mkF m 62 #[.val (.int pk), .val (.int px), .val (.int py), .val (.int pz), .val (.int pw), .val (.int (4 : Int32)), .val (.ref b1), .val (.long (((0 : Int64) + (px.toInt64)) + (py.toInt64))), .second, .unset, .unset, .unset, .unset] [(.int (4 : Int32))])) _
    refine XS.iconst X4.here hx rfl (hb hby at_62) ?_
    show Steps p.tables e below (T4.setTop (mkF m 63 #[.val (.int pk), .val (.int px), .val (.int py), .val (.int pz), .val (.int pw), .val (.int (4 : Int32)), .val (.ref b1), .val (.long (((0 : Int64) + (px.toInt64)) + (py.toInt64))), .second, .unset, .unset, .unset, .unset] [(.int (3 : Int32)), (.int (4 : Int32))])) _
    refine XS.icmpNo X4.here hx rfl (hb hby at_63) rfl (flt (by decide : ¬ ((4 : Int32) < (3 : Int32)))).1 ?_
    show Steps p.tables e below (T4.setTop (mkF m 66 #[.val (.int pk), .val (.int px), .val (.int py), .val (.int pz), .val (.int pw), .val (.int (4 : Int32)), .val (.ref b1), .val (.long (((0 : Int64) + (px.toInt64)) + (py.toInt64))), .second, .unset, .unset, .unset, .unset] [])) _
    refine XS.aload X4.here hx rfl (hb hby at_66) rfl rfl ?_
    show Steps p.tables e below (T4.setTop (mkF m 68 #[.val (.int pk), .val (.int px), .val (.int py), .val (.int pz), .val (.int pw), .val (.int (4 : Int32)), .val (.ref b1), .val (.long (((0 : Int64) + (px.toInt64)) + (py.toInt64))), .second, .unset, .unset, .unset, .unset] [(.ref b1)])) _
    refine XS.iloadN X4.here hx rfl (hb hby at_68) rfl ?_
    show Steps p.tables e below (T4.setTop (mkF m 69 #[.val (.int pk), .val (.int px), .val (.int py), .val (.int pz), .val (.int pw), .val (.int (4 : Int32)), .val (.ref b1), .val (.long (((0 : Int64) + (px.toInt64)) + (py.toInt64))), .second, .unset, .unset, .unset, .unset] [(.int pz), (.ref b1)])) _
    refine XS.i2dS X4.here hx rfl (hb hby at_69) rfl (v := (FP.i2d pz)) rfl ?_
    show Steps p.tables e below (T4.setTop (mkF m 70 #[.val (.int pk), .val (.int px), .val (.int py), .val (.int pz), .val (.int pw), .val (.int (4 : Int32)), .val (.ref b1), .val (.long (((0 : Int64) + (px.toInt64)) + (py.toInt64))), .second, .unset, .unset, .unset, .unset] [(.double (FP.i2d pz)), (.ref b1)])) _
    refine st5.trans ?_
    show Steps p.tables e below (T5.setTop (mkF m 73 #[.val (.int pk), .val (.int px), .val (.int py), .val (.int pz), .val (.int pw), .val (.int (4 : Int32)), .val (.ref b1), .val (.long (((0 : Int64) + (px.toInt64)) + (py.toInt64))), .second, .unset, .unset, .unset, .unset] [])) _
    refine XS.lload X5.here hx rfl (hb hby at_73) rfl ?_
    show Steps p.tables e below (T5.setTop (mkF m 75 #[.val (.int pk), .val (.int px), .val (.int py), .val (.int pz), .val (.int pw), .val (.int (4 : Int32)), .val (.ref b1), .val (.long (((0 : Int64) + (px.toInt64)) + (py.toInt64))), .second, .unset, .unset, .unset, .unset] [(.long (((0 : Int64) + (px.toInt64)) + (py.toInt64)))])) _
    refine XS.iloadN X5.here hx rfl (hb hby at_75) rfl ?_
    show Steps p.tables e below (T5.setTop (mkF m 76 #[.val (.int pk), .val (.int px), .val (.int py), .val (.int pz), .val (.int pw), .val (.int (4 : Int32)), .val (.ref b1), .val (.long (((0 : Int64) + (px.toInt64)) + (py.toInt64))), .second, .unset, .unset, .unset, .unset] [(.int pz), (.long (((0 : Int64) + (px.toInt64)) + (py.toInt64)))])) _
    refine XS.i2l X5.here hx rfl (hb hby at_76) rfl ?_
    show Steps p.tables e below (T5.setTop (mkF m 77 #[.val (.int pk), .val (.int px), .val (.int py), .val (.int pz), .val (.int pw), .val (.int (4 : Int32)), .val (.ref b1), .val (.long (((0 : Int64) + (px.toInt64)) + (py.toInt64))), .second, .unset, .unset, .unset, .unset] [(.long (pz.toInt64)), (.long (((0 : Int64) + (px.toInt64)) + (py.toInt64)))])) _
    refine XS.ladd X5.here hx rfl (hb hby at_77) rfl ?_
    show Steps p.tables e below (T5.setTop (mkF m 78 #[.val (.int pk), .val (.int px), .val (.int py), .val (.int pz), .val (.int pw), .val (.int (4 : Int32)), .val (.ref b1), .val (.long (((0 : Int64) + (px.toInt64)) + (py.toInt64))), .second, .unset, .unset, .unset, .unset] [(.long ((((0 : Int64) + (px.toInt64)) + (py.toInt64)) + (pz.toInt64)))])) _
    refine XS.lstore X5.here hx rfl (hb hby at_78) rfl (l' := #[.val (.int pk), .val (.int px), .val (.int py), .val (.int pz), .val (.int pw), .val (.int (4 : Int32)), .val (.ref b1), .val (.long ((((0 : Int64) + (px.toInt64)) + (py.toInt64)) + (pz.toInt64))), .second, .unset, .unset, .unset, .unset]) rfl ?_
    show Steps p.tables e below (T5.setTop (mkF m 80 #[.val (.int pk), .val (.int px), .val (.int py), .val (.int pz), .val (.int pw), .val (.int (4 : Int32)), .val (.ref b1), .val (.long ((((0 : Int64) + (px.toInt64)) + (py.toInt64)) + (pz.toInt64))), .second, .unset, .unset, .unset, .unset] [])) _
    refine XS.iload X5.here hx rfl (hb hby at_80) rfl ?_
    show Steps p.tables e below (T5.setTop (mkF m 82 #[.val (.int pk), .val (.int px), .val (.int py), .val (.int pz), .val (.int pw), .val (.int (4 : Int32)), .val (.ref b1), .val (.long ((((0 : Int64) + (px.toInt64)) + (py.toInt64)) + (pz.toInt64))), .second, .unset, .unset, .unset, .unset] [(.int (4 : Int32))])) _
    refine XS.iconst X5.here hx rfl (hb hby at_82) ?_
    show Steps p.tables e below (T5.setTop (mkF m 83 #[.val (.int pk), .val (.int px), .val (.int py), .val (.int pz), .val (.int pw), .val (.int (4 : Int32)), .val (.ref b1), .val (.long ((((0 : Int64) + (px.toInt64)) + (py.toInt64)) + (pz.toInt64))), .second, .unset, .unset, .unset, .unset] [(.int (4 : Int32)), (.int (4 : Int32))])) _
    refine XS.icmpNo X5.here hx rfl (hb hby at_83) rfl (flt (by decide : ¬ ((4 : Int32) < (4 : Int32)))).1 ?_
    show Steps p.tables e below (T5.setTop (mkF m 86 #[.val (.int pk), .val (.int px), .val (.int py), .val (.int pz), .val (.int pw), .val (.int (4 : Int32)), .val (.ref b1), .val (.long ((((0 : Int64) + (px.toInt64)) + (py.toInt64)) + (pz.toInt64))), .second, .unset, .unset, .unset, .unset] [])) _
    refine XS.aload X5.here hx rfl (hb hby at_86) rfl rfl ?_
    show Steps p.tables e below (T5.setTop (mkF m 88 #[.val (.int pk), .val (.int px), .val (.int py), .val (.int pz), .val (.int pw), .val (.int (4 : Int32)), .val (.ref b1), .val (.long ((((0 : Int64) + (px.toInt64)) + (py.toInt64)) + (pz.toInt64))), .second, .unset, .unset, .unset, .unset] [(.ref b1)])) _
    refine XS.iload X5.here hx rfl (hb hby at_88) rfl ?_
    show Steps p.tables e below (T5.setTop (mkF m 90 #[.val (.int pk), .val (.int px), .val (.int py), .val (.int pz), .val (.int pw), .val (.int (4 : Int32)), .val (.ref b1), .val (.long ((((0 : Int64) + (px.toInt64)) + (py.toInt64)) + (pz.toInt64))), .second, .unset, .unset, .unset, .unset] [(.int pw), (.ref b1)])) _
    refine XS.i2dS X5.here hx rfl (hb hby at_90) rfl (v := (FP.i2d pw)) rfl ?_
    show Steps p.tables e below (T5.setTop (mkF m 91 #[.val (.int pk), .val (.int px), .val (.int py), .val (.int pz), .val (.int pw), .val (.int (4 : Int32)), .val (.ref b1), .val (.long ((((0 : Int64) + (px.toInt64)) + (py.toInt64)) + (pz.toInt64))), .second, .unset, .unset, .unset, .unset] [(.double (FP.i2d pw)), (.ref b1)])) _
    refine st6.trans ?_
    show Steps p.tables e below (T6.setTop (mkF m 94 #[.val (.int pk), .val (.int px), .val (.int py), .val (.int pz), .val (.int pw), .val (.int (4 : Int32)), .val (.ref b1), .val (.long ((((0 : Int64) + (px.toInt64)) + (py.toInt64)) + (pz.toInt64))), .second, .unset, .unset, .unset, .unset] [])) _
    refine XS.lload X6.here hx rfl (hb hby at_94) rfl ?_
    show Steps p.tables e below (T6.setTop (mkF m 96 #[.val (.int pk), .val (.int px), .val (.int py), .val (.int pz), .val (.int pw), .val (.int (4 : Int32)), .val (.ref b1), .val (.long ((((0 : Int64) + (px.toInt64)) + (py.toInt64)) + (pz.toInt64))), .second, .unset, .unset, .unset, .unset] [(.long ((((0 : Int64) + (px.toInt64)) + (py.toInt64)) + (pz.toInt64)))])) _
    refine XS.iload X6.here hx rfl (hb hby at_96) rfl ?_
    show Steps p.tables e below (T6.setTop (mkF m 98 #[.val (.int pk), .val (.int px), .val (.int py), .val (.int pz), .val (.int pw), .val (.int (4 : Int32)), .val (.ref b1), .val (.long ((((0 : Int64) + (px.toInt64)) + (py.toInt64)) + (pz.toInt64))), .second, .unset, .unset, .unset, .unset] [(.int pw), (.long ((((0 : Int64) + (px.toInt64)) + (py.toInt64)) + (pz.toInt64)))])) _
    refine XS.i2l X6.here hx rfl (hb hby at_98) rfl ?_
    show Steps p.tables e below (T6.setTop (mkF m 99 #[.val (.int pk), .val (.int px), .val (.int py), .val (.int pz), .val (.int pw), .val (.int (4 : Int32)), .val (.ref b1), .val (.long ((((0 : Int64) + (px.toInt64)) + (py.toInt64)) + (pz.toInt64))), .second, .unset, .unset, .unset, .unset] [(.long (pw.toInt64)), (.long ((((0 : Int64) + (px.toInt64)) + (py.toInt64)) + (pz.toInt64)))])) _
    refine XS.ladd X6.here hx rfl (hb hby at_99) rfl ?_
    show Steps p.tables e below (T6.setTop (mkF m 100 #[.val (.int pk), .val (.int px), .val (.int py), .val (.int pz), .val (.int pw), .val (.int (4 : Int32)), .val (.ref b1), .val (.long ((((0 : Int64) + (px.toInt64)) + (py.toInt64)) + (pz.toInt64))), .second, .unset, .unset, .unset, .unset] [(.long (((((0 : Int64) + (px.toInt64)) + (py.toInt64)) + (pz.toInt64)) + (pw.toInt64)))])) _
    refine XS.lstore X6.here hx rfl (hb hby at_100) rfl (l' := #[.val (.int pk), .val (.int px), .val (.int py), .val (.int pz), .val (.int pw), .val (.int (4 : Int32)), .val (.ref b1), .val (.long (((((0 : Int64) + (px.toInt64)) + (py.toInt64)) + (pz.toInt64)) + (pw.toInt64))), .second, .unset, .unset, .unset, .unset]) rfl ?_
    show Steps p.tables e below (T6.setTop (mkF m 102 #[.val (.int pk), .val (.int px), .val (.int py), .val (.int pz), .val (.int pw), .val (.int (4 : Int32)), .val (.ref b1), .val (.long (((((0 : Int64) + (px.toInt64)) + (py.toInt64)) + (pz.toInt64)) + (pw.toInt64))), .second, .unset, .unset, .unset, .unset] [])) _
    refine XS.aload X6.here hx rfl (hb hby at_102) rfl rfl ?_
    show Steps p.tables e below (T6.setTop (mkF m 104 #[.val (.int pk), .val (.int px), .val (.int py), .val (.int pz), .val (.int pw), .val (.int (4 : Int32)), .val (.ref b1), .val (.long (((((0 : Int64) + (px.toInt64)) + (py.toInt64)) + (pz.toInt64)) + (pw.toInt64))), .second, .unset, .unset, .unset, .unset] [(.ref b1)])) _
    refine st7.trans ?_
    show Steps p.tables e below (T7.setTop (mkF m 107 #[.val (.int pk), .val (.int px), .val (.int py), .val (.int pz), .val (.int pw), .val (.int (4 : Int32)), .val (.ref b1), .val (.long (((((0 : Int64) + (px.toInt64)) + (py.toInt64)) + (pz.toInt64)) + (pw.toInt64))), .second, .unset, .unset, .unset, .unset] [(.double (FP.ddiv (FP.l2d (((((0 : Int64) + (px.toInt64)) + (py.toInt64)) + (pz.toInt64)) + (pw.toInt64))) (FP.i2d (4 : Int32))))])) _
    refine XS.dstore X7.here hx rfl (hb hby at_107) rfl (l' := #[.val (.int pk), .val (.int px), .val (.int py), .val (.int pz), .val (.int pw), .val (.int (4 : Int32)), .val (.ref b1), .val (.long (((((0 : Int64) + (px.toInt64)) + (py.toInt64)) + (pz.toInt64)) + (pw.toInt64))), .second, .val (.double (FP.ddiv (FP.l2d (((((0 : Int64) + (px.toInt64)) + (py.toInt64)) + (pz.toInt64)) + (pw.toInt64))) (FP.i2d (4 : Int32)))), .second, .unset, .unset]) rfl ?_
    show Steps p.tables e below (T7.setTop (mkF m 109 #[.val (.int pk), .val (.int px), .val (.int py), .val (.int pz), .val (.int pw), .val (.int (4 : Int32)), .val (.ref b1), .val (.long (((((0 : Int64) + (px.toInt64)) + (py.toInt64)) + (pz.toInt64)) + (pw.toInt64))), .second, .val (.double (FP.ddiv (FP.l2d (((((0 : Int64) + (px.toInt64)) + (py.toInt64)) + (pz.toInt64)) + (pw.toInt64))) (FP.i2d (4 : Int32)))), .second, .unset, .unset] [])) _
    refine XS.iload X7.here hx rfl (hb hby at_109) rfl ?_
    show Steps p.tables e below (T7.setTop (mkF m 111 #[.val (.int pk), .val (.int px), .val (.int py), .val (.int pz), .val (.int pw), .val (.int (4 : Int32)), .val (.ref b1), .val (.long (((((0 : Int64) + (px.toInt64)) + (py.toInt64)) + (pz.toInt64)) + (pw.toInt64))), .second, .val (.double (FP.ddiv (FP.l2d (((((0 : Int64) + (px.toInt64)) + (py.toInt64)) + (pz.toInt64)) + (pw.toInt64))) (FP.i2d (4 : Int32)))), .second, .unset, .unset] [(.int (4 : Int32))])) _
    refine XS.ifYes X7.here hx rfl (pc0 := 111) (pc' := 118) rfl (hb hby at_111) rfl ((if0 _ _).trans (feq (by decide : ¬ ((4 : Int32) = (0 : Int32)))).2) (by decide) (by decide) ?_
    show Steps p.tables e below (T7.setTop (mkF m 118 #[.val (.int pk), .val (.int px), .val (.int py), .val (.int pz), .val (.int pw), .val (.int (4 : Int32)), .val (.ref b1), .val (.long (((((0 : Int64) + (px.toInt64)) + (py.toInt64)) + (pz.toInt64)) + (pw.toInt64))), .second, .val (.double (FP.ddiv (FP.l2d (((((0 : Int64) + (px.toInt64)) + (py.toInt64)) + (pz.toInt64)) + (pw.toInt64))) (FP.i2d (4 : Int32)))), .second, .unset, .unset] [])) _
    refine XS.lload X7.here hx rfl (hb hby at_118) rfl ?_
    show Steps p.tables e below (T7.setTop (mkF m 120 #[.val (.int pk), .val (.int px), .val (.int py), .val (.int pz), .val (.int pw), .val (.int (4 : Int32)), .val (.ref b1), .val (.long (((((0 : Int64) + (px.toInt64)) + (py.toInt64)) + (pz.toInt64)) + (pw.toInt64))), .second, .val (.double (FP.ddiv (FP.l2d (((((0 : Int64) + (px.toInt64)) + (py.toInt64)) + (pz.toInt64)) + (pw.toInt64))) (FP.i2d (4 : Int32)))), .second, .unset, .unset] [(.long (((((0 : Int64) + (px.toInt64)) + (py.toInt64)) + (pz.toInt64)) + (pw.toInt64)))])) _
    refine XS.l2dS X7.here hx rfl (hb hby at_120) rfl (v := (FP.l2d (((((0 : Int64) + (px.toInt64)) + (py.toInt64)) + (pz.toInt64)) + (pw.toInt64)))) rfl ?_
    show Steps p.tables e below (T7.setTop (mkF m 121 #[.val (.int pk), .val (.int px), .val (.int py), .val (.int pz), .val (.int pw), .val (.int (4 : Int32)), .val (.ref b1), .val (.long (((((0 : Int64) + (px.toInt64)) + (py.toInt64)) + (pz.toInt64)) + (pw.toInt64))), .second, .val (.double (FP.ddiv (FP.l2d (((((0 : Int64) + (px.toInt64)) + (py.toInt64)) + (pz.toInt64)) + (pw.toInt64))) (FP.i2d (4 : Int32)))), .second, .unset, .unset] [(.double (FP.l2d (((((0 : Int64) + (px.toInt64)) + (py.toInt64)) + (pz.toInt64)) + (pw.toInt64))))])) _
    refine XS.iload X7.here hx rfl (hb hby at_121) rfl ?_
    show Steps p.tables e below (T7.setTop (mkF m 123 #[.val (.int pk), .val (.int px), .val (.int py), .val (.int pz), .val (.int pw), .val (.int (4 : Int32)), .val (.ref b1), .val (.long (((((0 : Int64) + (px.toInt64)) + (py.toInt64)) + (pz.toInt64)) + (pw.toInt64))), .second, .val (.double (FP.ddiv (FP.l2d (((((0 : Int64) + (px.toInt64)) + (py.toInt64)) + (pz.toInt64)) + (pw.toInt64))) (FP.i2d (4 : Int32)))), .second, .unset, .unset] [(.int (4 : Int32)), (.double (FP.l2d (((((0 : Int64) + (px.toInt64)) + (py.toInt64)) + (pz.toInt64)) + (pw.toInt64))))])) _
    refine XS.i2dS X7.here hx rfl (hb hby at_123) rfl (v := (FP.i2d (4 : Int32))) rfl ?_
    show Steps p.tables e below (T7.setTop (mkF m 124 #[.val (.int pk), .val (.int px), .val (.int py), .val (.int pz), .val (.int pw), .val (.int (4 : Int32)), .val (.ref b1), .val (.long (((((0 : Int64) + (px.toInt64)) + (py.toInt64)) + (pz.toInt64)) + (pw.toInt64))), .second, .val (.double (FP.ddiv (FP.l2d (((((0 : Int64) + (px.toInt64)) + (py.toInt64)) + (pz.toInt64)) + (pw.toInt64))) (FP.i2d (4 : Int32)))), .second, .unset, .unset] [(.double (FP.i2d (4 : Int32))), (.double (FP.l2d (((((0 : Int64) + (px.toInt64)) + (py.toInt64)) + (pz.toInt64)) + (pw.toInt64))))])) _
    refine XS.ddivS X7.here hx rfl (hb hby at_124) rfl (own_dv (((((0 : Int64) + (px.toInt64)) + (py.toInt64)) + (pz.toInt64)) + (pw.toInt64)) (by decide)) (v := (FP.ddiv (FP.l2d (((((0 : Int64) + (px.toInt64)) + (py.toInt64)) + (pz.toInt64)) + (pw.toInt64))) (FP.i2d (4 : Int32)))) rfl ?_
    show Steps p.tables e below (T7.setTop (mkF m 125 #[.val (.int pk), .val (.int px), .val (.int py), .val (.int pz), .val (.int pw), .val (.int (4 : Int32)), .val (.ref b1), .val (.long (((((0 : Int64) + (px.toInt64)) + (py.toInt64)) + (pz.toInt64)) + (pw.toInt64))), .second, .val (.double (FP.ddiv (FP.l2d (((((0 : Int64) + (px.toInt64)) + (py.toInt64)) + (pz.toInt64)) + (pw.toInt64))) (FP.i2d (4 : Int32)))), .second, .unset, .unset] [(.double (FP.ddiv (FP.l2d (((((0 : Int64) + (px.toInt64)) + (py.toInt64)) + (pz.toInt64)) + (pw.toInt64))) (FP.i2d (4 : Int32))))])) _
    refine XS.dstore X7.here hx rfl (hb hby at_125) rfl (l' := #[.val (.int pk), .val (.int px), .val (.int py), .val (.int pz), .val (.int pw), .val (.int (4 : Int32)), .val (.ref b1), .val (.long (((((0 : Int64) + (px.toInt64)) + (py.toInt64)) + (pz.toInt64)) + (pw.toInt64))), .second, .val (.double (FP.ddiv (FP.l2d (((((0 : Int64) + (px.toInt64)) + (py.toInt64)) + (pz.toInt64)) + (pw.toInt64))) (FP.i2d (4 : Int32)))), .second, .val (.double (FP.ddiv (FP.l2d (((((0 : Int64) + (px.toInt64)) + (py.toInt64)) + (pz.toInt64)) + (pw.toInt64))) (FP.i2d (4 : Int32)))), .second]) rfl ?_
    show Steps p.tables e below (T7.setTop (mkF m 127 #[.val (.int pk), .val (.int px), .val (.int py), .val (.int pz), .val (.int pw), .val (.int (4 : Int32)), .val (.ref b1), .val (.long (((((0 : Int64) + (px.toInt64)) + (py.toInt64)) + (pz.toInt64)) + (pw.toInt64))), .second, .val (.double (FP.ddiv (FP.l2d (((((0 : Int64) + (px.toInt64)) + (py.toInt64)) + (pz.toInt64)) + (pw.toInt64))) (FP.i2d (4 : Int32)))), .second, .val (.double (FP.ddiv (FP.l2d (((((0 : Int64) + (px.toInt64)) + (py.toInt64)) + (pz.toInt64)) + (pw.toInt64))) (FP.i2d (4 : Int32)))), .second] [])) _
    refine XS.dload X7.here hx rfl (hb hby at_127) rfl ?_
    show Steps p.tables e below (T7.setTop (mkF m 129 #[.val (.int pk), .val (.int px), .val (.int py), .val (.int pz), .val (.int pw), .val (.int (4 : Int32)), .val (.ref b1), .val (.long (((((0 : Int64) + (px.toInt64)) + (py.toInt64)) + (pz.toInt64)) + (pw.toInt64))), .second, .val (.double (FP.ddiv (FP.l2d (((((0 : Int64) + (px.toInt64)) + (py.toInt64)) + (pz.toInt64)) + (pw.toInt64))) (FP.i2d (4 : Int32)))), .second, .val (.double (FP.ddiv (FP.l2d (((((0 : Int64) + (px.toInt64)) + (py.toInt64)) + (pz.toInt64)) + (pw.toInt64))) (FP.i2d (4 : Int32)))), .second] [(.double (FP.ddiv (FP.l2d (((((0 : Int64) + (px.toInt64)) + (py.toInt64)) + (pz.toInt64)) + (pw.toInt64))) (FP.i2d (4 : Int32))))])) _
    refine XS.dload X7.here hx rfl (hb hby at_129) rfl ?_
    show Steps p.tables e below (T7.setTop (mkF m 131 #[.val (.int pk), .val (.int px), .val (.int py), .val (.int pz), .val (.int pw), .val (.int (4 : Int32)), .val (.ref b1), .val (.long (((((0 : Int64) + (px.toInt64)) + (py.toInt64)) + (pz.toInt64)) + (pw.toInt64))), .second, .val (.double (FP.ddiv (FP.l2d (((((0 : Int64) + (px.toInt64)) + (py.toInt64)) + (pz.toInt64)) + (pw.toInt64))) (FP.i2d (4 : Int32)))), .second, .val (.double (FP.ddiv (FP.l2d (((((0 : Int64) + (px.toInt64)) + (py.toInt64)) + (pz.toInt64)) + (pw.toInt64))) (FP.i2d (4 : Int32)))), .second] [(.double (FP.ddiv (FP.l2d (((((0 : Int64) + (px.toInt64)) + (py.toInt64)) + (pz.toInt64)) + (pw.toInt64))) (FP.i2d (4 : Int32)))), (.double (FP.ddiv (FP.l2d (((((0 : Int64) + (px.toInt64)) + (py.toInt64)) + (pz.toInt64)) + (pw.toInt64))) (FP.i2d (4 : Int32))))])) _
    refine XS.dcmpS X7.here hx rfl (hb hby at_131) rfl (v := (0 : Int32)) (dcmpV_self (own_dv (((((0 : Int64) + (px.toInt64)) + (py.toInt64)) + (pz.toInt64)) + (pw.toInt64)) (by decide)) _) ?_
    show Steps p.tables e below (T7.setTop (mkF m 132 #[.val (.int pk), .val (.int px), .val (.int py), .val (.int pz), .val (.int pw), .val (.int (4 : Int32)), .val (.ref b1), .val (.long (((((0 : Int64) + (px.toInt64)) + (py.toInt64)) + (pz.toInt64)) + (pw.toInt64))), .second, .val (.double (FP.ddiv (FP.l2d (((((0 : Int64) + (px.toInt64)) + (py.toInt64)) + (pz.toInt64)) + (pw.toInt64))) (FP.i2d (4 : Int32)))), .second, .val (.double (FP.ddiv (FP.l2d (((((0 : Int64) + (px.toInt64)) + (py.toInt64)) + (pz.toInt64)) + (pw.toInt64))) (FP.i2d (4 : Int32)))), .second] [(.int (0 : Int32))])) _
    refine XS.ifNo X7.here hx rfl (hb hby at_132) rfl ((if0 _ _).trans (teq (by decide : (0 : Int32) = (0 : Int32))).2) ?_
    show Steps p.tables e below (T7.setTop (mkF m 135 #[.val (.int pk), .val (.int px), .val (.int py), .val (.int pz), .val (.int pw), .val (.int (4 : Int32)), .val (.ref b1), .val (.long (((((0 : Int64) + (px.toInt64)) + (py.toInt64)) + (pz.toInt64)) + (pw.toInt64))), .second, .val (.double (FP.ddiv (FP.l2d (((((0 : Int64) + (px.toInt64)) + (py.toInt64)) + (pz.toInt64)) + (pw.toInt64))) (FP.i2d (4 : Int32)))), .second, .val (.double (FP.ddiv (FP.l2d (((((0 : Int64) + (px.toInt64)) + (py.toInt64)) + (pz.toInt64)) + (pw.toInt64))) (FP.i2d (4 : Int32)))), .second] [])) _
    refine XS.iconst X7.here hx rfl (hb hby at_135) ?_
    show Steps p.tables e below (T7.setTop (mkF m 136 #[.val (.int pk), .val (.int px), .val (.int py), .val (.int pz), .val (.int pw), .val (.int (4 : Int32)), .val (.ref b1), .val (.long (((((0 : Int64) + (px.toInt64)) + (py.toInt64)) + (pz.toInt64)) + (pw.toInt64))), .second, .val (.double (FP.ddiv (FP.l2d (((((0 : Int64) + (px.toInt64)) + (py.toInt64)) + (pz.toInt64)) + (pw.toInt64))) (FP.i2d (4 : Int32)))), .second, .val (.double (FP.ddiv (FP.l2d (((((0 : Int64) + (px.toInt64)) + (py.toInt64)) + (pz.toInt64)) + (pw.toInt64))) (FP.i2d (4 : Int32)))), .second] [(.int (1 : Int32))])) _
    refine XS.goto X7.here hx rfl (pc0 := 136) (pc' := 140) rfl (hb hby at_136) (by decide) (by decide) ?_
    show Steps p.tables e below (T7.setTop (mkF m 140 #[.val (.int pk), .val (.int px), .val (.int py), .val (.int pz), .val (.int pw), .val (.int (4 : Int32)), .val (.ref b1), .val (.long (((((0 : Int64) + (px.toInt64)) + (py.toInt64)) + (pz.toInt64)) + (pw.toInt64))), .second, .val (.double (FP.ddiv (FP.l2d (((((0 : Int64) + (px.toInt64)) + (py.toInt64)) + (pz.toInt64)) + (pw.toInt64))) (FP.i2d (4 : Int32)))), .second, .val (.double (FP.ddiv (FP.l2d (((((0 : Int64) + (px.toInt64)) + (py.toInt64)) + (pz.toInt64)) + (pw.toInt64))) (FP.i2d (4 : Int32)))), .second] [(.int (1 : Int32))])) _
    exact retN X7 hx (t := .boolean) Bd.returns (by simp) (hb hby at_140) hr
  · show QL n0 _ T7.heap _
    rw [eq7]
    exact ⟨rfl, N7⟩
theorem rm0 (l : Launch) (Z : State) (a0 : Array Value) (hw : ∀ d ∈ tables_1, d.before a0 Z = true) (ws : List Jvm.Cond) (pk px py pz pw : Int32) (h0 : Heap) (n0 : Nat) (Z0 : n0 ≤ h0.size) :
    MetFree l x (head1 (Jvm.Cond.code x code maxLocals ret :: ws) room_1) (fun a U => a = #[(.int pk), (.int px), (.int py), (.int pz), (.int pw)] ∧ Z.Warmed39 U.vm ∧ U.heap = h0) (fun _ _ _ _ _ => True) (fun _ U o U' => ∃ v L, o = .returned v ∧ QL n0 v U'.heap L ∧ FrameEnd U o U' L 1 4) := by
  rcases own_five pk with h | h | h | h | h
  · exact rm00 l Z a0 hw ws pk px py pz pw h0 n0 Z0 h
  · exact rm01 l Z a0 hw ws pk px py pz pw h0 n0 Z0 h
  · exact rm02 l Z a0 hw ws pk px py pz pw h0 n0 Z0 h
  · exact rm03 l Z a0 hw ws pk px py pz pw h0 n0 Z0 h
  · exact rm04 l Z a0 hw ws pk px py pz pw h0 n0 Z0 h
set_option maxRecDepth 65536 in
set_option maxHeartbeats 40000000 in
theorem comes_1 {Post : Tables → Env → Array Value → State → Outcome → State → Prop} (hpost : ∀ tb e args s v u, (limb_1_1.after args s (.returned v) u = true ∧ limb_1_2.after args s (.returned v) u = true ∧ True) → FrameEnd s (.returned v) u (Jvm.fieldLocs frame_1_writes args s ++ Jvm.arrayLocs frame_1_arrays args s ++ Jvm.staticLocs frame_1_statics s) 16 128 → Post tb e args s (.returned v) u) :
    ArmFor flags0 classFile x code maxLocals ret World_1 tables_1 room_1 Calls_1 rest_1 Pre_1 Post := by
  intro l hfl _ _ p e ha hc hk s m args below hf hA hF happ hP
  obtain ⟨hcalls, hrest, hpre⟩ := hP
  obtain ⟨-, -, -, hnamed, -, -, -, hat⟩ := (Spec.applies_iff hf).mp happ
  obtain ⟨hg, hn⟩ := and_e (Cond.before_iff.mp (show (Jvm.Cond.and given_1 narrow_1).before args s = true from hpre))
  obtain ⟨hcount, r0⟩ := and_e hg
  obtain ⟨hk0, r1⟩ := and_e r0
  obtain ⟨hk1, r2⟩ := and_e r1
  obtain ⟨hk2, r3⟩ := and_e r2
  obtain ⟨hk3, r4⟩ := and_e r3
  have hk4 := r4
  obtain ⟨w0, w1, w2, w3, w4, rfl⟩ : ∃ w0 w1 w2 w3 w4 : Value, args = #[w0, w1, w2, w3, w4] := by
    have hs : args.size = 5 := by simpa [Cond.value, given_1] using hcount
    obtain ⟨L⟩ := args
    match L, hs with
    | [w0, w1, w2, w3, w4], _ => exact ⟨w0, w1, w2, w3, w4, rfl⟩
  have hw := fun d (hd : d ∈ tables_1) => atoms_spec (ws := Jvm.Cond.code x code maxLocals ret :: tables_1) hat d (List.mem_cons_of_mem _ hd)
  have hfit : Fit s := fun {y c} hc i hi => by
    obtain ⟨ha, rfl⟩ := Array.getElem?_eq_some_iff.mp hc
    have q := List.all_eq_true.mp ((Array.all_eq_true_iff_forall_mem.mp hF) _ (Array.getElem_mem ha)) i (List.mem_range.mpr hi)
    simpa [Array.getElem?_eq_getElem hi] using q
  obtain ⟨i0, ei0⟩ := is_v hk0
  obtain rfl : w0 = (.int i0) := Option.some.inj ei0
  obtain ⟨i1, ei1⟩ := is_v hk1
  obtain rfl : w1 = (.int i1) := Option.some.inj ei1
  obtain ⟨i2, ei2⟩ := is_v hk2
  obtain rfl : w2 = (.int i2) := Option.some.inj ei2
  obtain ⟨i3, ei3⟩ := is_v hk3
  obtain rfl : w3 = (.int i3) := Option.some.inj ei3
  obtain ⟨i4, ei4⟩ := is_v hk4
  obtain rfl : w4 = (.int i4) := Option.some.inj ei4
  obtain ⟨n, o, h1, h2, h3, _, L, rfl, ⟨rfl, N⟩, hq⟩ := rm0 l s _ hw tables_1 i0 i1 i2 i3 i4 s.heap s.heap.size (Nat.le_refl _)  p e ha hc hk s m _ below hf ((Spec.applies_iff_loose hf).mp happ).1 ⟨rfl, State.Warmed39.refl s, rfl⟩ trivial
  refine ⟨n, _, h1, h2, h3, hpost _ _ _ _ _ _ ⟨Cond.after_iff.mpr rfl, Cond.after_iff.mpr (eq_i res_at (Term.int_eval (1)) rfl), trivial⟩ ⟨hq.1, hq.2.1, (hq.2.2.sift fun y hy => Or.inr (N y hy)).mono (by decide) (by decide)⟩⟩
theorem main_1_1 : Claimed_1_1 := comes_1 fun _ _ _ _ _ _ h hF => ⟨h.1, hF⟩
theorem main_1_2 : Claimed_1_2 := comes_1 fun _ _ _ _ _ _ h hF => ⟨h.2.1, hF⟩
end Jvm.Pilot.@@N@@
namespace Jvm.Pilot.@@N@@
open Jvm Jvm.ClassFile Sem Op Lib Jvm.Free Jvm.Stand Jvm.Pilot.@@N@@.Jvm.D
/-! MADE BY PROGRAM (witnessworld.py) out of the Statement's table words and the real class files: 9 classes; the members and pool entries that the words name. The judged class is class 1, her method 1. -/
namespace start1
open Jvm.ClassFile
def u (s : String) : CpInfo := .utf8 (stringToUtf16 s)
/-- a pool by its gaps: so many unusable entries, then the entry; so many at the end -/
def gap : Nat → List CpInfo → List CpInfo
  | 0, r => r
  | n + 1, r => .unusable :: gap n r
def poolList (es : List (Nat × CpInfo)) (last : Nat) : List CpInfo := es.foldr (fun e r => gap e.1 (e.2 :: r)) (gap last [])
def pool (es : List (Nat × CpInfo)) (last : Nat) : Array CpInfo := ⟨poolList es last⟩
def fileOf (pool : Array CpInfo) (this : Nat) (attrs : Array Attribute := #[]) (ms : Array MethodInfo := #[]) (fl : Nat := 33) (sup : Nat := 0) (ifs : Array Nat := #[]) (fds : Array FieldInfo := #[]) : ClassFile where
  minorVersion := 0
  majorVersion := 65
  constantPool := pool
  accessFlags := fl
  thisClass := this
  superClass := sup
  interfaces := ifs
  fields := fds
  methods := ms
  attributes := attrs
def plain (name : String) (sup : Option ClassId) : Class where
  name := name
  kind := .ordinary
  loader := none
  accessFlags := 33
  super := sup
  interfaces := #[]
  cf := none
  fields := #[]
  methods := #[]
  instanceTypes := #[]
  staticTypes := #[]
  resolved := #[]
  callSites := []
  init := .initialized
  statics := none
  mirror := none

def pool0 : Array CpInfo := pool [(5, u "<init>"), (0, u "()V"), (1, .class_ 10), (1, u "java/lang/Object")] 113

def k0c0 : Code := { maxStack := 0, maxLocals := 1, code := object_method_1_code, exceptionTable := #[], attributes := #[] }
def k0m0 : Method := { name := "<init>", desc := "()V", sig := { parameters := [], returnType := none }, accessFlags := 1, code := some k0c0 }
/-- java/lang/Object -/
def k0 : Class := { plain "java/lang/Object" none with
  accessFlags := 33
  interfaces := #[]
  cf := some (fileOf pool0 8 #[] #[{ accessFlags := 1, nameIndex := 5, descriptorIndex := 6, attributes := #[] }] 33 0 #[] #[])
  fields := #[]
  methods := #[k0m0]
  instanceTypes := #[]
  staticTypes := #[]
  resolved := Array.replicate 124 none
  statics := none }

def pool1 : Array CpInfo := pool [(2, .class_ 4), (0, .nameAndType 5 6), (0, u "java/lang/Object"), (0, u "<init>"), (0, u "()V"), (0, .integer 2147483647), (0, .class_ 9), (0, u "com/example/bytegauge/bytegauge/stats/Tally"), (0, .methodref 8 3), (0, .methodref 8 12), (0, .nameAndType 13 14), (0, u "add"), (0, u "(D)V"), (0, .methodref 8 16), (0, .nameAndType 17 18), (0, u "mean"), (0, u "()D"), (0, .class_ 20), (0, u "com/example/bytegauge/bytegauge/stats/TallyMeanPinLaw"), (2, u "law"), (0, u "(IIIII)Z")] 3

def k1m0 : Method := { name := "<init>", desc := "()V", sig := { parameters := [], returnType := none }, accessFlags := 1, code := none }
def k1c1 : Code := { maxStack := 4, maxLocals := 13, code := code, exceptionTable := #[], attributes := #[] }
def k1m1 : Method := { name := "law", desc := "(IIIII)Z", sig := { parameters := [.int, .int, .int, .int, .int], returnType := some .boolean }, accessFlags := 9, code := some k1c1 }
/-- com/example/bytegauge/bytegauge/stats/TallyMeanPinLaw -/
def k1 : Class := { plain "com/example/bytegauge/bytegauge/stats/TallyMeanPinLaw" (some 0) with
  accessFlags := 49
  interfaces := #[]
  cf := some (fileOf pool1 19 #[] #[{ accessFlags := 1, nameIndex := 5, descriptorIndex := 6, attributes := #[] }, { accessFlags := 9, nameIndex := 23, descriptorIndex := 24, attributes := #[] }] 49 2 #[] #[])
  fields := #[]
  methods := #[k1m0, k1m1]
  instanceTypes := #[]
  staticTypes := #[]
  resolved := Array.replicate 28 none
  statics := none }

def pool2 : Array CpInfo := pool [(1, .methodref 2 3), (0, .class_ 4), (0, .nameAndType 5 6), (0, u "java/lang/Object"), (0, u "<init>"), (0, u "()V"), (0, .fieldref 8 9), (0, .class_ 10), (0, .nameAndType 11 12), (0, u "com/example/bytegauge/bytegauge/stats/Tally"), (0, u "count"), (0, u "I"), (2, .integer 2147483647), (7, .fieldref 8 24), (0, .nameAndType 25 26), (0, u "sum"), (0, u "D"), (0, .fieldref 8 28), (0, .nameAndType 29 26), (0, u "running"), (0, .fieldref 8 31), (0, .nameAndType 32 26), (0, u "squares"), (2, u "add"), (0, u "(D)V"), (2, u "mean"), (0, u "()D")] 2

def k2c0 : Code := { maxStack := 1, maxLocals := 1, code := prog_76_method_1_code, exceptionTable := #[], attributes := #[] }
def k2m0 : Method := { name := "<init>", desc := "()V", sig := { parameters := [], returnType := none }, accessFlags := 1, code := some k2c0 }
def k2c1 : Code := { maxStack := 9, maxLocals := 5, code := prog_76_method_2_code, exceptionTable := #[], attributes := #[] }
def k2m1 : Method := { name := "add", desc := "(D)V", sig := { parameters := [.double], returnType := none }, accessFlags := 1, code := some k2c1 }
def k2c2 : Code := { maxStack := 4, maxLocals := 1, code := prog_76_method_4_code, exceptionTable := #[], attributes := #[] }
def k2m2 : Method := { name := "mean", desc := "()D", sig := { parameters := [], returnType := some .double }, accessFlags := 1, code := some k2c2 }
/-- com/example/bytegauge/bytegauge/stats/Tally -/
def k2 : Class := { plain "com/example/bytegauge/bytegauge/stats/Tally" (some 0) with
  accessFlags := 49
  interfaces := #[]
  cf := some (fileOf pool2 8 #[] #[{ accessFlags := 1, nameIndex := 5, descriptorIndex := 6, attributes := #[] }, { accessFlags := 1, nameIndex := 35, descriptorIndex := 36, attributes := #[] }, { accessFlags := 1, nameIndex := 39, descriptorIndex := 40, attributes := #[] }] 49 2 #[] #[{ accessFlags := 2, nameIndex := 11, descriptorIndex := 12, attributes := #[] }, { accessFlags := 2, nameIndex := 25, descriptorIndex := 26, attributes := #[] }, { accessFlags := 2, nameIndex := 29, descriptorIndex := 26, attributes := #[] }, { accessFlags := 2, nameIndex := 32, descriptorIndex := 26, attributes := #[] }])
  fields := #[{ name := "count", type := .int, accessFlags := 2, slot := 0, constantValue := 0 }, { name := "sum", type := .double, accessFlags := 2, slot := 1, constantValue := 0 }, { name := "running", type := .double, accessFlags := 2, slot := 2, constantValue := 0 }, { name := "squares", type := .double, accessFlags := 2, slot := 3, constantValue := 0 }]
  methods := #[k2m0, k2m1, k2m2]
  instanceTypes := #[.int, .double, .double, .double]
  staticTypes := #[]
  resolved := Array.replicate 43 none
  statics := none }

def pool3 : Array CpInfo := pool [(1, u "java/lang/Cloneable"), (0, .class_ 1), (0, u "java/lang/Object"), (0, .class_ 3)] 3

/-- java/lang/Cloneable -/
def k3 : Class := { plain "java/lang/Cloneable" (some 0) with
  accessFlags := 1537
  interfaces := #[]
  cf := some (fileOf pool3 2 #[] #[] 1537 4 #[] #[])
  fields := #[]
  methods := #[]
  instanceTypes := #[]
  staticTypes := #[]
  resolved := Array.replicate 8 none
  statics := none }

def pool4 : Array CpInfo := pool [(1, u "java/io/Serializable"), (0, .class_ 1), (0, u "java/lang/Object"), (0, .class_ 3)] 3

/-- java/io/Serializable -/
def k4 : Class := { plain "java/io/Serializable" (some 0) with
  accessFlags := 1537
  interfaces := #[]
  cf := some (fileOf pool4 2 #[] #[] 1537 4 #[] #[])
  fields := #[]
  methods := #[]
  instanceTypes := #[]
  staticTypes := #[]
  resolved := Array.replicate 8 none
  statics := none }

/-- the primitive byte -/
def k5 : Class := { plain "byte" none with kind := .primitive 'B', accessFlags := 0x411 }
/-- [B -/
def k6 : Class := { plain "[B" (some 0) with kind := .array 5 .byte, interfaces := #[3, 4], accessFlags := 1041 }

/-- the primitive int -/
def k7 : Class := { plain "int" none with kind := .primitive 'I', accessFlags := 0x411 }
/-- [I -/
def k8 : Class := { plain "[I" (some 0) with kind := .array 7 .int, interfaces := #[3, 4], accessFlags := 1041 }

def heap : Heap := #[]
def classes : Array Class := #[k0, k1, k2, k3, k4, k5, k6, k7, k8]
def interned : List (Array UInt16 × Addr) := []
def slotsUsed : Nat := 0
def theMethod : MethodId := ⟨1, 1⟩
def args0 : Array Value := #[.int 1, .int 2, .int 3, .int 4, .int 5]
def aboutOver (below : List Frame) : State where
  vm := { classes := classes, interned := interned.toArray }
  heap := heap
  slotsUsed := slotsUsed
  threads := #[{ frames := .invoking theMethod args0 :: below }]
def below0 : List Frame := [.native { method := ⟨0, 0⟩, args := #[] }]
def about1 : State := aboutOver below0
def p0 : Program := .bare "" "" ""
def e0 : Env := launch0.env 0 0 0
theorem w_frames : about1.frames = Frame.invoking theMethod args0 :: below0 := rfl
set_option maxRecDepth 65536 in
theorem w_args : argsFit about1.vm theMethod args0 = true := by decide +kernel
set_option maxRecDepth 65536 in
theorem w_heap : heapFits about1 = true := by decide +kernel
set_option maxRecDepth 65536 in
theorem w_runnable : about1.curStatus? = some .runnable := by decide +kernel
set_option maxRecDepth 65536 in
theorem w_alone : about1.alone = true := by decide +kernel
set_option maxRecDepth 65536 in
theorem w_named : about1.methodNamed? x = some theMethod := by decide +kernel
set_option maxRecDepth 65536 in
theorem w_hears : about1.hears theMethod below0 = true := by decide +kernel
set_option maxRecDepth 65536 in
theorem w_ripe : about1.ripe theMethod args0 below0 = true := by decide +kernel
theorem w_running : about1.status = .running := rfl
set_option maxRecDepth 65536 in
theorem w_room : about1.hasRoom e0.platform room_1 = true :=
  launch0.hasRoom_least _ room_1 (by decide +kernel) (by decide +kernel) (by decide +kernel) (by decide +kernel) (by decide +kernel) (by decide +kernel)
theorem allAtoms_all (ts : List Jvm.Cond) (a : Array Jvm.Value) (st : Jvm.State) : (allAtoms ts).before a st = ts.all (fun c => c.before a st) := by
  induction ts with
  | nil => rfl
  | cons c t ih =>
    show (Jvm.Cond.and c (allAtoms t)).before a st = _
    rw [Jvm.Cond.before_and, ih, List.all_cons]
def words1 : List Jvm.Cond := Jvm.Cond.code x code maxLocals ret :: tables_1
/-- a 'code' word, met by the world's own term for the bytes: nothing is compared byte by byte -/
theorem code_word {y : MethodName} {bytes : ByteArray} {mx : Nat} {rt : Option FieldType} {a : Array Value} {s : State} {m : MethodId} {meth : Method} {c : Code} (h1 : s.methodNamed? y = some m) (h2 : s.vm.method? m = some meth) (h3 : meth.code = some c) (h4 : c.code = bytes)
    (h5 : (c.maxLocals == mx && c.exceptionTable.isEmpty && decide (c.maxStack ≤ mostOperands) && decide (meth.sig.returnType = rt) && !meth.locks && decide (parseMethodDescriptor y.desc = some meth.sig)) = true) : (Jvm.Cond.code y bytes mx rt).before a s = true := by
  simp only [Bool.and_eq_true, beq_iff_eq, Bool.not_eq_true', decide_eq_true_eq] at h5
  obtain ⟨⟨⟨⟨⟨g1, g2⟩, g3⟩, g4⟩, g5⟩, g6⟩ := h5
  simp [Cond.before, Cond.holds, Cond.value, h1, h2, h3, h4, g1, g2, g3, g4, g5, g6]
def isCode : Jvm.Cond → Bool
  | .code _ _ _ _ => true
  | _ => false
theorem all_split {L : List Jvm.Cond} {P : Jvm.Cond → Bool} (h1 : L.all (fun c => isCode c || P c) = true) (h2 : ∀ c ∈ L.filter isCode, P c = true) : L.all P = true := by
  refine List.all_eq_true.mpr fun c hc => ?_
  have h := List.all_eq_true.mp h1 c hc
  rcases Bool.eq_false_or_eq_true (isCode c) with hi | hi
  · exact h2 c (List.mem_filter.mpr ⟨hc, hi⟩)
  · simpa [hi] using h
set_option maxRecDepth 65536 in
theorem w_c0 : (Jvm.Cond.code x code maxLocals ret).before args0 about1 = true := code_word (m := ⟨1, 1⟩) (meth := k1m1) (c := k1c1) (by decide +kernel) rfl rfl rfl (by decide +kernel)
set_option maxRecDepth 65536 in
theorem w_c1 : (Jvm.Cond.code ({ cls := "com/example/bytegauge/bytegauge/stats/Tally", name := "<init>", desc := "()V" } : Jvm.MethodName) prog_76_method_1_code (1 : Nat) (Option.none : Option Jvm.ClassFile.FieldType)).before args0 about1 = true := code_word (m := ⟨2, 0⟩) (meth := k2m0) (c := k2c0) (by decide +kernel) rfl rfl rfl (by decide +kernel)
set_option maxRecDepth 65536 in
theorem w_c2 : (Jvm.Cond.code ({ cls := "java/lang/Object", name := "<init>", desc := "()V" } : Jvm.MethodName) object_method_1_code (1 : Nat) (Option.none : Option Jvm.ClassFile.FieldType)).before args0 about1 = true := code_word (m := ⟨0, 0⟩) (meth := k0m0) (c := k0c0) (by decide +kernel) rfl rfl rfl (by decide +kernel)
set_option maxRecDepth 65536 in
theorem w_c3 : (Jvm.Cond.code ({ cls := "com/example/bytegauge/bytegauge/stats/Tally", name := "mean", desc := "()D" } : Jvm.MethodName) prog_76_method_4_code (1 : Nat) (Option.some Jvm.ClassFile.FieldType.double)).before args0 about1 = true := code_word (m := ⟨2, 2⟩) (meth := k2m2) (c := k2c2) (by decide +kernel) rfl rfl rfl (by decide +kernel)
set_option maxRecDepth 65536 in
theorem w_c4 : (Jvm.Cond.code ({ cls := "com/example/bytegauge/bytegauge/stats/Tally", name := "add", desc := "(D)V" } : Jvm.MethodName) prog_76_method_2_code (5 : Nat) (Option.none : Option Jvm.ClassFile.FieldType)).before args0 about1 = true := code_word (m := ⟨2, 1⟩) (meth := k2m1) (c := k2c1) (by decide +kernel) rfl rfl rfl (by decide +kernel)
def codes1 : List Jvm.Cond := [Jvm.Cond.code x code maxLocals ret, Jvm.Cond.code ({ cls := "com/example/bytegauge/bytegauge/stats/Tally", name := "<init>", desc := "()V" } : Jvm.MethodName) prog_76_method_1_code (1 : Nat) (Option.none : Option Jvm.ClassFile.FieldType), Jvm.Cond.code ({ cls := "java/lang/Object", name := "<init>", desc := "()V" } : Jvm.MethodName) object_method_1_code (1 : Nat) (Option.none : Option Jvm.ClassFile.FieldType), Jvm.Cond.code ({ cls := "com/example/bytegauge/bytegauge/stats/Tally", name := "mean", desc := "()D" } : Jvm.MethodName) prog_76_method_4_code (1 : Nat) (Option.some Jvm.ClassFile.FieldType.double), Jvm.Cond.code ({ cls := "com/example/bytegauge/bytegauge/stats/Tally", name := "add", desc := "(D)V" } : Jvm.MethodName) prog_76_method_2_code (5 : Nat) (Option.none : Option Jvm.ClassFile.FieldType)]
set_option maxRecDepth 65536 in
theorem codes_eq : words1.filter isCode = codes1 := rfl
theorem w_codes : ∀ c ∈ words1.filter isCode, c.before args0 about1 = true := by
  rw [codes_eq]
  intro c hc
  simp only [codes1, List.mem_cons, List.not_mem_nil, or_false] at hc
  rcases hc with rfl | rfl | rfl | rfl | rfl
  · exact w_c0
  · exact w_c1
  · exact w_c2
  · exact w_c3
  · exact w_c4
set_option maxRecDepth 65536 in
theorem w_t1 : (words1.take 24).all (fun c => isCode c || c.before args0 about1) = true := by decide +kernel
set_option maxRecDepth 65536 in
theorem w_t2 : (words1.drop 24).all (fun c => isCode c || c.before args0 about1) = true := by decide +kernel
theorem w_tables : (allAtoms (Jvm.Cond.code x code maxLocals ret :: tables_1)).before args0 about1 = true := by
  rw [allAtoms_all]
  show words1.all (fun c => c.before args0 about1) = true
  refine all_split ?_ w_codes
  rw [← List.take_append_drop 24 words1, List.all_append, w_t1, w_t2]
  rfl
set_option maxRecDepth 65536 in
theorem w_case : (Jvm.Cond.and given_1 narrow_1).before args0 about1 = true := by decide +kernel
theorem w_applies : (headSpec (Jvm.Cond.code x code maxLocals ret :: tables_1) room_1).applies x e0.platform about1 = true :=
  (Spec.applies_iff w_frames).mpr ⟨w_running, w_runnable, w_alone, w_named, w_hears, w_ripe, w_room, w_tables⟩
theorem atStart : AtStart classFile x code maxLocals ret World_1 tables_1 room_1 Calls_1 rest_1 Pre_1 launch0 p0 e0 about1 theMethod args0 below0 :=
  ⟨lists_1, trivial, launch0.admits_env _ _ _, launch0.least_env, fairChoices_fair.cas, fairChoices_fair.clock, w_frames, w_args, w_heap, w_applies, trivial, trivial, w_case⟩
end start1
theorem witness_1 : WitnessClaimed_1 := ⟨start1.p0, start1.e0, start1.about1, start1.theMethod, start1.args0, start1.below0, start1.atStart⟩
end Jvm.Pilot.@@N@@
