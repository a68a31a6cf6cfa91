import JvmDerived
import JvmDerived.Pilot.@@N@@Statement
import JvmDerived.Pilot.@@N@@Code
set_option linter.unusedVariables false
set_option linter.unusedSimpArgs false
@@BLOCK:NumsL.lean.txt@@
namespace Jvm.Pilot.@@N@@
open Jvm Jvm.ClassFile Sem Op Lib Jvm.Free Jvm.Stand Jvm.LawKit Jvm.RoadKit Bundle Jvm.Pilot.@@N@@.Jvm.D

open Jvm.FP Jvm.Free.Fl in
theorem own_k (k : Int32) : 1 ≤ ((k &&& 1023) + 1).toInt ∧ ((k &&& 1023) + 1).toInt ≤ 1024 := by
  have h1 := Jvm.Kit.i32_mask k 1023 (k := 10) (by decide) (by decide)
  have h2 : 0 ≤ k.toInt % 2 ^ 10 := Int.emod_nonneg _ (by decide)
  have h3 : k.toInt % 2 ^ 10 < 2 ^ 10 := Int.emod_lt_of_pos _ (by decide)
  have h4 : ((k &&& 1023) + 1).toInt = (k &&& 1023).toInt + 1 := Jvm.Kit.i32_add (by rw [h1]; show -2 ^ 31 ≤ _ + (1 : Int); omega) (by rw [h1]; show _ + (1 : Int) < 2 ^ 31; omega)
  rw [h4, h1]; omega
open Jvm.FP Jvm.Free.Fl in
theorem own_B {x : Int32} (h1 : 1 ≤ x.toInt) (h2 : x.toInt ≤ 1024) : B53 x.toInt64 := by
  have e := Jvm.Kit.i64_of_i32 x
  unfold B53; rw [e]; omega
theorem own_B0 : B53 (0 : Int64) := by unfold B53; decide
open Jvm.FP Jvm.Free.Fl in
theorem own_cmp0 {x : Int32} (h1 : 1 ≤ x.toInt) (h2 : x.toInt ≤ 1024) : cmpValue (FP.dcmp (FP.i2d x) 0) .l = 1 := by
  have e := Jvm.Kit.i64_of_i32 x
  rw [i2d_w, ← l2d_zero, dcmpV_w (own_B h1 h2) own_B0]
  have : (0 : Int64) < x.toInt64 := by rw [Int64.lt_iff_toInt_lt, e]; show (0 : Int) < _; omega
  simp only [lcmpW]; exact if_pos this
open Jvm.FP Jvm.Free.Fl in
theorem own_add0 {x : Int32} (h1 : 1 ≤ x.toInt) (h2 : x.toInt ≤ 1024) : FP.dadd (FP.i2d x) 0 = FP.i2d x := by
  rw [i2d_w, ← l2d_zero, dadd_w (own_B h1 h2) own_B0, Int64.add_zero]
theorem own_z : cmpValue (FP.dcmp 0 0) .l = 0 := by decide +kernel
theorem own_za : FP.dadd 0 0 = 0 := by decide +kernel
theorem own_zn : Jvm.Free.Fl.NoNaN64 0 := by unfold Jvm.Free.Fl.NoNaN64; decide +kernel

def QR (h0 : Heap) (n0 : Nat) (v : Option Value) (h : Heap) (L : List Loc) : Prop := (v = none ∧ Fr n0 L ∧ h = h0)
theorem d_jdk_30_method_1_code_0 : decode jdk_30_method_1_code 0 = .ok (.aload_n 0, 1) := by decide +kernel
theorem d_jdk_30_method_1_code_1 : decode jdk_30_method_1_code 1 = .ok (.invokespecial 1, 3) := by decide +kernel
theorem d_jdk_30_method_1_code_4 : decode jdk_30_method_1_code 4 = .ok (.return_, 1) := by decide +kernel
theorem pn_java_lang_Record : plainName "java/lang/Record" = true := by first | (simp [plainName, overriddenIn]; done) | decide +kernel
theorem ef_jdk_30_method_1_code (m : MethodId) (x0 : Addr) : entryFrame m #[(.ref x0)] 1 = mkF m 0 #[.val (.ref x0)] [] := by first | (simp [entryFrame, mkF, argsToLocals, Value.category]; done) | rfl
set_option maxRecDepth 65536 in
set_option maxHeartbeats 40000000 in
theorem rmR (l : Launch) (Z : State) (a0 : Array Value) (hw : ∀ d ∈ tables_1, d.before a0 Z = true) (ws : List Jvm.Cond) (a1 : Addr) (h0 : Heap) (n0 : Nat) (Z0 : n0 ≤ h0.size)   :
    MetFree l (⟨"java/lang/Record", "<init>", "()V"⟩ : MethodName) (head1 (Jvm.Cond.code (⟨"java/lang/Record", "<init>", "()V"⟩ : MethodName) jdk_30_method_1_code 1 none :: ws) ({ frames := 1, cells := 0, slots := 0, locals := 12 } : Room)) (fun a U => a = #[(.ref a1)] ∧ Z.Warmed39 U.vm ∧ U.heap = h0) (fun _ _ _ _ _ => True) (fun _ U o U' => ∃ v L, o = .returned v ∧ QR h0 n0 v U'.heap L ∧ FrameEnd U o U' L ({ frames := 1, cells := 0, slots := 0, locals := 12 } : Room).cells ({ frames := 1, cells := 0, slots := 0, locals := 12 } : Room).slots) := by
  refine MetFree.of_bodySF (plainFor_of_name pn_java_lang_Record) hisR ?_
  intro p e s m args below meth c s₁ Bd hml0 hP hK
  obtain ⟨rfl, hZ, hh⟩ := hP
  have hx := Bd.exec
  have hby := Bd.bytes
  have hml : c.maxLocals = 1 := hml0
  have hown : s.vm.findClass "java/lang/Record" = some m.cls := findClass_of_methodNamed Bd.named
  have hnm := (name_of_methodNamed Bd.named Bd.method).1
  have X0 : Stand p l e ({ frames := 1, cells := 0, slots := 0, locals := 12 } : Room) s m #[(.ref a1)] below meth c s₁ [] 0 0 := Stand.of_body Bd
  have e0 : s₁.heap = h0 := by rw [← hh, Bd.state]; rfl
  have N0 := Fr.nil n0
  have pre0 : ∀ t, Steps p.tables e below (s₁.setTop (mkF m 0 #[.val (.ref a1)] [])) t → Steps p.tables e below (s₁.setTop (entryFrame m #[(.ref a1)] 1)) t := fun t k => castTop (ef_jdk_30_method_1_code m a1) k
  obtain ⟨T1, X1, e1, st1⟩ := initO X0 hx hZ hown (hw _ (List.mem_of_getElem? (i := 11) rfl)) (hw _ (List.mem_of_getElem? (i := 12) rfl)) (hw _ (List.mem_of_getElem? (i := 13) rfl)) e0 (g := (mkF m 1 #[.val (.ref a1)] [(.ref a1)])) rfl (by rw [hml]; rfl) rfl (hb hby d_jdk_30_method_1_code_1) (by decide) (W := 0) (by show 2 * 0 + _ ≤ _; exact Nat.le_of_eq rfl) (by decide)
  obtain ⟨fs, hr, hrun, hended, hW, hsame⟩ := X1.leave (v := none) (fun _ => rfl)
  refine ⟨_, _, pre0 _ ?_, hrun, hended, _, _, rfl, ?_, ⟨_, rfl⟩, hW, hsame.mono (by decide) (by decide)⟩
  · show Steps p.tables e below (s₁.setTop (mkF m 0 #[.val (.ref a1)] [])) _
    refine XS.aloadN X0.here hx rfl (hb hby d_jdk_30_method_1_code_0) rfl rfl ?_
    show Steps p.tables e below (s₁.setTop (mkF m 1 #[.val (.ref a1)] [(.ref a1)])) _
    refine st1 _ ?_
    show Steps p.tables e below (T1.setTop (mkF m 4 #[.val (.ref a1)] [])) _
    exact X1.returnOut hx Bd.returns (hb hby d_jdk_30_method_1_code_4) hr
  · show QR h0 n0 _ T1.heap _
    rw [e1]
    exact ⟨rfl, N0, rfl⟩
def QI (Z : State) (a1 : Addr) (p1 p2 : Int32) (d' : UInt64) (h0 : Heap) (n0 : Nat) (v : Option Value) (h : Heap) (L : List Loc) : Prop := v = none ∧ Fr n0 L ∧ Keep h0 h [a1] ∧ Exa Z h a1 "com/example/itinerant/itinerant/spaces/Point" ∧ Fld Z h a1 "com/example/itinerant/itinerant/spaces/Point" "from" "I" (.int p1) ∧ Fld Z h a1 "com/example/itinerant/itinerant/spaces/Point" "to" "I" (.int p2) ∧ Fld Z h a1 "com/example/itinerant/itinerant/spaces/Point" "offset" "D" (.double d')
theorem d_prog_77_method_1_code_0 : decode prog_77_method_1_code 0 = .ok (.aload_n 0, 1) := by decide +kernel
theorem d_prog_77_method_1_code_1 : decode prog_77_method_1_code 1 = .ok (.invokespecial 1, 3) := by decide +kernel
theorem d_prog_77_method_1_code_4 : decode prog_77_method_1_code 4 = .ok (.iload_n 1, 1) := by decide +kernel
theorem d_prog_77_method_1_code_5 : decode prog_77_method_1_code 5 = .ok (.iload_n 2, 1) := by decide +kernel
theorem d_prog_77_method_1_code_6 : decode prog_77_method_1_code 6 = .ok (.if_icmp .ne 12, 3) := by decide +kernel
theorem d_prog_77_method_1_code_9 : decode prog_77_method_1_code 9 = .ok (.dload_n 3, 1) := by decide +kernel
theorem d_prog_77_method_1_code_10 : decode prog_77_method_1_code 10 = .ok (.dconst 0, 1) := by decide +kernel
theorem d_prog_77_method_1_code_11 : decode prog_77_method_1_code 11 = .ok (.dcmp .l, 1) := by decide +kernel
theorem d_prog_77_method_1_code_12 : decode prog_77_method_1_code 12 = .ok (.ifCond .eq 36, 3) := by decide +kernel
theorem d_prog_77_method_1_code_48 : decode prog_77_method_1_code 48 = .ok (.dload_n 3, 1) := by decide +kernel
theorem d_prog_77_method_1_code_49 : decode prog_77_method_1_code 49 = .ok (.dconst 0, 1) := by decide +kernel
theorem d_prog_77_method_1_code_50 : decode prog_77_method_1_code 50 = .ok (.dadd, 1) := by decide +kernel
theorem d_prog_77_method_1_code_51 : decode prog_77_method_1_code 51 = .ok (.dstore_n 3, 1) := by decide +kernel
theorem d_prog_77_method_1_code_52 : decode prog_77_method_1_code 52 = .ok (.aload_n 0, 1) := by decide +kernel
theorem d_prog_77_method_1_code_53 : decode prog_77_method_1_code 53 = .ok (.iload_n 1, 1) := by decide +kernel
theorem d_prog_77_method_1_code_54 : decode prog_77_method_1_code 54 = .ok (.putfield 20, 3) := by decide +kernel
theorem d_prog_77_method_1_code_57 : decode prog_77_method_1_code 57 = .ok (.aload_n 0, 1) := by decide +kernel
theorem d_prog_77_method_1_code_58 : decode prog_77_method_1_code 58 = .ok (.iload_n 2, 1) := by decide +kernel
theorem d_prog_77_method_1_code_59 : decode prog_77_method_1_code 59 = .ok (.putfield 26, 3) := by decide +kernel
theorem d_prog_77_method_1_code_62 : decode prog_77_method_1_code 62 = .ok (.aload_n 0, 1) := by decide +kernel
theorem d_prog_77_method_1_code_63 : decode prog_77_method_1_code 63 = .ok (.dload_n 3, 1) := by decide +kernel
theorem d_prog_77_method_1_code_64 : decode prog_77_method_1_code 64 = .ok (.putfield 29, 3) := by decide +kernel
theorem d_prog_77_method_1_code_67 : decode prog_77_method_1_code 67 = .ok (.return_, 1) := by decide +kernel
theorem pd___V : parseMethodDescriptor "()V" = some ⟨[], none⟩ := by decide +kernel
theorem pn_com_example_itinerant_itinerant_spaces_Point : plainName "com/example/itinerant/itinerant/spaces/Point" = true := by first | (simp [plainName, overriddenIn]; done) | decide +kernel
theorem ef_prog_77_method_1_code (m : MethodId) (x0 : Addr) (x1 : Int32) (x2 : Int32) (x3 : UInt64) : entryFrame m #[(.ref x0), (.int x1), (.int x2), (.double x3)] 5 = mkF m 0 #[.val (.ref x0), .val (.int x1), .val (.int x2), .val (.double x3), .second] [] := by first | (simp [entryFrame, mkF, argsToLocals, Value.category]; done) | rfl
set_option maxRecDepth 65536 in
set_option maxHeartbeats 40000000 in
theorem rmIa (l : Launch) (Z : State) (a0 : Array Value) (hw : ∀ d ∈ tables_1, d.before a0 Z = true) (ws : List Jvm.Cond) (a1 : Addr) (p1 p2 : Int32) (d d' : UInt64) (h0 : Heap) (n0 : Nat) (Z0 : n0 ≤ h0.size) (E_a1 : Exa Z h0 a1 "com/example/itinerant/itinerant/spaces/Point") (F_from : Fld Z h0 a1 "com/example/itinerant/itinerant/spaces/Point" "from" "I" (.int (0 : Int32))) (F_to : Fld Z h0 a1 "com/example/itinerant/itinerant/spaces/Point" "to" "I" (.int (0 : Int32))) (F_offset : Fld Z h0 a1 "com/example/itinerant/itinerant/spaces/Point" "offset" "D" (.double (0 : UInt64))) (g_a1 : n0 ≤ a1) (hn50 : Jvm.Free.Fl.NoNaN64 (FP.dadd d 0)) (hv50 : FP.dadd d 0 = d') (hv11 : cmpValue (FP.dcmp d 0) .l = (0 : Int32)) (hc6 : p1 = p2) :
    MetFree l (⟨"com/example/itinerant/itinerant/spaces/Point", "<init>", "(IID)V"⟩ : MethodName) (head1 (Jvm.Cond.code (⟨"com/example/itinerant/itinerant/spaces/Point", "<init>", "(IID)V"⟩ : MethodName) prog_77_method_1_code 5 none :: ws) ({ frames := 2, cells := 0, slots := 0, locals := 24 } : Room)) (fun a U => a = #[(.ref a1), (.int p1), (.int p2), (.double d)] ∧ Z.Warmed39 U.vm ∧ U.heap = h0) (fun _ _ _ _ _ => True) (fun _ U o U' => ∃ v L, o = .returned v ∧ QI Z a1 p1 p2 d' h0 n0 v U'.heap L ∧ FrameEnd U o U' L ({ frames := 2, cells := 0, slots := 0, locals := 24 } : Room).cells ({ frames := 2, cells := 0, slots := 0, locals := 24 } : Room).slots) := by
  refine MetFree.of_bodySF (plainFor_of_name pn_com_example_itinerant_itinerant_spaces_Point) hisR ?_
  intro p e s m args below meth c s₁ Bd hml0 hP hK
  obtain ⟨rfl, hZ, hh⟩ := hP
  have hx := Bd.exec
  have hby := Bd.bytes
  have hml : c.maxLocals = 5 := hml0
  have hown : s.vm.findClass "com/example/itinerant/itinerant/spaces/Point" = some m.cls := findClass_of_methodNamed Bd.named
  have hnm := (name_of_methodNamed Bd.named Bd.method).1
  have X0 : Stand p l e ({ frames := 2, cells := 0, slots := 0, locals := 24 } : Room) s m #[(.ref a1), (.int p1), (.int p2), (.double d)] below meth c s₁ [] 0 0 := Stand.of_body Bd
  have e0 : s₁.heap = h0 := by rw [← hh, Bd.state]; rfl
  have N0 := Fr.nil n0
  have pre0 : ∀ t, Steps p.tables e below (s₁.setTop (mkF m 0 #[.val (.ref a1), .val (.int p1), .val (.int p2), .val (.double d), .second] [])) t → Steps p.tables e below (s₁.setTop (entryFrame m #[(.ref a1), (.int p1), (.int p2), (.double d)] 5)) t := fun t k => castTop (ef_prog_77_method_1_code m a1 p1 p2 d) k
  have K0 := Keep.refl h0 [a1]
  obtain ⟨_, _, ⟨T1, L1, k1, n1⟩, -, X1, ⟨Lc1, hQ1, l1, y1, z1⟩, st1⟩ := X0.specialBack hx (y := (⟨"java/lang/Record", "<init>", "()V"⟩ : MethodName)) rfl hown (mvT hZ (hw _ (List.mem_of_getElem? (i := 6) rfl))) (mvT hZ (hw _ (List.mem_of_getElem? (i := 7) rfl))) (mvT hZ (hw _ (List.mem_of_getElem? (i := 10) rfl))) (by decide) (backOf (W := 0) (rmR l Z a0 hw [] a1 h0 n0 Z0) hZ (hw _ (List.mem_of_getElem? (i := 10) rfl)) (hw _ (List.mem_of_getElem? (i := 9) rfl)) (by decide) (by decide)) (g := (mkF m 1 #[.val (.ref a1), .val (.int p1), .val (.int p2), .val (.double d), .second] [(.ref a1)])) rfl (by rw [hml]; rfl) (Steps.refl _) (a := a1) (argsL := []) (rest := []) (lenOf pd___V rfl) rfl (by show 2 * 0 + _ ≤ _; exact Nat.le_of_eq rfl) (hb hby d_prog_77_method_1_code_1) (fun _ _ => ⟨rfl, e0, (by decide : 0 + 0 ≤ _), (by decide : 0 + 0 ≤ _)⟩)
  dsimp only [Pt.U, Pt.locs, Pt.cells, Pt.slots] at X1 l1 y1 z1 st1 hQ1
  subst l1 y1 z1
  obtain ⟨rfl, N1q, eq1⟩ := hQ1
  have N1 := Fr.app N0 N1q
  obtain ⟨T2, h2, X2, e2, W2, st2⟩ := putF X1 hx hZ hown (host := "") (Or.inl (hw _ (List.mem_of_getElem? (i := 14) rfl))) Via.refl eq1 F_from E_a1 (Or.inr ⟨(hw _ (List.mem_of_getElem? (i := 15) rfl)), rfl, hnm⟩) (hw _ (List.mem_of_getElem? (i := 1) rfl)) (ty := .int) (by decide) rfl rfl (g := (mkF m 54 #[.val (.ref a1), .val (.int p1), .val (.int p2), .val (.double d'), .second] [(.int p1), (.ref a1)])) rfl rfl (hb hby d_prog_77_method_1_code_54)
  have c2_0 := E_a1.wr W2
  have c2_1 := F_from.same W2
  have c2_2 := F_to.other W2 (Or.inr (slot_ne (Or.inr (hw _ (List.mem_of_getElem? (i := 17) rfl))) (Or.inr (hw _ (List.mem_of_getElem? (i := 15) rfl))) (by decide) (t := .int) (t' := .int) (by decide) (by decide)))
  have c2_3 := F_offset.other W2 (Or.inr (slot_ne (Or.inr (hw _ (List.mem_of_getElem? (i := 19) rfl))) (Or.inr (hw _ (List.mem_of_getElem? (i := 15) rfl))) (by decide) (t := .double) (t' := .int) (by decide) (by decide)))
  have SZ2 := Nat.le_trans Z0 (Keep.of_wr W2).1
  have K2 := K0.wr W2 (Or.inl (List.mem_of_getElem? (i := 0) rfl))
  have N2 := Fr.snoc X2 N1 g_a1
  obtain ⟨T3, h3, X3, e3, W3, st3⟩ := putF X2 hx hZ hown (host := "") (Or.inl (hw _ (List.mem_of_getElem? (i := 16) rfl))) Via.refl e2 c2_2 c2_0 (Or.inr ⟨(hw _ (List.mem_of_getElem? (i := 17) rfl)), rfl, hnm⟩) (hw _ (List.mem_of_getElem? (i := 1) rfl)) (ty := .int) (by decide) rfl rfl (g := (mkF m 59 #[.val (.ref a1), .val (.int p1), .val (.int p2), .val (.double d'), .second] [(.int p2), (.ref a1)])) rfl rfl (hb hby d_prog_77_method_1_code_59)
  have c3_0 := c2_0.wr W3
  have c3_1 := c2_1.other W3 (Or.inr (slot_ne (Or.inr (hw _ (List.mem_of_getElem? (i := 15) rfl))) (Or.inr (hw _ (List.mem_of_getElem? (i := 17) rfl))) (by decide) (t := .int) (t' := .int) (by decide) (by decide)))
  have c3_2 := c2_2.same W3
  have c3_3 := c2_3.other W3 (Or.inr (slot_ne (Or.inr (hw _ (List.mem_of_getElem? (i := 19) rfl))) (Or.inr (hw _ (List.mem_of_getElem? (i := 17) rfl))) (by decide) (t := .double) (t' := .int) (by decide) (by decide)))
  have SZ3 := Nat.le_trans SZ2 (Keep.of_wr W3).1
  have K3 := K2.wr W3 (Or.inl (List.mem_of_getElem? (i := 0) rfl))
  have N3 := Fr.snoc X3 N2 g_a1
  obtain ⟨T4, h4, X4, e4, W4, st4⟩ := putF X3 hx hZ hown (host := "") (Or.inl (hw _ (List.mem_of_getElem? (i := 18) rfl))) Via.refl e3 c3_3 c3_0 (Or.inr ⟨(hw _ (List.mem_of_getElem? (i := 19) rfl)), rfl, hnm⟩) (hw _ (List.mem_of_getElem? (i := 1) rfl)) (ty := .double) (by decide) rfl rfl (g := (mkF m 64 #[.val (.ref a1), .val (.int p1), .val (.int p2), .val (.double d'), .second] [(.double d'), (.ref a1)])) rfl rfl (hb hby d_prog_77_method_1_code_64)
  have c4_0 := c3_0.wr W4
  have c4_1 := c3_1.other W4 (Or.inr (slot_ne (Or.inr (hw _ (List.mem_of_getElem? (i := 15) rfl))) (Or.inr (hw _ (List.mem_of_getElem? (i := 19) rfl))) (by decide) (t := .int) (t' := .double) (by decide) (by decide)))
  have c4_2 := c3_2.other W4 (Or.inr (slot_ne (Or.inr (hw _ (List.mem_of_getElem? (i := 17) rfl))) (Or.inr (hw _ (List.mem_of_getElem? (i := 19) rfl))) (by decide) (t := .int) (t' := .double) (by decide) (by decide)))
  have c4_3 := c3_3.same W4
  have SZ4 := Nat.le_trans SZ3 (Keep.of_wr W4).1
  have K4 := K3.wr W4 (Or.inl (List.mem_of_getElem? (i := 0) rfl))
  have N4 := Fr.snoc X4 N3 g_a1
  obtain ⟨fs, hr, hrun, hended, hW, hsame⟩ := X4.leave (v := none) (fun _ => rfl)
  refine ⟨_, _, pre0 _ ?_, hrun, hended, _, _, rfl, ?_, ⟨_, rfl⟩, hW, hsame.mono (by decide) (by decide)⟩
  · show Steps p.tables e below (s₁.setTop (mkF m 0 #[.val (.ref a1), .val (.int p1), .val (.int p2), .val (.double d), .second] [])) _
    refine XS.aloadN X0.here hx rfl (hb hby d_prog_77_method_1_code_0) rfl rfl ?_
    show Steps p.tables e below (s₁.setTop (mkF m 1 #[.val (.ref a1), .val (.int p1), .val (.int p2), .val (.double d), .second] [(.ref a1)])) _
    refine st1.trans ?_
    show Steps p.tables e below (T1.setTop (mkF m 4 #[.val (.ref a1), .val (.int p1), .val (.int p2), .val (.double d), .second] [])) _
    refine XS.iloadN X1.here hx rfl (hb hby d_prog_77_method_1_code_4) rfl ?_
    show Steps p.tables e below (T1.setTop (mkF m 5 #[.val (.ref a1), .val (.int p1), .val (.int p2), .val (.double d), .second] [(.int p1)])) _
    refine XS.iloadN X1.here hx rfl (hb hby d_prog_77_method_1_code_5) rfl ?_
    show Steps p.tables e below (T1.setTop (mkF m 6 #[.val (.ref a1), .val (.int p1), .val (.int p2), .val (.double d), .second] [(.int p2), (.int p1)])) _
    refine XS.icmpNo X1.here hx rfl (hb hby d_prog_77_method_1_code_6) rfl (teq (hc6 : p1 = p2)).2 ?_
    show Steps p.tables e below (T1.setTop (mkF m 9 #[.val (.ref a1), .val (.int p1), .val (.int p2), .val (.double d), .second] [])) _
    refine XS.dloadN X1.here hx rfl (hb hby d_prog_77_method_1_code_9) rfl ?_
    show Steps p.tables e below (T1.setTop (mkF m 10 #[.val (.ref a1), .val (.int p1), .val (.int p2), .val (.double d), .second] [(.double d)])) _
    refine XS.dconst0 X1.here hx rfl (hb hby d_prog_77_method_1_code_10) (v := (0 : UInt64)) rfl ?_
    show Steps p.tables e below (T1.setTop (mkF m 11 #[.val (.ref a1), .val (.int p1), .val (.int p2), .val (.double d), .second] [(.double (0 : UInt64)), (.double d)])) _
    refine XS.dcmpS X1.here hx rfl (hb hby d_prog_77_method_1_code_11) rfl (v := (0 : Int32)) (hv11) ?_
    show Steps p.tables e below (T1.setTop (mkF m 12 #[.val (.ref a1), .val (.int p1), .val (.int p2), .val (.double d), .second] [(.int (0 : Int32))])) _
    refine XS.ifYes X1.here hx rfl (pc0 := 12) (pc' := 48) rfl (hb hby d_prog_77_method_1_code_12) rfl ((if0 _ _).trans (teq (by decide : (0 : Int32) = (0 : Int32))).1) (by decide) (by decide) ?_
    show Steps p.tables e below (T1.setTop (mkF m 48 #[.val (.ref a1), .val (.int p1), .val (.int p2), .val (.double d), .second] [])) _
    refine XS.dloadN X1.here hx rfl (hb hby d_prog_77_method_1_code_48) rfl ?_
    show Steps p.tables e below (T1.setTop (mkF m 49 #[.val (.ref a1), .val (.int p1), .val (.int p2), .val (.double d), .second] [(.double d)])) _
    refine XS.dconst0 X1.here hx rfl (hb hby d_prog_77_method_1_code_49) (v := (0 : UInt64)) rfl ?_
    show Steps p.tables e below (T1.setTop (mkF m 50 #[.val (.ref a1), .val (.int p1), .val (.int p2), .val (.double d), .second] [(.double (0 : UInt64)), (.double d)])) _
    refine XS.daddS X1.here hx rfl (hb hby d_prog_77_method_1_code_50) rfl hn50 (v := d') (hv50) ?_
    show Steps p.tables e below (T1.setTop (mkF m 51 #[.val (.ref a1), .val (.int p1), .val (.int p2), .val (.double d), .second] [(.double d')])) _
    refine XS.dstoreN X1.here hx rfl (hb hby d_prog_77_method_1_code_51) rfl (l' := #[.val (.ref a1), .val (.int p1), .val (.int p2), .val (.double d'), .second]) rfl ?_
    show Steps p.tables e below (T1.setTop (mkF m 52 #[.val (.ref a1), .val (.int p1), .val (.int p2), .val (.double d'), .second] [])) _
    refine XS.aloadN X1.here hx rfl (hb hby d_prog_77_method_1_code_52) rfl rfl ?_
    show Steps p.tables e below (T1.setTop (mkF m 53 #[.val (.ref a1), .val (.int p1), .val (.int p2), .val (.double d'), .second] [(.ref a1)])) _
    refine XS.iloadN X1.here hx rfl (hb hby d_prog_77_method_1_code_53) rfl ?_
    show Steps p.tables e below (T1.setTop (mkF m 54 #[.val (.ref a1), .val (.int p1), .val (.int p2), .val (.double d'), .second] [(.int p1), (.ref a1)])) _
    refine st2 _ ?_
    show Steps p.tables e below (T2.setTop (mkF m 57 #[.val (.ref a1), .val (.int p1), .val (.int p2), .val (.double d'), .second] [])) _
    refine XS.aloadN X2.here hx rfl (hb hby d_prog_77_method_1_code_57) rfl rfl ?_
    show Steps p.tables e below (T2.setTop (mkF m 58 #[.val (.ref a1), .val (.int p1), .val (.int p2), .val (.double d'), .second] [(.ref a1)])) _
    refine XS.iloadN X2.here hx rfl (hb hby d_prog_77_method_1_code_58) rfl ?_
    show Steps p.tables e below (T2.setTop (mkF m 59 #[.val (.ref a1), .val (.int p1), .val (.int p2), .val (.double d'), .second] [(.int p2), (.ref a1)])) _
    refine st3 _ ?_
    show Steps p.tables e below (T3.setTop (mkF m 62 #[.val (.ref a1), .val (.int p1), .val (.int p2), .val (.double d'), .second] [])) _
    refine XS.aloadN X3.here hx rfl (hb hby d_prog_77_method_1_code_62) rfl rfl ?_
    show Steps p.tables e below (T3.setTop (mkF m 63 #[.val (.ref a1), .val (.int p1), .val (.int p2), .val (.double d'), .second] [(.ref a1)])) _
    refine XS.dloadN X3.here hx rfl (hb hby d_prog_77_method_1_code_63) rfl ?_
    show Steps p.tables e below (T3.setTop (mkF m 64 #[.val (.ref a1), .val (.int p1), .val (.int p2), .val (.double d'), .second] [(.double d'), (.ref a1)])) _
    refine st4 _ ?_
    show Steps p.tables e below (T4.setTop (mkF m 67 #[.val (.ref a1), .val (.int p1), .val (.int p2), .val (.double d'), .second] [])) _
    exact X4.returnOut hx Bd.returns (hb hby d_prog_77_method_1_code_67) hr
  · show QI Z a1 p1 p2 d' h0 n0 _ T4.heap _
    rw [e4]
    exact ⟨rfl, N4, K4, c4_0, c4_1, c4_2, c4_3⟩
theorem d_prog_77_method_1_code_18 : decode prog_77_method_1_code 18 = .ok (.dload_n 3, 1) := by decide +kernel
theorem d_prog_77_method_1_code_19 : decode prog_77_method_1_code 19 = .ok (.dconst 0, 1) := by decide +kernel
theorem d_prog_77_method_1_code_20 : decode prog_77_method_1_code 20 = .ok (.dcmp .l, 1) := by decide +kernel
theorem d_prog_77_method_1_code_21 : decode prog_77_method_1_code 21 = .ok (.ifCond .le 11, 3) := by decide +kernel
theorem d_prog_77_method_1_code_24 : decode prog_77_method_1_code 24 = .ok (.dload_n 3, 1) := by decide +kernel
theorem d_prog_77_method_1_code_25 : decode prog_77_method_1_code 25 = .ok (.ldc2_w 9, 3) := by decide +kernel
theorem d_prog_77_method_1_code_28 : decode prog_77_method_1_code 28 = .ok (.dcmp .g, 1) := by decide +kernel
theorem d_prog_77_method_1_code_29 : decode prog_77_method_1_code 29 = .ok (.ifCond .lt 19, 3) := by decide +kernel
set_option maxRecDepth 65536 in
set_option maxHeartbeats 40000000 in
theorem rmIb (l : Launch) (Z : State) (a0 : Array Value) (hw : ∀ d ∈ tables_1, d.before a0 Z = true) (ws : List Jvm.Cond) (a1 : Addr) (p1 p2 : Int32) (d d' : UInt64) (h0 : Heap) (n0 : Nat) (Z0 : n0 ≤ h0.size) (E_a1 : Exa Z h0 a1 "com/example/itinerant/itinerant/spaces/Point") (F_from : Fld Z h0 a1 "com/example/itinerant/itinerant/spaces/Point" "from" "I" (.int (0 : Int32))) (F_to : Fld Z h0 a1 "com/example/itinerant/itinerant/spaces/Point" "to" "I" (.int (0 : Int32))) (F_offset : Fld Z h0 a1 "com/example/itinerant/itinerant/spaces/Point" "offset" "D" (.double (0 : UInt64))) (g_a1 : n0 ≤ a1) (hn50 : Jvm.Free.Fl.NoNaN64 (FP.dadd d 0)) (hv50 : FP.dadd d 0 = d') (hv20 : cmpValue (FP.dcmp d 0) .l = (1 : Int32)) (hv28 : cmpValue (FP.dcmp d 9218868437227405312) .g = (-1 : Int32)) (hc6 : ¬ (p1 = p2)) :
    MetFree l (⟨"com/example/itinerant/itinerant/spaces/Point", "<init>", "(IID)V"⟩ : MethodName) (head1 (Jvm.Cond.code (⟨"com/example/itinerant/itinerant/spaces/Point", "<init>", "(IID)V"⟩ : MethodName) prog_77_method_1_code 5 none :: ws) ({ frames := 2, cells := 0, slots := 0, locals := 24 } : Room)) (fun a U => a = #[(.ref a1), (.int p1), (.int p2), (.double d)] ∧ Z.Warmed39 U.vm ∧ U.heap = h0) (fun _ _ _ _ _ => True) (fun _ U o U' => ∃ v L, o = .returned v ∧ QI Z a1 p1 p2 d' h0 n0 v U'.heap L ∧ FrameEnd U o U' L ({ frames := 2, cells := 0, slots := 0, locals := 24 } : Room).cells ({ frames := 2, cells := 0, slots := 0, locals := 24 } : Room).slots) := by
  refine MetFree.of_bodySF (plainFor_of_name pn_com_example_itinerant_itinerant_spaces_Point) hisR ?_
  intro p e s m args below meth c s₁ Bd hml0 hP hK
  obtain ⟨rfl, hZ, hh⟩ := hP
  have hx := Bd.exec
  have hby := Bd.bytes
  have hml : c.maxLocals = 5 := hml0
  have hown : s.vm.findClass "com/example/itinerant/itinerant/spaces/Point" = some m.cls := findClass_of_methodNamed Bd.named
  have hnm := (name_of_methodNamed Bd.named Bd.method).1
  have X0 : Stand p l e ({ frames := 2, cells := 0, slots := 0, locals := 24 } : Room) s m #[(.ref a1), (.int p1), (.int p2), (.double d)] below meth c s₁ [] 0 0 := Stand.of_body Bd
  have e0 : s₁.heap = h0 := by rw [← hh, Bd.state]; rfl
  have N0 := Fr.nil n0
  have pre0 : ∀ t, Steps p.tables e below (s₁.setTop (mkF m 0 #[.val (.ref a1), .val (.int p1), .val (.int p2), .val (.double d), .second] [])) t → Steps p.tables e below (s₁.setTop (entryFrame m #[(.ref a1), (.int p1), (.int p2), (.double d)] 5)) t := fun t k => castTop (ef_prog_77_method_1_code m a1 p1 p2 d) k
  have K0 := Keep.refl h0 [a1]
  obtain ⟨_, _, ⟨T1, L1, k1, n1⟩, -, X1, ⟨Lc1, hQ1, l1, y1, z1⟩, st1⟩ := X0.specialBack hx (y := (⟨"java/lang/Record", "<init>", "()V"⟩ : MethodName)) rfl hown (mvT hZ (hw _ (List.mem_of_getElem? (i := 6) rfl))) (mvT hZ (hw _ (List.mem_of_getElem? (i := 7) rfl))) (mvT hZ (hw _ (List.mem_of_getElem? (i := 10) rfl))) (by decide) (backOf (W := 0) (rmR l Z a0 hw [] a1 h0 n0 Z0) hZ (hw _ (List.mem_of_getElem? (i := 10) rfl)) (hw _ (List.mem_of_getElem? (i := 9) rfl)) (by decide) (by decide)) (g := (mkF m 1 #[.val (.ref a1), .val (.int p1), .val (.int p2), .val (.double d), .second] [(.ref a1)])) rfl (by rw [hml]; rfl) (Steps.refl _) (a := a1) (argsL := []) (rest := []) (lenOf pd___V rfl) rfl (by show 2 * 0 + _ ≤ _; exact Nat.le_of_eq rfl) (hb hby d_prog_77_method_1_code_1) (fun _ _ => ⟨rfl, e0, (by decide : 0 + 0 ≤ _), (by decide : 0 + 0 ≤ _)⟩)
  dsimp only [Pt.U, Pt.locs, Pt.cells, Pt.slots] at X1 l1 y1 z1 st1 hQ1
  subst l1 y1 z1
  obtain ⟨rfl, N1q, eq1⟩ := hQ1
  have N1 := Fr.app N0 N1q
  obtain ⟨T2, h2, X2, e2, W2, st2⟩ := putF X1 hx hZ hown (host := "") (Or.inl (hw _ (List.mem_of_getElem? (i := 14) rfl))) Via.refl eq1 F_from E_a1 (Or.inr ⟨(hw _ (List.mem_of_getElem? (i := 15) rfl)), rfl, hnm⟩) (hw _ (List.mem_of_getElem? (i := 1) rfl)) (ty := .int) (by decide) rfl rfl (g := (mkF m 54 #[.val (.ref a1), .val (.int p1), .val (.int p2), .val (.double d'), .second] [(.int p1), (.ref a1)])) rfl rfl (hb hby d_prog_77_method_1_code_54)
  have c2_0 := E_a1.wr W2
  have c2_1 := F_from.same W2
  have c2_2 := F_to.other W2 (Or.inr (slot_ne (Or.inr (hw _ (List.mem_of_getElem? (i := 17) rfl))) (Or.inr (hw _ (List.mem_of_getElem? (i := 15) rfl))) (by decide) (t := .int) (t' := .int) (by decide) (by decide)))
  have c2_3 := F_offset.other W2 (Or.inr (slot_ne (Or.inr (hw _ (List.mem_of_getElem? (i := 19) rfl))) (Or.inr (hw _ (List.mem_of_getElem? (i := 15) rfl))) (by decide) (t := .double) (t' := .int) (by decide) (by decide)))
  have SZ2 := Nat.le_trans Z0 (Keep.of_wr W2).1
  have K2 := K0.wr W2 (Or.inl (List.mem_of_getElem? (i := 0) rfl))
  have N2 := Fr.snoc X2 N1 g_a1
  obtain ⟨T3, h3, X3, e3, W3, st3⟩ := putF X2 hx hZ hown (host := "") (Or.inl (hw _ (List.mem_of_getElem? (i := 16) rfl))) Via.refl e2 c2_2 c2_0 (Or.inr ⟨(hw _ (List.mem_of_getElem? (i := 17) rfl)), rfl, hnm⟩) (hw _ (List.mem_of_getElem? (i := 1) rfl)) (ty := .int) (by decide) rfl rfl (g := (mkF m 59 #[.val (.ref a1), .val (.int p1), .val (.int p2), .val (.double d'), .second] [(.int p2), (.ref a1)])) rfl rfl (hb hby d_prog_77_method_1_code_59)
  have c3_0 := c2_0.wr W3
  have c3_1 := c2_1.other W3 (Or.inr (slot_ne (Or.inr (hw _ (List.mem_of_getElem? (i := 15) rfl))) (Or.inr (hw _ (List.mem_of_getElem? (i := 17) rfl))) (by decide) (t := .int) (t' := .int) (by decide) (by decide)))
  have c3_2 := c2_2.same W3
  have c3_3 := c2_3.other W3 (Or.inr (slot_ne (Or.inr (hw _ (List.mem_of_getElem? (i := 19) rfl))) (Or.inr (hw _ (List.mem_of_getElem? (i := 17) rfl))) (by decide) (t := .double) (t' := .int) (by decide) (by decide)))
  have SZ3 := Nat.le_trans SZ2 (Keep.of_wr W3).1
  have K3 := K2.wr W3 (Or.inl (List.mem_of_getElem? (i := 0) rfl))
  have N3 := Fr.snoc X3 N2 g_a1
  obtain ⟨T4, h4, X4, e4, W4, st4⟩ := putF X3 hx hZ hown (host := "") (Or.inl (hw _ (List.mem_of_getElem? (i := 18) rfl))) Via.refl e3 c3_3 c3_0 (Or.inr ⟨(hw _ (List.mem_of_getElem? (i := 19) rfl)), rfl, hnm⟩) (hw _ (List.mem_of_getElem? (i := 1) rfl)) (ty := .double) (by decide) rfl rfl (g := (mkF m 64 #[.val (.ref a1), .val (.int p1), .val (.int p2), .val (.double d'), .second] [(.double d'), (.ref a1)])) rfl rfl (hb hby d_prog_77_method_1_code_64)
  have c4_0 := c3_0.wr W4
  have c4_1 := c3_1.other W4 (Or.inr (slot_ne (Or.inr (hw _ (List.mem_of_getElem? (i := 15) rfl))) (Or.inr (hw _ (List.mem_of_getElem? (i := 19) rfl))) (by decide) (t := .int) (t' := .double) (by decide) (by decide)))
  have c4_2 := c3_2.other W4 (Or.inr (slot_ne (Or.inr (hw _ (List.mem_of_getElem? (i := 17) rfl))) (Or.inr (hw _ (List.mem_of_getElem? (i := 19) rfl))) (by decide) (t := .int) (t' := .double) (by decide) (by decide)))
  have c4_3 := c3_3.same W4
  have SZ4 := Nat.le_trans SZ3 (Keep.of_wr W4).1
  have K4 := K3.wr W4 (Or.inl (List.mem_of_getElem? (i := 0) rfl))
  have N4 := Fr.snoc X4 N3 g_a1
  obtain ⟨fs, hr, hrun, hended, hW, hsame⟩ := X4.leave (v := none) (fun _ => rfl)
  refine ⟨_, _, pre0 _ ?_, hrun, hended, _, _, rfl, ?_, ⟨_, rfl⟩, hW, hsame.mono (by decide) (by decide)⟩
  · show Steps p.tables e below (s₁.setTop (mkF m 0 #[.val (.ref a1), .val (.int p1), .val (.int p2), .val (.double d), .second] [])) _
    refine XS.aloadN X0.here hx rfl (hb hby d_prog_77_method_1_code_0) rfl rfl ?_
    show Steps p.tables e below (s₁.setTop (mkF m 1 #[.val (.ref a1), .val (.int p1), .val (.int p2), .val (.double d), .second] [(.ref a1)])) _
    refine st1.trans ?_
    show Steps p.tables e below (T1.setTop (mkF m 4 #[.val (.ref a1), .val (.int p1), .val (.int p2), .val (.double d), .second] [])) _
    refine XS.iloadN X1.here hx rfl (hb hby d_prog_77_method_1_code_4) rfl ?_
    show Steps p.tables e below (T1.setTop (mkF m 5 #[.val (.ref a1), .val (.int p1), .val (.int p2), .val (.double d), .second] [(.int p1)])) _
    refine XS.iloadN X1.here hx rfl (hb hby d_prog_77_method_1_code_5) rfl ?_
    show Steps p.tables e below (T1.setTop (mkF m 6 #[.val (.ref a1), .val (.int p1), .val (.int p2), .val (.double d), .second] [(.int p2), (.int p1)])) _
    refine XS.icmpYes X1.here hx rfl (pc0 := 6) (pc' := 18) rfl (hb hby d_prog_77_method_1_code_6) rfl (feq (hc6 : ¬ (p1 = p2))).2 (by decide) (by decide) ?_
    show Steps p.tables e below (T1.setTop (mkF m 18 #[.val (.ref a1), .val (.int p1), .val (.int p2), .val (.double d), .second] [])) _
    refine XS.dloadN X1.here hx rfl (hb hby d_prog_77_method_1_code_18) rfl ?_
    show Steps p.tables e below (T1.setTop (mkF m 19 #[.val (.ref a1), .val (.int p1), .val (.int p2), .val (.double d), .second] [(.double d)])) _
    refine XS.dconst0 X1.here hx rfl (hb hby d_prog_77_method_1_code_19) (v := (0 : UInt64)) rfl ?_
    show Steps p.tables e below (T1.setTop (mkF m 20 #[.val (.ref a1), .val (.int p1), .val (.int p2), .val (.double d), .second] [(.double (0 : UInt64)), (.double d)])) _
    refine XS.dcmpS X1.here hx rfl (hb hby d_prog_77_method_1_code_20) rfl (v := (1 : Int32)) (hv20) ?_
    show Steps p.tables e below (T1.setTop (mkF m 21 #[.val (.ref a1), .val (.int p1), .val (.int p2), .val (.double d), .second] [(.int (1 : Int32))])) _
    refine XS.ifNo X1.here hx rfl (hb hby d_prog_77_method_1_code_21) rfl ((if0 _ _).trans (tlt (by decide : (0 : Int32) < (1 : Int32))).2.2.2) ?_
    show Steps p.tables e below (T1.setTop (mkF m 24 #[.val (.ref a1), .val (.int p1), .val (.int p2), .val (.double d), .second] [])) _
    refine XS.dloadN X1.here hx rfl (hb hby d_prog_77_method_1_code_24) rfl ?_
    show Steps p.tables e below (T1.setTop (mkF m 25 #[.val (.ref a1), .val (.int p1), .val (.int p2), .val (.double d), .second] [(.double d)])) _
    refine X1.ldc2DoubleC hx hown (mvT hZ (hw _ (List.mem_of_getElem? (i := 35) rfl))) (g := (mkF m 25 #[.val (.ref a1), .val (.int p1), .val (.int p2), .val (.double d), .second] [(.double d)])) rfl (hb hby d_prog_77_method_1_code_25) _ ?_
    show Steps p.tables e below (T1.setTop (mkF m 28 #[.val (.ref a1), .val (.int p1), .val (.int p2), .val (.double d), .second] [(.double (9218868437227405312 : UInt64)), (.double d)])) _
    refine XS.dcmpS X1.here hx rfl (hb hby d_prog_77_method_1_code_28) rfl (v := (-1 : Int32)) (hv28) ?_
    show Steps p.tables e below (T1.setTop (mkF m 29 #[.val (.ref a1), .val (.int p1), .val (.int p2), .val (.double d), .second] [(.int (-1 : Int32))])) _
    refine XS.ifYes X1.here hx rfl (pc0 := 29) (pc' := 48) rfl (hb hby d_prog_77_method_1_code_29) rfl ((if0 _ _).trans (tlt (by decide : (-1 : Int32) < (0 : Int32))).1) (by decide) (by decide) ?_
    show Steps p.tables e below (T1.setTop (mkF m 48 #[.val (.ref a1), .val (.int p1), .val (.int p2), .val (.double d), .second] [])) _
    refine XS.dloadN X1.here hx rfl (hb hby d_prog_77_method_1_code_48) rfl ?_
    show Steps p.tables e below (T1.setTop (mkF m 49 #[.val (.ref a1), .val (.int p1), .val (.int p2), .val (.double d), .second] [(.double d)])) _
    refine XS.dconst0 X1.here hx rfl (hb hby d_prog_77_method_1_code_49) (v := (0 : UInt64)) rfl ?_
    show Steps p.tables e below (T1.setTop (mkF m 50 #[.val (.ref a1), .val (.int p1), .val (.int p2), .val (.double d), .second] [(.double (0 : UInt64)), (.double d)])) _
    refine XS.daddS X1.here hx rfl (hb hby d_prog_77_method_1_code_50) rfl hn50 (v := d') (hv50) ?_
    show Steps p.tables e below (T1.setTop (mkF m 51 #[.val (.ref a1), .val (.int p1), .val (.int p2), .val (.double d), .second] [(.double d')])) _
    refine XS.dstoreN X1.here hx rfl (hb hby d_prog_77_method_1_code_51) rfl (l' := #[.val (.ref a1), .val (.int p1), .val (.int p2), .val (.double d'), .second]) rfl ?_
    show Steps p.tables e below (T1.setTop (mkF m 52 #[.val (.ref a1), .val (.int p1), .val (.int p2), .val (.double d'), .second] [])) _
    refine XS.aloadN X1.here hx rfl (hb hby d_prog_77_method_1_code_52) rfl rfl ?_
    show Steps p.tables e below (T1.setTop (mkF m 53 #[.val (.ref a1), .val (.int p1), .val (.int p2), .val (.double d'), .second] [(.ref a1)])) _
    refine XS.iloadN X1.here hx rfl (hb hby d_prog_77_method_1_code_53) rfl ?_
    show Steps p.tables e below (T1.setTop (mkF m 54 #[.val (.ref a1), .val (.int p1), .val (.int p2), .val (.double d'), .second] [(.int p1), (.ref a1)])) _
    refine st2 _ ?_
    show Steps p.tables e below (T2.setTop (mkF m 57 #[.val (.ref a1), .val (.int p1), .val (.int p2), .val (.double d'), .second] [])) _
    refine XS.aloadN X2.here hx rfl (hb hby d_prog_77_method_1_code_57) rfl rfl ?_
    show Steps p.tables e below (T2.setTop (mkF m 58 #[.val (.ref a1), .val (.int p1), .val (.int p2), .val (.double d'), .second] [(.ref a1)])) _
    refine XS.iloadN X2.here hx rfl (hb hby d_prog_77_method_1_code_58) rfl ?_
    show Steps p.tables e below (T2.setTop (mkF m 59 #[.val (.ref a1), .val (.int p1), .val (.int p2), .val (.double d'), .second] [(.int p2), (.ref a1)])) _
    refine st3 _ ?_
    show Steps p.tables e below (T3.setTop (mkF m 62 #[.val (.ref a1), .val (.int p1), .val (.int p2), .val (.double d'), .second] [])) _
    refine XS.aloadN X3.here hx rfl (hb hby d_prog_77_method_1_code_62) rfl rfl ?_
    show Steps p.tables e below (T3.setTop (mkF m 63 #[.val (.ref a1), .val (.int p1), .val (.int p2), .val (.double d'), .second] [(.ref a1)])) _
    refine XS.dloadN X3.here hx rfl (hb hby d_prog_77_method_1_code_63) rfl ?_
    show Steps p.tables e below (T3.setTop (mkF m 64 #[.val (.ref a1), .val (.int p1), .val (.int p2), .val (.double d'), .second] [(.double d'), (.ref a1)])) _
    refine st4 _ ?_
    show Steps p.tables e below (T4.setTop (mkF m 67 #[.val (.ref a1), .val (.int p1), .val (.int p2), .val (.double d'), .second] [])) _
    exact X4.returnOut hx Bd.returns (hb hby d_prog_77_method_1_code_67) hr
  · show QI Z a1 p1 p2 d' h0 n0 _ T4.heap _
    rw [e4]
    exact ⟨rfl, N4, K4, c4_0, c4_1, c4_2, c4_3⟩
def QB (r : Int32) (h0 : Heap) (n0 : Nat) (v : Option Value) (h : Heap) (L : List Loc) : Prop := (v = some (.int r) ∧ Fr n0 L ∧ h = h0)
theorem d_prog_77_method_3_code_0 : decode prog_77_method_3_code 0 = .ok (.aload_n 0, 1) := by decide +kernel
theorem d_prog_77_method_3_code_1 : decode prog_77_method_3_code 1 = .ok (.getfield 20, 3) := by decide +kernel
theorem d_prog_77_method_3_code_4 : decode prog_77_method_3_code 4 = .ok (.aload_n 0, 1) := by decide +kernel
theorem d_prog_77_method_3_code_5 : decode prog_77_method_3_code 5 = .ok (.getfield 26, 3) := by decide +kernel
theorem d_prog_77_method_3_code_8 : decode prog_77_method_3_code 8 = .ok (.if_icmp .ne 7, 3) := by decide +kernel
theorem d_prog_77_method_3_code_11 : decode prog_77_method_3_code 11 = .ok (.iconst 1, 1) := by decide +kernel
theorem d_prog_77_method_3_code_12 : decode prog_77_method_3_code 12 = .ok (.goto 4, 3) := by decide +kernel
theorem d_prog_77_method_3_code_16 : decode prog_77_method_3_code 16 = .ok (.ireturn, 1) := by decide +kernel
theorem ef_prog_77_method_3_code (m : MethodId) (x0 : Addr) : entryFrame m #[(.ref x0)] 1 = mkF m 0 #[.val (.ref x0)] [] := by first | (simp [entryFrame, mkF, argsToLocals, Value.category]; done) | rfl
set_option maxRecDepth 65536 in
set_option maxHeartbeats 40000000 in
theorem rmNt (l : Launch) (Z : State) (a0 : Array Value) (hw : ∀ d ∈ tables_1, d.before a0 Z = true) (ws : List Jvm.Cond) (a1 : Addr) (p1 p2 : Int32) (h0 : Heap) (n0 : Nat) (Z0 : n0 ≤ h0.size) (F_from : Fld Z h0 a1 "com/example/itinerant/itinerant/spaces/Point" "from" "I" (.int p1)) (F_to : Fld Z h0 a1 "com/example/itinerant/itinerant/spaces/Point" "to" "I" (.int p2)) (hc8 : p1 = p2) :
    MetFree l (⟨"com/example/itinerant/itinerant/spaces/Point", "isNode", "()Z"⟩ : MethodName) (head1 (Jvm.Cond.code (⟨"com/example/itinerant/itinerant/spaces/Point", "isNode", "()Z"⟩ : MethodName) prog_77_method_3_code 1 (some .boolean) :: ws) ({ frames := 0, cells := 0, slots := 0, locals := 0 } : Room)) (fun a U => a = #[(.ref a1)] ∧ Z.Warmed39 U.vm ∧ U.heap = h0) (fun _ _ _ _ _ => True) (fun _ U o U' => ∃ v L, o = .returned v ∧ QB 1 h0 n0 v U'.heap L ∧ FrameEnd U o U' L ({ frames := 0, cells := 0, slots := 0, locals := 0 } : Room).cells ({ frames := 0, cells := 0, slots := 0, locals := 0 } : Room).slots) := by
  refine MetFree.of_bodySF (plainFor_of_name pn_com_example_itinerant_itinerant_spaces_Point) hisR ?_
  intro p e s m args below meth c s₁ Bd hml0 hP hK
  obtain ⟨rfl, hZ, hh⟩ := hP
  have hx := Bd.exec
  have hby := Bd.bytes
  have hml : c.maxLocals = 1 := hml0
  have hown : s.vm.findClass "com/example/itinerant/itinerant/spaces/Point" = some m.cls := findClass_of_methodNamed Bd.named
  have hnm := (name_of_methodNamed Bd.named Bd.method).1
  have X0 : Stand p l e ({ frames := 0, cells := 0, slots := 0, locals := 0 } : Room) s m #[(.ref a1)] below meth c s₁ [] 0 0 := Stand.of_body Bd
  have e0 : s₁.heap = h0 := by rw [← hh, Bd.state]; rfl
  have N0 := Fr.nil n0
  have pre0 : ∀ t, Steps p.tables e below (s₁.setTop (mkF m 0 #[.val (.ref a1)] [])) t → Steps p.tables e below (s₁.setTop (entryFrame m #[(.ref a1)] 1)) t := fun t k => castTop (ef_prog_77_method_3_code m a1) k
  obtain ⟨T1, X1, e1, st1⟩ := getF X0 hx hZ hown (host := "") (Or.inl (hw _ (List.mem_of_getElem? (i := 14) rfl))) Via.refl e0 F_from (g := (mkF m 1 #[.val (.ref a1)] [(.ref a1)])) rfl rfl (hb hby d_prog_77_method_3_code_1)
  obtain ⟨T2, X2, e2, st2⟩ := getF X1 hx hZ hown (host := "") (Or.inl (hw _ (List.mem_of_getElem? (i := 16) rfl))) Via.refl e1 F_to (g := (mkF m 5 #[.val (.ref a1)] [(.ref a1), (.int p1)])) rfl rfl (hb hby d_prog_77_method_3_code_5)
  obtain ⟨fs, hr, hrun, hended, hW, hsame⟩ := X2.leave (v := some (.int (1 : Int32))) (fun h => by rw [Bd.returns] at h; cases h)
  refine ⟨_, _, pre0 _ ?_, hrun, hended, _, _, rfl, ?_, ⟨_, rfl⟩, hW, hsame.mono (by decide) (by decide)⟩
  · show Steps p.tables e below (s₁.setTop (mkF m 0 #[.val (.ref a1)] [])) _
    refine XS.aloadN X0.here hx rfl (hb hby d_prog_77_method_3_code_0) rfl rfl ?_
    show Steps p.tables e below (s₁.setTop (mkF m 1 #[.val (.ref a1)] [(.ref a1)])) _
    refine st1 _ ?_
    show Steps p.tables e below (T1.setTop (mkF m 4 #[.val (.ref a1)] [(.int p1)])) _
    refine XS.aloadN X1.here hx rfl (hb hby d_prog_77_method_3_code_4) rfl rfl ?_
    show Steps p.tables e below (T1.setTop (mkF m 5 #[.val (.ref a1)] [(.ref a1), (.int p1)])) _
    refine st2 _ ?_
    show Steps p.tables e below (T2.setTop (mkF m 8 #[.val (.ref a1)] [(.int p2), (.int p1)])) _
    refine XS.icmpNo X2.here hx rfl (hb hby d_prog_77_method_3_code_8) rfl (teq (hc8 : p1 = p2)).2 ?_
    show Steps p.tables e below (T2.setTop (mkF m 11 #[.val (.ref a1)] [])) _
    refine XS.iconst X2.here hx rfl (hb hby d_prog_77_method_3_code_11) ?_
    show Steps p.tables e below (T2.setTop (mkF m 12 #[.val (.ref a1)] [(.int (1 : Int32))])) _
    refine XS.goto X2.here hx rfl (pc0 := 12) (pc' := 16) rfl (hb hby d_prog_77_method_3_code_12) (by decide) (by decide) ?_
    show Steps p.tables e below (T2.setTop (mkF m 16 #[.val (.ref a1)] [(.int (1 : Int32))])) _
    exact retN X2 hx (t := .boolean) Bd.returns (by simp) (hb hby d_prog_77_method_3_code_16) hr
  · show QB 1 h0 n0 _ T2.heap _
    rw [e2]
    exact ⟨rfl, N0, rfl⟩
theorem d_prog_77_method_3_code_15 : decode prog_77_method_3_code 15 = .ok (.iconst 0, 1) := by decide +kernel
set_option maxRecDepth 65536 in
set_option maxHeartbeats 40000000 in
theorem rmNf (l : Launch) (Z : State) (a0 : Array Value) (hw : ∀ d ∈ tables_1, d.before a0 Z = true) (ws : List Jvm.Cond) (a1 : Addr) (p1 p2 : Int32) (h0 : Heap) (n0 : Nat) (Z0 : n0 ≤ h0.size) (F_from : Fld Z h0 a1 "com/example/itinerant/itinerant/spaces/Point" "from" "I" (.int p1)) (F_to : Fld Z h0 a1 "com/example/itinerant/itinerant/spaces/Point" "to" "I" (.int p2)) (hc8 : ¬ (p1 = p2)) :
    MetFree l (⟨"com/example/itinerant/itinerant/spaces/Point", "isNode", "()Z"⟩ : MethodName) (head1 (Jvm.Cond.code (⟨"com/example/itinerant/itinerant/spaces/Point", "isNode", "()Z"⟩ : MethodName) prog_77_method_3_code 1 (some .boolean) :: ws) ({ frames := 0, cells := 0, slots := 0, locals := 0 } : Room)) (fun a U => a = #[(.ref a1)] ∧ Z.Warmed39 U.vm ∧ U.heap = h0) (fun _ _ _ _ _ => True) (fun _ U o U' => ∃ v L, o = .returned v ∧ QB 0 h0 n0 v U'.heap L ∧ FrameEnd U o U' L ({ frames := 0, cells := 0, slots := 0, locals := 0 } : Room).cells ({ frames := 0, cells := 0, slots := 0, locals := 0 } : Room).slots) := by
  refine MetFree.of_bodySF (plainFor_of_name pn_com_example_itinerant_itinerant_spaces_Point) hisR ?_
  intro p e s m args below meth c s₁ Bd hml0 hP hK
  obtain ⟨rfl, hZ, hh⟩ := hP
  have hx := Bd.exec
  have hby := Bd.bytes
  have hml : c.maxLocals = 1 := hml0
  have hown : s.vm.findClass "com/example/itinerant/itinerant/spaces/Point" = some m.cls := findClass_of_methodNamed Bd.named
  have hnm := (name_of_methodNamed Bd.named Bd.method).1
  have X0 : Stand p l e ({ frames := 0, cells := 0, slots := 0, locals := 0 } : Room) s m #[(.ref a1)] below meth c s₁ [] 0 0 := Stand.of_body Bd
  have e0 : s₁.heap = h0 := by rw [← hh, Bd.state]; rfl
  have N0 := Fr.nil n0
  have pre0 : ∀ t, Steps p.tables e below (s₁.setTop (mkF m 0 #[.val (.ref a1)] [])) t → Steps p.tables e below (s₁.setTop (entryFrame m #[(.ref a1)] 1)) t := fun t k => castTop (ef_prog_77_method_3_code m a1) k
  obtain ⟨T1, X1, e1, st1⟩ := getF X0 hx hZ hown (host := "") (Or.inl (hw _ (List.mem_of_getElem? (i := 14) rfl))) Via.refl e0 F_from (g := (mkF m 1 #[.val (.ref a1)] [(.ref a1)])) rfl rfl (hb hby d_prog_77_method_3_code_1)
  obtain ⟨T2, X2, e2, st2⟩ := getF X1 hx hZ hown (host := "") (Or.inl (hw _ (List.mem_of_getElem? (i := 16) rfl))) Via.refl e1 F_to (g := (mkF m 5 #[.val (.ref a1)] [(.ref a1), (.int p1)])) rfl rfl (hb hby d_prog_77_method_3_code_5)
  obtain ⟨fs, hr, hrun, hended, hW, hsame⟩ := X2.leave (v := some (.int (0 : Int32))) (fun h => by rw [Bd.returns] at h; cases h)
  refine ⟨_, _, pre0 _ ?_, hrun, hended, _, _, rfl, ?_, ⟨_, rfl⟩, hW, hsame.mono (by decide) (by decide)⟩
  · show Steps p.tables e below (s₁.setTop (mkF m 0 #[.val (.ref a1)] [])) _
    refine XS.aloadN X0.here hx rfl (hb hby d_prog_77_method_3_code_0) rfl rfl ?_
    show Steps p.tables e below (s₁.setTop (mkF m 1 #[.val (.ref a1)] [(.ref a1)])) _
    refine st1 _ ?_
    show Steps p.tables e below (T1.setTop (mkF m 4 #[.val (.ref a1)] [(.int p1)])) _
    refine XS.aloadN X1.here hx rfl (hb hby d_prog_77_method_3_code_4) rfl rfl ?_
    show Steps p.tables e below (T1.setTop (mkF m 5 #[.val (.ref a1)] [(.ref a1), (.int p1)])) _
    refine st2 _ ?_
    show Steps p.tables e below (T2.setTop (mkF m 8 #[.val (.ref a1)] [(.int p2), (.int p1)])) _
    refine XS.icmpYes X2.here hx rfl (pc0 := 8) (pc' := 15) rfl (hb hby d_prog_77_method_3_code_8) rfl (feq (hc8 : ¬ (p1 = p2))).2 (by decide) (by decide) ?_
    show Steps p.tables e below (T2.setTop (mkF m 15 #[.val (.ref a1)] [])) _
    refine XS.iconst X2.here hx rfl (hb hby d_prog_77_method_3_code_15) ?_
    show Steps p.tables e below (T2.setTop (mkF m 16 #[.val (.ref a1)] [(.int (0 : Int32))])) _
    exact retN X2 hx (t := .boolean) Bd.returns (by simp) (hb hby d_prog_77_method_3_code_16) hr
  · show QB 0 h0 n0 _ T2.heap _
    rw [e2]
    exact ⟨rfl, N0, rfl⟩
def QD (r : UInt64) (h0 : Heap) (n0 : Nat) (v : Option Value) (h : Heap) (L : List Loc) : Prop := (v = some (.double r) ∧ Fr n0 L ∧ h = h0)
theorem d_prog_77_method_9_code_0 : decode prog_77_method_9_code 0 = .ok (.aload_n 0, 1) := by decide +kernel
theorem d_prog_77_method_9_code_1 : decode prog_77_method_9_code 1 = .ok (.getfield 29, 3) := by decide +kernel
theorem d_prog_77_method_9_code_4 : decode prog_77_method_9_code 4 = .ok (.dreturn, 1) := by decide +kernel
theorem ef_prog_77_method_9_code (m : MethodId) (x0 : Addr) : entryFrame m #[(.ref x0)] 1 = mkF m 0 #[.val (.ref x0)] [] := by first | (simp [entryFrame, mkF, argsToLocals, Value.category]; done) | rfl
set_option maxRecDepth 65536 in
set_option maxHeartbeats 40000000 in
theorem rmO (l : Launch) (Z : State) (a0 : Array Value) (hw : ∀ d ∈ tables_1, d.before a0 Z = true) (ws : List Jvm.Cond) (a1 : Addr) (d : UInt64) (h0 : Heap) (n0 : Nat) (Z0 : n0 ≤ h0.size) (F_offset : Fld Z h0 a1 "com/example/itinerant/itinerant/spaces/Point" "offset" "D" (.double d))  :
    MetFree l (⟨"com/example/itinerant/itinerant/spaces/Point", "offset", "()D"⟩ : MethodName) (head1 (Jvm.Cond.code (⟨"com/example/itinerant/itinerant/spaces/Point", "offset", "()D"⟩ : MethodName) prog_77_method_9_code 1 (some .double) :: ws) ({ frames := 0, cells := 0, slots := 0, locals := 0 } : Room)) (fun a U => a = #[(.ref a1)] ∧ Z.Warmed39 U.vm ∧ U.heap = h0) (fun _ _ _ _ _ => True) (fun _ U o U' => ∃ v L, o = .returned v ∧ QD d h0 n0 v U'.heap L ∧ FrameEnd U o U' L ({ frames := 0, cells := 0, slots := 0, locals := 0 } : Room).cells ({ frames := 0, cells := 0, slots := 0, locals := 0 } : Room).slots) := by
  refine MetFree.of_bodySF (plainFor_of_name pn_com_example_itinerant_itinerant_spaces_Point) hisR ?_
  intro p e s m args below meth c s₁ Bd hml0 hP hK
  obtain ⟨rfl, hZ, hh⟩ := hP
  have hx := Bd.exec
  have hby := Bd.bytes
  have hml : c.maxLocals = 1 := hml0
  have hown : s.vm.findClass "com/example/itinerant/itinerant/spaces/Point" = some m.cls := findClass_of_methodNamed Bd.named
  have hnm := (name_of_methodNamed Bd.named Bd.method).1
  have X0 : Stand p l e ({ frames := 0, cells := 0, slots := 0, locals := 0 } : Room) s m #[(.ref a1)] below meth c s₁ [] 0 0 := Stand.of_body Bd
  have e0 : s₁.heap = h0 := by rw [← hh, Bd.state]; rfl
  have N0 := Fr.nil n0
  have pre0 : ∀ t, Steps p.tables e below (s₁.setTop (mkF m 0 #[.val (.ref a1)] [])) t → Steps p.tables e below (s₁.setTop (entryFrame m #[(.ref a1)] 1)) t := fun t k => castTop (ef_prog_77_method_9_code m a1) k
  obtain ⟨T1, X1, e1, st1⟩ := getF X0 hx hZ hown (host := "") (Or.inl (hw _ (List.mem_of_getElem? (i := 18) rfl))) Via.refl e0 F_offset (g := (mkF m 1 #[.val (.ref a1)] [(.ref a1)])) rfl rfl (hb hby d_prog_77_method_9_code_1)
  obtain ⟨fs, hr, hrun, hended, hW, hsame⟩ := X1.leave (v := some (.double d)) (fun h => by rw [Bd.returns] at h; cases h)
  refine ⟨_, _, pre0 _ ?_, hrun, hended, _, _, rfl, ?_, ⟨_, rfl⟩, hW, hsame.mono (by decide) (by decide)⟩
  · show Steps p.tables e below (s₁.setTop (mkF m 0 #[.val (.ref a1)] [])) _
    refine XS.aloadN X0.here hx rfl (hb hby d_prog_77_method_9_code_0) rfl rfl ?_
    show Steps p.tables e below (s₁.setTop (mkF m 1 #[.val (.ref a1)] [(.ref a1)])) _
    refine st1 _ ?_
    show Steps p.tables e below (T1.setTop (mkF m 4 #[.val (.ref a1)] [(.double d)])) _
    exact retOut X1 hx (t := .double) Bd.returns rfl (Or.inr (Or.inr (Or.inl ⟨rfl, rfl, _, rfl⟩))) (hb hby d_prog_77_method_9_code_4) hr
  · show QD d h0 n0 _ T1.heap _
    rw [e1]
    exact ⟨rfl, N0, rfl⟩
def QN (Z : State) (p1 : Int32) (h0 : Heap) (n0 : Nat) (v : Option Value) (h : Heap) (L : List Loc) : Prop := ∃ b : Addr, v = some (.ref b) ∧ Fr n0 L ∧ n0 ≤ b ∧ Keep h0 h [] ∧ Exa Z h b "com/example/itinerant/itinerant/spaces/Point" ∧ Fld Z h b "com/example/itinerant/itinerant/spaces/Point" "from" "I" (.int p1) ∧ Fld Z h b "com/example/itinerant/itinerant/spaces/Point" "to" "I" (.int p1)
theorem d_prog_77_method_2_code_0 : decode prog_77_method_2_code 0 = .ok (.new 21, 3) := by decide +kernel
theorem d_prog_77_method_2_code_3 : decode prog_77_method_2_code 3 = .ok (.dup, 1) := by decide +kernel
theorem d_prog_77_method_2_code_4 : decode prog_77_method_2_code 4 = .ok (.iload_n 0, 1) := by decide +kernel
theorem d_prog_77_method_2_code_5 : decode prog_77_method_2_code 5 = .ok (.iload_n 0, 1) := by decide +kernel
theorem d_prog_77_method_2_code_6 : decode prog_77_method_2_code 6 = .ok (.dconst 0, 1) := by decide +kernel
theorem d_prog_77_method_2_code_7 : decode prog_77_method_2_code 7 = .ok (.invokespecial 33, 3) := by decide +kernel
theorem d_prog_77_method_2_code_10 : decode prog_77_method_2_code 10 = .ok (.areturn, 1) := by decide +kernel
theorem pd__IID_V : parseMethodDescriptor "(IID)V" = some ⟨[.int, .int, .double], none⟩ := by decide +kernel
theorem ef_prog_77_method_2_code (m : MethodId) (x0 : Int32) : entryFrame m #[(.int x0)] 1 = mkF m 0 #[.val (.int x0)] [] := by first | (simp [entryFrame, mkF, argsToLocals, Value.category]; done) | rfl
set_option maxRecDepth 65536 in
set_option maxHeartbeats 40000000 in
theorem rmM (l : Launch) (Z : State) (a0 : Array Value) (hw : ∀ d ∈ tables_1, d.before a0 Z = true) (ws : List Jvm.Cond) (p1 : Int32) (h0 : Heap) (n0 : Nat) (Z0 : n0 ≤ h0.size)   :
    MetFree l (⟨"com/example/itinerant/itinerant/spaces/Point", "node", "(I)Lcom/example/itinerant/itinerant/spaces/Point;"⟩ : MethodName) (head1 (Jvm.Cond.code (⟨"com/example/itinerant/itinerant/spaces/Point", "node", "(I)Lcom/example/itinerant/itinerant/spaces/Point;"⟩ : MethodName) prog_77_method_2_code 1 (some (.object "com/example/itinerant/itinerant/spaces/Point")) :: ws) ({ frames := 3, cells := 1, slots := 3, locals := 41 } : Room)) (fun a U => a = #[(.int p1)] ∧ Z.Warmed39 U.vm ∧ U.heap = h0) (fun _ _ _ _ _ => True) (fun _ U o U' => ∃ v L, o = .returned v ∧ QN Z p1 h0 n0 v U'.heap L ∧ FrameEnd U o U' L ({ frames := 3, cells := 1, slots := 3, locals := 41 } : Room).cells ({ frames := 3, cells := 1, slots := 3, locals := 41 } : Room).slots) := by
  refine MetFree.of_bodySF (plainFor_of_name pn_com_example_itinerant_itinerant_spaces_Point) hisR ?_
  intro p e s m args below meth c s₁ Bd hml0 hP hK
  obtain ⟨rfl, hZ, hh⟩ := hP
  have hx := Bd.exec
  have hby := Bd.bytes
  have hml : c.maxLocals = 1 := hml0
  have hown : s.vm.findClass "com/example/itinerant/itinerant/spaces/Point" = some m.cls := findClass_of_methodNamed Bd.named
  have hnm := (name_of_methodNamed Bd.named Bd.method).1
  have X0 : Stand p l e ({ frames := 3, cells := 1, slots := 3, locals := 41 } : Room) s m #[(.int p1)] below meth c s₁ [] 0 0 := Stand.of_body Bd
  have e0 : s₁.heap = h0 := by rw [← hh, Bd.state]; rfl
  have N0 := Fr.nil n0
  have pre0 : ∀ t, Steps p.tables e below (s₁.setTop (mkF m 0 #[.val (.int p1)] [])) t → Steps p.tables e below (s₁.setTop (entryFrame m #[(.int p1)] 1)) t := fun t k => castTop (ef_prog_77_method_2_code m p1) k
  have K0 := Keep.refl h0 []
  obtain ⟨T1, h1, X1, e1, E1, A1, D1, -, st1⟩ := newO X0 hx hZ hown (hw _ (List.mem_of_getElem? (i := 33) rfl)) (hw _ (List.mem_of_getElem? (i := 1) rfl)) (hw _ (List.mem_of_getElem? (i := 2) rfl)) e0 (g := (mkF m 0 #[.val (.int p1)] [])) rfl (hb hby d_prog_77_method_2_code_0) (by decide) (by decide)
  obtain ⟨b1, g1⟩ : ∃ z, z = h0.size := ⟨_, rfl⟩
  rw [← g1] at A1 D1 st1
  have g_b1 : n0 ≤ b1 := Nat.le_trans Z0 (Nat.le_of_eq g1.symm)
  have sz_b1 : h0.size ≤ b1 := Nat.le_trans K0.1 (Nat.le_of_eq g1.symm)
  have SZ1 := Nat.le_trans Z0 E1.1
  have K1 := K0.ext E1
  have F1_from : Fld Z h1 b1 "com/example/itinerant/itinerant/spaces/Point" "from" "I" (.int (0 : Int32)) := D1 (Or.inr (hw _ (List.mem_of_getElem? (i := 15) rfl))) (ty := .int) (by decide)
  have F1_to : Fld Z h1 b1 "com/example/itinerant/itinerant/spaces/Point" "to" "I" (.int (0 : Int32)) := D1 (Or.inr (hw _ (List.mem_of_getElem? (i := 17) rfl))) (ty := .int) (by decide)
  have F1_offset : Fld Z h1 b1 "com/example/itinerant/itinerant/spaces/Point" "offset" "D" (.double (0 : UInt64)) := D1 (Or.inr (hw _ (List.mem_of_getElem? (i := 19) rfl))) (ty := .double) (by decide)
  obtain ⟨_, _, ⟨T2, L2, k2, n2⟩, -, X2, ⟨Lc2, hQ2, l2, y2, z2⟩, st2⟩ := X1.specialBack hx (y := (⟨"com/example/itinerant/itinerant/spaces/Point", "<init>", "(IID)V"⟩ : MethodName)) rfl hown (mvT hZ (hw _ (List.mem_of_getElem? (i := 34) rfl))) (mvT hZ (hw _ (List.mem_of_getElem? (i := 4) rfl))) (mvT hZ (hw _ (List.mem_of_getElem? (i := 5) rfl))) (by decide) (backOf (W := 1) (rmIa l Z a0 hw [] b1 p1 p1 (0 : UInt64) (0 : UInt64) h1 n0 SZ1 A1 F1_from F1_to F1_offset g_b1 (by rw [own_za]; exact own_zn) own_za own_z rfl) hZ (hw _ (List.mem_of_getElem? (i := 5) rfl)) (hw _ (List.mem_of_getElem? (i := 2) rfl)) (by decide) (by decide)) (g := (mkF m 7 #[.val (.int p1)] [(.double (0 : UInt64)), (.int p1), (.int p1), (.ref b1), (.ref b1)])) rfl (by rw [hml]; rfl) (Steps.refl _) (a := b1) (argsL := [(.int p1), (.int p1), (.double (0 : UInt64))]) (rest := [(.ref b1)]) (lenOf pd__IID_V rfl) rfl (by show 2 * 0 + _ ≤ _; exact Nat.le_of_eq rfl) (hb hby d_prog_77_method_2_code_7) (fun _ _ => ⟨rfl, e1, (by decide : 1 + 0 ≤ _), (by decide : 3 + 0 ≤ _)⟩)
  dsimp only [Pt.U, Pt.locs, Pt.cells, Pt.slots] at X2 l2 y2 z2 st2 hQ2
  subst l2 y2 z2
  obtain ⟨rfl, N2q, K2q, E2q, F2q0, F2q1, F2q2⟩ := hQ2
  have c2_0 := A1.keep K2q
  have SZ2 := Nat.le_trans SZ1 K2q.1
  have KK2 := K1.trans K2q (fun x hx => by simp only [List.mem_cons, List.not_mem_nil, or_false] at hx; subst hx; exact (Or.inr sz_b1))
  have N2 := Fr.app N0 N2q
  obtain ⟨fs, hr, hrun, hended, hW, hsame⟩ := X2.leave (v := some (.ref b1)) (fun h => by rw [Bd.returns] at h; cases h)
  refine ⟨_, _, pre0 _ ?_, hrun, hended, _, _, rfl, ?_, ⟨_, rfl⟩, hW, hsame.mono (by decide) (by decide)⟩
  · show Steps p.tables e below (s₁.setTop (mkF m 0 #[.val (.int p1)] [])) _
    refine st1 _ ?_
    show Steps p.tables e below (T1.setTop (mkF m 3 #[.val (.int p1)] [(.ref b1)])) _
    refine XS.dup X1.here hx rfl (hb hby d_prog_77_method_2_code_3) rfl rfl ?_
    show Steps p.tables e below (T1.setTop (mkF m 4 #[.val (.int p1)] [(.ref b1), (.ref b1)])) _
    refine XS.iloadN X1.here hx rfl (hb hby d_prog_77_method_2_code_4) rfl ?_
    show Steps p.tables e below (T1.setTop (mkF m 5 #[.val (.int p1)] [(.int p1), (.ref b1), (.ref b1)])) _
    refine XS.iloadN X1.here hx rfl (hb hby d_prog_77_method_2_code_5) rfl ?_
    show Steps p.tables e below (T1.setTop (mkF m 6 #[.val (.int p1)] [(.int p1), (.int p1), (.ref b1), (.ref b1)])) _
    refine XS.dconst0 X1.here hx rfl (hb hby d_prog_77_method_2_code_6) (v := (0 : UInt64)) rfl ?_
    show Steps p.tables e below (T1.setTop (mkF m 7 #[.val (.int p1)] [(.double (0 : UInt64)), (.int p1), (.int p1), (.ref b1), (.ref b1)])) _
    refine st2.trans ?_
    show Steps p.tables e below (T2.setTop (mkF m 10 #[.val (.int p1)] [(.ref b1)])) _
    exact retOut X2 hx (t := (.object "com/example/itinerant/itinerant/spaces/Point")) Bd.returns rfl (Or.inr (Or.inr (Or.inr (Or.inr ⟨rfl, rfl, rfl⟩)))) (hb hby d_prog_77_method_2_code_10) hr
  · show QN Z p1 h0 n0 _ T2.heap _
    exact ⟨b1, rfl, N2, g_b1, KK2, E2q, F2q0, F2q1⟩
def QL (n0 : Nat) (v : Option Value) (h : Heap) (L : List Loc) : Prop := v = some (.int 1) ∧ Fr n0 L
theorem pd___Z : parseMethodDescriptor "()Z" = some ⟨[], some .boolean⟩ := by decide +kernel
theorem pd___D : parseMethodDescriptor "()D" = some ⟨[], some .double⟩ := by decide +kernel
theorem pd__I_Lcom_example_itinerant_itinerant_spaces_Point_ : parseMethodDescriptor "(I)Lcom/example/itinerant/itinerant/spaces/Point;" = some ⟨[.int], some (.object "com/example/itinerant/itinerant/spaces/Point")⟩ := by decide +kernel
theorem pn_com_example_itinerant_itinerant_spaces_PointIsNodePinLaw : plainName "com/example/itinerant/itinerant/spaces/PointIsNodePinLaw" = true := by first | (simp [plainName, overriddenIn]; done) | decide +kernel
theorem ef_code (m : MethodId) (x0 : Int32) (x1 : Int32) (x2 : Int32) (x3 : Int32) : entryFrame m #[(.int x0), (.int x1), (.int x2), (.int x3)] maxLocals = mkF m 0 #[.val (.int x0), .val (.int x1), .val (.int x2), .val (.int x3), .unset, .unset, .unset, .unset, .unset, .unset, .unset, .unset] [] := by first | (simp [entryFrame, mkF, argsToLocals, Value.category, maxLocals]; done) | rfl
set_option maxRecDepth 65536 in
set_option maxHeartbeats 40000000 in
theorem rm01 (l : Launch) (Z : State) (a0 : Array Value) (hw : ∀ d ∈ tables_1, d.before a0 Z = true) (ws : List Jvm.Cond) (pa pb pk pf : Int32) (h0 : Heap) (n0 : Nat) (Z0 : n0 ≤ h0.size)  (hc3 : ¬ ((pf &&& (1 : Int32)) = (0 : Int32))) :
    MetFree l x (head1 (Jvm.Cond.code x code maxLocals ret :: ws) room_1) (fun a U => a = #[(.int pa), (.int pb), (.int pk), (.int pf)] ∧ Z.Warmed39 U.vm ∧ U.heap = h0) (fun _ _ _ _ _ => True) (fun _ U o U' => ∃ v L, o = .returned v ∧ QL n0 v U'.heap L ∧ FrameEnd U o U' L 2 6) := by
  refine MetFree.of_bodySF (plainFor_of_name pn_com_example_itinerant_itinerant_spaces_PointIsNodePinLaw) hisR ?_
  intro p e s m args below meth c s₁ Bd hml0 hP hK
  obtain ⟨rfl, hZ, hh⟩ := hP
  have hx := Bd.exec
  have hby := Bd.bytes
  have hml : c.maxLocals = 12 := hml0
  have hown : s.vm.findClass "com/example/itinerant/itinerant/spaces/PointIsNodePinLaw" = some m.cls := findClass_of_methodNamed Bd.named
  have hnm := (name_of_methodNamed Bd.named Bd.method).1
  have X0 : Stand p l e room_1 s m #[(.int pa), (.int pb), (.int pk), (.int pf)] below meth c s₁ [] 0 0 := Stand.of_body Bd
  have e0 : s₁.heap = h0 := by rw [← hh, Bd.state]; rfl
  have N0 := Fr.nil n0
  have pre0 : ∀ t, Steps p.tables e below (s₁.setTop (mkF m 0 #[.val (.int pa), .val (.int pb), .val (.int pk), .val (.int pf), .unset, .unset, .unset, .unset, .unset, .unset, .unset, .unset] [])) t → Steps p.tables e below (s₁.setTop (entryFrame m #[(.int pa), (.int pb), (.int pk), (.int pf)] maxLocals)) t := fun t k => castTop (ef_code m pa pb pk pf) k
  obtain ⟨T1, h1, X1, e1, E1, A1, D1, -, st1⟩ := newO X0 hx hZ hown (hw _ (List.mem_of_getElem? (i := 0) rfl)) (hw _ (List.mem_of_getElem? (i := 1) rfl)) (hw _ (List.mem_of_getElem? (i := 2) rfl)) e0 (g := (mkF m 57 #[.val (.int pa), .val (.int pb), .val (.int pk), .val (.int pf), .val (.int (1 : Int32)), .val (.int pa), .val (.int (1 : Int32)), .val (.double (0 : UInt64)), .second, .unset, .unset, .unset] [])) rfl (hb hby at_57) (by decide) (by decide)
  obtain ⟨b1, g1⟩ : ∃ z, z = h0.size := ⟨_, rfl⟩
  rw [← g1] at A1 D1 st1
  have g_b1 : n0 ≤ b1 := Nat.le_trans Z0 (Nat.le_of_eq g1.symm)
  have SZ1 := Nat.le_trans Z0 E1.1
  have F1_from : Fld Z h1 b1 "com/example/itinerant/itinerant/spaces/Point" "from" "I" (.int (0 : Int32)) := D1 (Or.inr (hw _ (List.mem_of_getElem? (i := 15) rfl))) (ty := .int) (by decide)
  have F1_to : Fld Z h1 b1 "com/example/itinerant/itinerant/spaces/Point" "to" "I" (.int (0 : Int32)) := D1 (Or.inr (hw _ (List.mem_of_getElem? (i := 17) rfl))) (ty := .int) (by decide)
  have F1_offset : Fld Z h1 b1 "com/example/itinerant/itinerant/spaces/Point" "offset" "D" (.double (0 : UInt64)) := D1 (Or.inr (hw _ (List.mem_of_getElem? (i := 19) rfl))) (ty := .double) (by decide)
  obtain ⟨_, _, ⟨T2, L2, k2, n2⟩, -, X2, ⟨Lc2, hQ2, l2, y2, z2⟩, st2⟩ := X1.specialBack hx (y := (⟨"com/example/itinerant/itinerant/spaces/Point", "<init>", "(IID)V"⟩ : MethodName)) rfl hown (mvT hZ (hw _ (List.mem_of_getElem? (i := 3) rfl))) (mvT hZ (hw _ (List.mem_of_getElem? (i := 4) rfl))) (mvT hZ (hw _ (List.mem_of_getElem? (i := 5) rfl))) (by decide) (backOf (W := 1) (rmIa l Z a0 hw [] b1 pa pa (0 : UInt64) (0 : UInt64) h1 n0 SZ1 A1 F1_from F1_to F1_offset g_b1 (by rw [own_za]; exact own_zn) own_za own_z rfl) hZ (hw _ (List.mem_of_getElem? (i := 5) rfl)) (hw _ (List.mem_of_getElem? (i := 2) rfl)) (by decide) (by decide)) (g := (mkF m 66 #[.val (.int pa), .val (.int pb), .val (.int pk), .val (.int pf), .val (.int (1 : Int32)), .val (.int pa), .val (.int (1 : Int32)), .val (.double (0 : UInt64)), .second, .unset, .unset, .unset] [(.double (0 : UInt64)), (.int pa), (.int pa), (.ref b1), (.ref b1)])) rfl (by rw [hml]; rfl) (Steps.refl _) (a := b1) (argsL := [(.int pa), (.int pa), (.double (0 : UInt64))]) (rest := [(.ref b1)]) (lenOf pd__IID_V rfl) rfl (by show 2 * 0 + _ ≤ _; exact Nat.le_of_eq rfl) (hb hby at_66) (fun _ _ => ⟨rfl, e1, (by decide : 1 + 0 ≤ _), (by decide : 3 + 0 ≤ _)⟩)
  dsimp only [Pt.U, Pt.locs, Pt.cells, Pt.slots] at X2 l2 y2 z2 st2 hQ2
  subst l2 y2 z2
  obtain ⟨rfl, N2q, K2q, E2q, F2q0, F2q1, F2q2⟩ := hQ2
  have c2_0 := A1.keep K2q
  have SZ2 := Nat.le_trans SZ1 K2q.1
  have N2 := Fr.app N0 N2q
  obtain ⟨cq3, kq3, q3a, q3b, q3c⟩ := isOf hZ rfl E2q
  obtain ⟨_, _, ⟨T3, L3, k3, n3⟩, -, X3, ⟨Lc3, hQ3, l3, y3, z3⟩, st3⟩ := X2.virtualBack hx (y := (⟨"com/example/itinerant/itinerant/spaces/Point", "isNode", "()Z"⟩ : MethodName)) (z := (⟨"com/example/itinerant/itinerant/spaces/Point", "isNode", "()Z"⟩ : MethodName)) hown (mvT hZ (hw _ (List.mem_of_getElem? (i := 20) rfl))) (mvT hZ (hw _ (List.mem_of_getElem? (i := 21) rfl))) (notFace_of_selects (args := #[]) (mvT hZ (hw _ (List.mem_of_getElem? (i := 23) rfl)))) (mvT hZ (hw _ (List.mem_of_getElem? (i := 23) rfl))) (mvT hZ (hw _ (List.mem_of_getElem? (i := 22) rfl))) (by decide) (backOf (W := 0) (rmNt l Z a0 hw [] b1 pa pa T2.heap n0 SZ2 F2q0 F2q1 rfl) hZ (hw _ (List.mem_of_getElem? (i := 24) rfl)) (hw _ (List.mem_of_getElem? (i := 2) rfl)) (by decide) (by decide)) q3a q3c (g := (mkF m 73 #[.val (.int pa), .val (.int pb), .val (.int pk), .val (.int pf), .val (.int (1 : Int32)), .val (.int pa), .val (.int (1 : Int32)), .val (.double (0 : UInt64)), .second, .val (.ref b1), .unset, .unset] [(.ref b1)])) rfl (by rw [hml]; rfl) (Steps.refl _) (argsL := []) (rest := []) (lenOf pd___Z rfl) rfl (by show 2 * 0 + _ ≤ _; exact Nat.le_of_eq rfl) (hb hby at_73) (fun _ _ => ⟨rfl, rfl, (by decide : 1 + 0 ≤ _), (by decide : 3 + 0 ≤ _)⟩)
  dsimp only [Pt.U, Pt.locs, Pt.cells, Pt.slots] at X3 l3 y3 z3 st3 hQ3
  subst l3 y3 z3
  obtain ⟨rfl, N3q, eq3⟩ := hQ3
  have N3 := Fr.app N2 N3q
  obtain ⟨cq4, kq4, q4a, q4b, q4c⟩ := isOf hZ eq3 E2q
  obtain ⟨_, _, ⟨T4, L4, k4, n4⟩, -, X4, ⟨Lc4, hQ4, l4, y4, z4⟩, st4⟩ := X3.virtualBack hx (y := (⟨"com/example/itinerant/itinerant/spaces/Point", "offset", "()D"⟩ : MethodName)) (z := (⟨"com/example/itinerant/itinerant/spaces/Point", "offset", "()D"⟩ : MethodName)) hown (mvT hZ (hw _ (List.mem_of_getElem? (i := 25) rfl))) (mvT hZ (hw _ (List.mem_of_getElem? (i := 26) rfl))) (notFace_of_selects (args := #[]) (mvT hZ (hw _ (List.mem_of_getElem? (i := 28) rfl)))) (mvT hZ (hw _ (List.mem_of_getElem? (i := 28) rfl))) (mvT hZ (hw _ (List.mem_of_getElem? (i := 27) rfl))) (by decide) (backOf (W := 1) (rmO l Z a0 hw [] b1 (0 : UInt64) T2.heap n0 SZ2 F2q2) hZ (hw _ (List.mem_of_getElem? (i := 29) rfl)) (hw _ (List.mem_of_getElem? (i := 2) rfl)) (by decide) (by decide)) q4a q4c (g := (mkF m 91 #[.val (.int pa), .val (.int pb), .val (.int pk), .val (.int pf), .val (.int (1 : Int32)), .val (.int pa), .val (.int (1 : Int32)), .val (.double (0 : UInt64)), .second, .val (.ref b1), .val (.int (1 : Int32)), .unset] [(.ref b1), (.int (1 : Int32))])) rfl (by rw [hml]; rfl) (Steps.refl _) (argsL := []) (rest := [(.int (1 : Int32))]) (lenOf pd___D rfl) rfl (by show 2 * 0 + _ ≤ _; exact Nat.le_of_eq rfl) (hb hby at_91) (fun _ _ => ⟨rfl, eq3, (by decide : 1 + 0 ≤ _), (by decide : 3 + 0 ≤ _)⟩)
  dsimp only [Pt.U, Pt.locs, Pt.cells, Pt.slots] at X4 l4 y4 z4 st4 hQ4
  subst l4 y4 z4
  obtain ⟨rfl, N4q, eq4⟩ := hQ4
  have N4 := Fr.app N3 N4q
  obtain ⟨_, _, ⟨T5, L5, k5, n5⟩, -, X5, ⟨Lc5, hQ5, l5, y5, z5⟩, st5⟩ := Jvm.LawKit.callS X4 hx (y := (⟨"com/example/itinerant/itinerant/spaces/Point", "node", "(I)Lcom/example/itinerant/itinerant/spaces/Point;"⟩ : MethodName)) hown (mvT hZ (hw _ (List.mem_of_getElem? (i := 30) rfl))) (mvT hZ (hw _ (List.mem_of_getElem? (i := 31) rfl))) (mvT hZ (hw _ (List.mem_of_getElem? (i := 2) rfl))) (mvT hZ (hw _ (List.mem_of_getElem? (i := 32) rfl))) (by decide) (backOf (W := 0) (rmM l Z a0 hw [] pb T2.heap n0 SZ2) hZ (hw _ (List.mem_of_getElem? (i := 32) rfl)) (hw _ (List.mem_of_getElem? (i := 2) rfl)) (by decide) (by decide)) (g := (mkF m 110 #[.val (.int pa), .val (.int pb), .val (.int pk), .val (.int pf), .val (.int (1 : Int32)), .val (.int pa), .val (.int (1 : Int32)), .val (.double (0 : UInt64)), .second, .val (.ref b1), .val (.int (1 : Int32)), .unset] [(.int pb)])) rfl (by rw [hml]; rfl) (argsL := [(.int pb)]) (rest := []) (lenOf pd__I_Lcom_example_itinerant_itinerant_spaces_Point_ rfl) rfl (by show 2 * 0 + _ ≤ _; exact Nat.le_of_eq rfl) (hb hby at_110) (fun _ _ => ⟨rfl, eq4, (by decide : 1 + 1 ≤ _), (by decide : 3 + 3 ≤ _)⟩)
  dsimp only [Pt.U, Pt.locs, Pt.cells, Pt.slots] at X5 l5 y5 z5 st5 hQ5
  subst l5 y5 z5
  obtain ⟨n_5, rfl, N5q, g_n_5, K5q, E5q, F5q0, F5q1⟩ := hQ5
  have c5_0 := E2q.keep K5q
  have c5_1 := F2q0.keep K5q List.not_mem_nil
  have c5_2 := F2q1.keep K5q List.not_mem_nil
  have c5_3 := F2q2.keep K5q List.not_mem_nil
  have SZ5 := Nat.le_trans SZ2 K5q.1
  have N5 := Fr.app N4 N5q
  obtain ⟨cq6, kq6, q6a, q6b, q6c⟩ := isOf hZ rfl E5q
  obtain ⟨_, _, ⟨T6, L6, k6, n6⟩, -, X6, ⟨Lc6, hQ6, l6, y6, z6⟩, st6⟩ := X5.virtualBack hx (y := (⟨"com/example/itinerant/itinerant/spaces/Point", "isNode", "()Z"⟩ : MethodName)) (z := (⟨"com/example/itinerant/itinerant/spaces/Point", "isNode", "()Z"⟩ : MethodName)) hown (mvT hZ (hw _ (List.mem_of_getElem? (i := 20) rfl))) (mvT hZ (hw _ (List.mem_of_getElem? (i := 21) rfl))) (notFace_of_selects (args := #[]) (mvT hZ (hw _ (List.mem_of_getElem? (i := 23) rfl)))) (mvT hZ (hw _ (List.mem_of_getElem? (i := 23) rfl))) (mvT hZ (hw _ (List.mem_of_getElem? (i := 22) rfl))) (by decide) (backOf (W := 0) (rmNt l Z a0 hw [] n_5 pb pb T5.heap n0 SZ5 F5q0 F5q1 rfl) hZ (hw _ (List.mem_of_getElem? (i := 24) rfl)) (hw _ (List.mem_of_getElem? (i := 2) rfl)) (by decide) (by decide)) q6a q6c (g := (mkF m 117 #[.val (.int pa), .val (.int pb), .val (.int pk), .val (.int pf), .val (.int (1 : Int32)), .val (.int pa), .val (.int (1 : Int32)), .val (.double (0 : UInt64)), .second, .val (.ref b1), .val (.int (1 : Int32)), .val (.ref n_5)] [(.ref n_5)])) rfl (by rw [hml]; rfl) (Steps.refl _) (argsL := []) (rest := []) (lenOf pd___Z rfl) rfl (by show 2 * 0 + _ ≤ _; exact Nat.le_of_eq rfl) (hb hby at_117) (fun _ _ => ⟨rfl, rfl, (by decide : 2 + 0 ≤ _), (by decide : 6 + 0 ≤ _)⟩)
  dsimp only [Pt.U, Pt.locs, Pt.cells, Pt.slots] at X6 l6 y6 z6 st6 hQ6
  subst l6 y6 z6
  obtain ⟨rfl, N6q, eq6⟩ := hQ6
  have N6 := Fr.app N5 N6q
  obtain ⟨fs, hr, hrun, hended, hW, hsame⟩ := X6.leave (v := some (.int (1 : Int32))) (fun h => by rw [Bd.returns] at h; cases h)
  refine ⟨_, _, pre0 _ ?_, hrun, hended, _, _, rfl, ?_, ⟨_, rfl⟩, hW, hsame.mono (by decide) (by decide)⟩
  · show Steps p.tables e below (s₁.setTop (mkF m 0 #[.val (.int pa), .val (.int pb), .val (.int pk), .val (.int pf), .unset, .unset, .unset, .unset, .unset, .unset, .unset, .unset] [])) _
    refine XS.iloadN X0.here hx rfl (hb hby at_0) rfl ?_
    show Steps p.tables e below (s₁.setTop (mkF m 1 #[.val (.int pa), .val (.int pb), .val (.int pk), .val (.int pf), .unset, .unset, .unset, .unset, .unset, .unset, .unset, .unset] [(.int pf)])) _
    refine XS.iconst X0.here hx rfl (hb hby at_1) ?_
    show Steps p.tables e below (s₁.setTop (mkF m 2 #[.val (.int pa), .val (.int pb), .val (.int pk), .val (.int pf), .unset, .unset, .unset, .unset, .unset, .unset, .unset, .unset] [(.int (1 : Int32)), (.int pf)])) _
    refine XS.iand X0.here hx rfl (hb hby at_2) rfl ?_
    show Steps p.tables e below (s₁.setTop (mkF m 3 #[.val (.int pa), .val (.int pb), .val (.int pk), .val (.int pf), .unset, .unset, .unset, .unset, .unset, .unset, .unset, .unset] [(.int (pf &&& (1 : Int32)))])) _
    refine XS.ifNo X0.here hx rfl (hb hby at_3) rfl ((if0 _ _).trans (feq (hc3 : ¬ ((pf &&& (1 : Int32)) = (0 : Int32)))).1) ?_
    show Steps p.tables e below (s₁.setTop (mkF m 6 #[.val (.int pa), .val (.int pb), .val (.int pk), .val (.int pf), .unset, .unset, .unset, .unset, .unset, .unset, .unset, .unset] [])) _
    refine XS.iconst X0.here hx rfl (hb hby at_6) ?_
    show Steps p.tables e below (s₁.setTop (mkF m 7 #[.val (.int pa), .val (.int pb), .val (.int pk), .val (.int pf), .unset, .unset, .unset, .unset, .unset, .unset, .unset, .unset] [(.int (1 : Int32))])) _
    refine XS.goto X0.here hx rfl (pc0 := 7) (pc' := 11) rfl (hb hby at_7) (by decide) (by decide) ?_
    show Steps p.tables e below (s₁.setTop (mkF m 11 #[.val (.int pa), .val (.int pb), .val (.int pk), .val (.int pf), .unset, .unset, .unset, .unset, .unset, .unset, .unset, .unset] [(.int (1 : Int32))])) _
    refine XS.istore X0.here hx rfl (hb hby at_11) rfl (l' := #[.val (.int pa), .val (.int pb), .val (.int pk), .val (.int pf), .val (.int (1 : Int32)), .unset, .unset, .unset, .unset, .unset, .unset, .unset]) rfl ?_
    show Steps p.tables e below (s₁.setTop (mkF m 13 #[.val (.int pa), .val (.int pb), .val (.int pk), .val (.int pf), .val (.int (1 : Int32)), .unset, .unset, .unset, .unset, .unset, .unset, .unset] [])) _
    refine XS.iload X0.here hx rfl (hb hby at_13) rfl ?_
    show Steps p.tables e below (s₁.setTop (mkF m 15 #[.val (.int pa), .val (.int pb), .val (.int pk), .val (.int pf), .val (.int (1 : Int32)), .unset, .unset, .unset, .unset, .unset, .unset, .unset] [(.int (1 : Int32))])) _
    refine XS.ifNo X0.here hx rfl (hb hby at_15) rfl ((if0 _ _).trans (feq (by decide : ¬ ((1 : Int32) = (0 : Int32)))).1) ?_
    show Steps p.tables e below (s₁.setTop (mkF m 18 #[.val (.int pa), .val (.int pb), .val (.int pk), .val (.int pf), .val (.int (1 : Int32)), .unset, .unset, .unset, .unset, .unset, .unset, .unset] [])) _
    refine XS.iloadN X0.here hx rfl (hb hby at_18) rfl ?_
    show Steps p.tables e below (s₁.setTop (mkF m 19 #[.val (.int pa), .val (.int pb), .val (.int pk), .val (.int pf), .val (.int (1 : Int32)), .unset, .unset, .unset, .unset, .unset, .unset, .unset] [(.int pa)])) _
    refine XS.goto X0.here hx rfl (pc0 := 19) (pc' := 23) rfl (hb hby at_19) (by decide) (by decide) ?_
    show Steps p.tables e below (s₁.setTop (mkF m 23 #[.val (.int pa), .val (.int pb), .val (.int pk), .val (.int pf), .val (.int (1 : Int32)), .unset, .unset, .unset, .unset, .unset, .unset, .unset] [(.int pa)])) _
    refine XS.istore X0.here hx rfl (hb hby at_23) rfl (l' := #[.val (.int pa), .val (.int pb), .val (.int pk), .val (.int pf), .val (.int (1 : Int32)), .val (.int pa), .unset, .unset, .unset, .unset, .unset, .unset]) rfl ?_
    show Steps p.tables e below (s₁.setTop (mkF m 25 #[.val (.int pa), .val (.int pb), .val (.int pk), .val (.int pf), .val (.int (1 : Int32)), .val (.int pa), .unset, .unset, .unset, .unset, .unset, .unset] [])) _
    refine XS.iloadN X0.here hx rfl (hb hby at_25) rfl ?_
    show Steps p.tables e below (s₁.setTop (mkF m 26 #[.val (.int pa), .val (.int pb), .val (.int pk), .val (.int pf), .val (.int (1 : Int32)), .val (.int pa), .unset, .unset, .unset, .unset, .unset, .unset] [(.int pa)])) _
    refine XS.iload X0.here hx rfl (hb hby at_26) rfl ?_
    show Steps p.tables e below (s₁.setTop (mkF m 28 #[.val (.int pa), .val (.int pb), .val (.int pk), .val (.int pf), .val (.int (1 : Int32)), .val (.int pa), .unset, .unset, .unset, .unset, .unset, .unset] [(.int pa), (.int pa)])) _
    refine XS.icmpNo X0.here hx rfl (hb hby at_28) rfl (teq (rfl : pa = pa)).2 ?_
    show Steps p.tables e below (s₁.setTop (mkF m 31 #[.val (.int pa), .val (.int pb), .val (.int pk), .val (.int pf), .val (.int (1 : Int32)), .val (.int pa), .unset, .unset, .unset, .unset, .unset, .unset] [])) _
    refine XS.iconst X0.here hx rfl (hb hby at_31) ?_
    show Steps p.tables e below (s₁.setTop (mkF m 32 #[.val (.int pa), .val (.int pb), .val (.int pk), .val (.int pf), .val (.int (1 : Int32)), .val (.int pa), .unset, .unset, .unset, .unset, .unset, .unset] [(.int (1 : Int32))])) _
    refine XS.goto X0.here hx rfl (pc0 := 32) (pc' := 36) rfl (hb hby at_32) (by decide) (by decide) ?_
    show Steps p.tables e below (s₁.setTop (mkF m 36 #[.val (.int pa), .val (.int pb), .val (.int pk), .val (.int pf), .val (.int (1 : Int32)), .val (.int pa), .unset, .unset, .unset, .unset, .unset, .unset] [(.int (1 : Int32))])) _
    refine XS.istore X0.here hx rfl (hb hby at_36) rfl (l' := #[.val (.int pa), .val (.int pb), .val (.int pk), .val (.int pf), .val (.int (1 : Int32)), .val (.int pa), .val (.int (1 : Int32)), .unset, .unset, .unset, .unset, .unset]) rfl ?_
    show Steps p.tables e below (s₁.setTop (mkF m 38 #[.val (.int pa), .val (.int pb), .val (.int pk), .val (.int pf), .val (.int (1 : Int32)), .val (.int pa), .val (.int (1 : Int32)), .unset, .unset, .unset, .unset, .unset] [])) _
    refine XS.iload X0.here hx rfl (hb hby at_38) rfl ?_
    show Steps p.tables e below (s₁.setTop (mkF m 40 #[.val (.int pa), .val (.int pb), .val (.int pk), .val (.int pf), .val (.int (1 : Int32)), .val (.int pa), .val (.int (1 : Int32)), .unset, .unset, .unset, .unset, .unset] [(.int (1 : Int32))])) _
    refine XS.ifNo X0.here hx rfl (hb hby at_40) rfl ((if0 _ _).trans (feq (by decide : ¬ ((1 : Int32) = (0 : Int32)))).1) ?_
    show Steps p.tables e below (s₁.setTop (mkF m 43 #[.val (.int pa), .val (.int pb), .val (.int pk), .val (.int pf), .val (.int (1 : Int32)), .val (.int pa), .val (.int (1 : Int32)), .unset, .unset, .unset, .unset, .unset] [])) _
    refine XS.dconst0 X0.here hx rfl (hb hby at_43) (v := (0 : UInt64)) rfl ?_
    show Steps p.tables e below (s₁.setTop (mkF m 44 #[.val (.int pa), .val (.int pb), .val (.int pk), .val (.int pf), .val (.int (1 : Int32)), .val (.int pa), .val (.int (1 : Int32)), .unset, .unset, .unset, .unset, .unset] [(.double (0 : UInt64))])) _
    refine XS.goto X0.here hx rfl (pc0 := 44) (pc' := 55) rfl (hb hby at_44) (by decide) (by decide) ?_
    show Steps p.tables e below (s₁.setTop (mkF m 55 #[.val (.int pa), .val (.int pb), .val (.int pk), .val (.int pf), .val (.int (1 : Int32)), .val (.int pa), .val (.int (1 : Int32)), .unset, .unset, .unset, .unset, .unset] [(.double (0 : UInt64))])) _
    refine XS.dstore X0.here hx rfl (hb hby at_55) rfl (l' := #[.val (.int pa), .val (.int pb), .val (.int pk), .val (.int pf), .val (.int (1 : Int32)), .val (.int pa), .val (.int (1 : Int32)), .val (.double (0 : UInt64)), .second, .unset, .unset, .unset]) rfl ?_
    show Steps p.tables e below (s₁.setTop (mkF m 57 #[.val (.int pa), .val (.int pb), .val (.int pk), .val (.int pf), .val (.int (1 : Int32)), .val (.int pa), .val (.int (1 : Int32)), .val (.double (0 : UInt64)), .second, .unset, .unset, .unset] [])) _
    refine st1 _ ?_
    show Steps p.tables e below (T1.setTop (mkF m 60 #[.val (.int pa), .val (.int pb), .val (.int pk), .val (.int pf), .val (.int (1 : Int32)), .val (.int pa), .val (.int (1 : Int32)), .val (.double (0 : UInt64)), .second, .unset, .unset, .unset] [(.ref b1)])) _
    refine XS.dup X1.here hx rfl (hb hby at_60) rfl rfl ?_
    show Steps p.tables e below (T1.setTop (mkF m 61 #[.val (.int pa), .val (.int pb), .val (.int pk), .val (.int pf), .val (.int (1 : Int32)), .val (.int pa), .val (.int (1 : Int32)), .val (.double (0 : UInt64)), .second, .unset, .unset, .unset] [(.ref b1), (.ref b1)])) _
    refine XS.iloadN X1.here hx rfl (hb hby at_61) rfl ?_
    show Steps p.tables e below (T1.setTop (mkF m 62 #[.val (.int pa), .val (.int pb), .val (.int pk), .val (.int pf), .val (.int (1 : Int32)), .val (.int pa), .val (.int (1 : Int32)), .val (.double (0 : UInt64)), .second, .unset, .unset, .unset] [(.int pa), (.ref b1), (.ref b1)])) _
    refine XS.iload X1.here hx rfl (hb hby at_62) rfl ?_
    show Steps p.tables e below (T1.setTop (mkF m 64 #[.val (.int pa), .val (.int pb), .val (.int pk), .val (.int pf), .val (.int (1 : Int32)), .val (.int pa), .val (.int (1 : Int32)), .val (.double (0 : UInt64)), .second, .unset, .unset, .unset] [(.int pa), (.int pa), (.ref b1), (.ref b1)])) _
    refine XS.dload X1.here hx rfl (hb hby at_64) rfl ?_
    show Steps p.tables e below (T1.setTop (mkF m 66 #[.val (.int pa), .val (.int pb), .val (.int pk), .val (.int pf), .val (.int (1 : Int32)), .val (.int pa), .val (.int (1 : Int32)), .val (.double (0 : UInt64)), .second, .unset, .unset, .unset] [(.double (0 : UInt64)), (.int pa), (.int pa), (.ref b1), (.ref b1)])) _
    refine st2.trans ?_
    show Steps p.tables e below (T2.setTop (mkF m 69 #[.val (.int pa), .val (.int pb), .val (.int pk), .val (.int pf), .val (.int (1 : Int32)), .val (.int pa), .val (.int (1 : Int32)), .val (.double (0 : UInt64)), .second, .unset, .unset, .unset] [(.ref b1)])) _
    refine XS.astore X2.here hx rfl (hb hby at_69) rfl rfl (l' := #[.val (.int pa), .val (.int pb), .val (.int pk), .val (.int pf), .val (.int (1 : Int32)), .val (.int pa), .val (.int (1 : Int32)), .val (.double (0 : UInt64)), .second, .val (.ref b1), .unset, .unset]) rfl ?_
    show Steps p.tables e below (T2.setTop (mkF m 71 #[.val (.int pa), .val (.int pb), .val (.int pk), .val (.int pf), .val (.int (1 : Int32)), .val (.int pa), .val (.int (1 : Int32)), .val (.double (0 : UInt64)), .second, .val (.ref b1), .unset, .unset] [])) _
    refine XS.aload X2.here hx rfl (hb hby at_71) rfl rfl ?_
    show Steps p.tables e below (T2.setTop (mkF m 73 #[.val (.int pa), .val (.int pb), .val (.int pk), .val (.int pf), .val (.int (1 : Int32)), .val (.int pa), .val (.int (1 : Int32)), .val (.double (0 : UInt64)), .second, .val (.ref b1), .unset, .unset] [(.ref b1)])) _
    refine st3.trans ?_
    show Steps p.tables e below (T3.setTop (mkF m 76 #[.val (.int pa), .val (.int pb), .val (.int pk), .val (.int pf), .val (.int (1 : Int32)), .val (.int pa), .val (.int (1 : Int32)), .val (.double (0 : UInt64)), .second, .val (.ref b1), .unset, .unset] [(.int (1 : Int32))])) _
    refine XS.istore X3.here hx rfl (hb hby at_76) rfl (l' := #[.val (.int pa), .val (.int pb), .val (.int pk), .val (.int pf), .val (.int (1 : Int32)), .val (.int pa), .val (.int (1 : Int32)), .val (.double (0 : UInt64)), .second, .val (.ref b1), .val (.int (1 : Int32)), .unset]) rfl ?_
    show Steps p.tables e below (T3.setTop (mkF m 78 #[.val (.int pa), .val (.int pb), .val (.int pk), .val (.int pf), .val (.int (1 : Int32)), .val (.int pa), .val (.int (1 : Int32)), .val (.double (0 : UInt64)), .second, .val (.ref b1), .val (.int (1 : Int32)), .unset] [])) _
    refine XS.iload X3.here hx rfl (hb hby at_78) rfl ?_
    show Steps p.tables e below (T3.setTop (mkF m 80 #[.val (.int pa), .val (.int pb), .val (.int pk), .val (.int pf), .val (.int (1 : Int32)), .val (.int pa), .val (.int (1 : Int32)), .val (.double (0 : UInt64)), .second, .val (.ref b1), .val (.int (1 : Int32)), .unset] [(.int (1 : Int32))])) _
    refine XS.iload X3.here hx rfl (hb hby at_80) rfl ?_
    show Steps p.tables e below (T3.setTop (mkF m 82 #[.val (.int pa), .val (.int pb), .val (.int pk), .val (.int pf), .val (.int (1 : Int32)), .val (.int pa), .val (.int (1 : Int32)), .val (.double (0 : UInt64)), .second, .val (.ref b1), .val (.int (1 : Int32)), .unset] [(.int (1 : Int32)), (.int (1 : Int32))])) _
    refine XS.icmpYes X3.here hx rfl (pc0 := 82) (pc' := 87) rfl (hb hby at_82) rfl (teq (by decide : (1 : Int32) = (1 : Int32))).1 (by decide) (by decide) ?_
    show Steps p.tables e below (T3.setTop (mkF m 87 #[.val (.int pa), .val (.int pb), .val (.int pk), .val (.int pf), .val (.int (1 : Int32)), .val (.int pa), .val (.int (1 : Int32)), .val (.double (0 : UInt64)), .second, .val (.ref b1), .val (.int (1 : Int32)), .unset] [])) _
    refine XS.iload X3.here hx rfl (hb hby at_87) rfl ?_
    show Steps p.tables e below (T3.setTop (mkF m 89 #[.val (.int pa), .val (.int pb), .val (.int pk), .val (.int pf), .val (.int (1 : Int32)), .val (.int pa), .val (.int (1 : Int32)), .val (.double (0 : UInt64)), .second, .val (.ref b1), .val (.int (1 : Int32)), .unset] [(.int (1 : Int32))])) _
    refine XS.aload X3.here hx rfl (hb hby at_89) rfl rfl ?_
    show Steps p.tables e below (T3.setTop (mkF m 91 #[.val (.int pa), .val (.int pb), .val (.int pk), .val (.int pf), .val (.int (1 : Int32)), .val (.int pa), .val (.int (1 : Int32)), .val (.double (0 : UInt64)), .second, .val (.ref b1), .val (.int (1 : Int32)), .unset] [(.ref b1), (.int (1 : Int32))])) _
    refine st4.trans ?_
    show Steps p.tables e below (T4.setTop (mkF m 94 #[.val (.int pa), .val (.int pb), .val (.int pk), .val (.int pf), .val (.int (1 : Int32)), .val (.int pa), .val (.int (1 : Int32)), .val (.double (0 : UInt64)), .second, .val (.ref b1), .val (.int (1 : Int32)), .unset] [(.double (0 : UInt64)), (.int (1 : Int32))])) _
    refine XS.dconst0 X4.here hx rfl (hb hby at_94) (v := (0 : UInt64)) rfl ?_
    show Steps p.tables e below (T4.setTop (mkF m 95 #[.val (.int pa), .val (.int pb), .val (.int pk), .val (.int pf), .val (.int (1 : Int32)), .val (.int pa), .val (.int (1 : Int32)), .val (.double (0 : UInt64)), .second, .val (.ref b1), .val (.int (1 : Int32)), .unset] [(.double (0 : UInt64)), (.double (0 : UInt64)), (.int (1 : Int32))])) _
    refine XS.dcmpS X4.here hx rfl (hb hby at_95) rfl (v := (0 : Int32)) (own_z) ?_
    show Steps p.tables e below (T4.setTop (mkF m 96 #[.val (.int pa), .val (.int pb), .val (.int pk), .val (.int pf), .val (.int (1 : Int32)), .val (.int pa), .val (.int (1 : Int32)), .val (.double (0 : UInt64)), .second, .val (.ref b1), .val (.int (1 : Int32)), .unset] [(.int (0 : Int32)), (.int (1 : Int32))])) _
    refine XS.ifNo X4.here hx rfl (hb hby at_96) rfl ((if0 _ _).trans (teq (by decide : (0 : Int32) = (0 : Int32))).2) ?_
    show Steps p.tables e below (T4.setTop (mkF m 99 #[.val (.int pa), .val (.int pb), .val (.int pk), .val (.int pf), .val (.int (1 : Int32)), .val (.int pa), .val (.int (1 : Int32)), .val (.double (0 : UInt64)), .second, .val (.ref b1), .val (.int (1 : Int32)), .unset] [(.int (1 : Int32))])) _
    refine XS.iconst X4.here hx rfl (hb hby at_99) ?_
    show Steps p.tables e below (T4.setTop (mkF m 100 #[.val (.int pa), .val (.int pb), .val (.int pk), .val (.int pf), .val (.int (1 : Int32)), .val (.int pa), .val (.int (1 : Int32)), .val (.double (0 : UInt64)), .second, .val (.ref b1), .val (.int (1 : Int32)), .unset] [(.int (1 : Int32)), (.int (1 : Int32))])) _
    refine XS.goto X4.here hx rfl (pc0 := 100) (pc' := 104) rfl (hb hby at_100) (by decide) (by decide) ?_
    show Steps p.tables e below (T4.setTop (mkF m 104 #[.val (.int pa), .val (.int pb), .val (.int pk), .val (.int pf), .val (.int (1 : Int32)), .val (.int pa), .val (.int (1 : Int32)), .val (.double (0 : UInt64)), .second, .val (.ref b1), .val (.int (1 : Int32)), .unset] [(.int (1 : Int32)), (.int (1 : Int32))])) _
    refine XS.icmpYes X4.here hx rfl (pc0 := 104) (pc' := 109) rfl (hb hby at_104) rfl (teq (by decide : (1 : Int32) = (1 : Int32))).1 (by decide) (by decide) ?_
    show Steps p.tables e below (T4.setTop (mkF m 109 #[.val (.int pa), .val (.int pb), .val (.int pk), .val (.int pf), .val (.int (1 : Int32)), .val (.int pa), .val (.int (1 : Int32)), .val (.double (0 : UInt64)), .second, .val (.ref b1), .val (.int (1 : Int32)), .unset] [])) _
    refine XS.iloadN X4.here hx rfl (hb hby at_109) rfl ?_
    show Steps p.tables e below (T4.setTop (mkF m 110 #[.val (.int pa), .val (.int pb), .val (.int pk), .val (.int pf), .val (.int (1 : Int32)), .val (.int pa), .val (.int (1 : Int32)), .val (.double (0 : UInt64)), .second, .val (.ref b1), .val (.int (1 : Int32)), .unset] [(.int pb)])) _
    refine st5 _ ?_
    show Steps p.tables e below (T5.setTop (mkF m 113 #[.val (.int pa), .val (.int pb), .val (.int pk), .val (.int pf), .val (.int (1 : Int32)), .val (.int pa), .val (.int (1 : Int32)), .val (.double (0 : UInt64)), .second, .val (.ref b1), .val (.int (1 : Int32)), .unset] [(.ref n_5)])) _
    refine XS.astore X5.here hx rfl (hb hby at_113) rfl rfl (l' := #[.val (.int pa), .val (.int pb), .val (.int pk), .val (.int pf), .val (.int (1 : Int32)), .val (.int pa), .val (.int (1 : Int32)), .val (.double (0 : UInt64)), .second, .val (.ref b1), .val (.int (1 : Int32)), .val (.ref n_5)]) rfl ?_
    show Steps p.tables e below (T5.setTop (mkF m 115 #[.val (.int pa), .val (.int pb), .val (.int pk), .val (.int pf), .val (.int (1 : Int32)), .val (.int pa), .val (.int (1 : Int32)), .val (.double (0 : UInt64)), .second, .val (.ref b1), .val (.int (1 : Int32)), .val (.ref n_5)] [])) _
    refine XS.aload X5.here hx rfl (hb hby at_115) rfl rfl ?_
    show Steps p.tables e below (T5.setTop (mkF m 117 #[.val (.int pa), .val (.int pb), .val (.int pk), .val (.int pf), .val (.int (1 : Int32)), .val (.int pa), .val (.int (1 : Int32)), .val (.double (0 : UInt64)), .second, .val (.ref b1), .val (.int (1 : Int32)), .val (.ref n_5)] [(.ref n_5)])) _
    refine st6.trans ?_
    show Steps p.tables e below (T6.setTop (mkF m 120 #[.val (.int pa), .val (.int pb), .val (.int pk), .val (.int pf), .val (.int (1 : Int32)), .val (.int pa), .val (.int (1 : Int32)), .val (.double (0 : UInt64)), .second, .val (.ref b1), .val (.int (1 : Int32)), .val (.ref n_5)] [(.int (1 : Int32))])) _
    exact retN X6 hx (t := .boolean) Bd.returns (by simp) (hb hby at_120) hr
  · show QL n0 _ T6.heap _
    rw [eq6]
    exact ⟨rfl, N6⟩
set_option maxRecDepth 65536 in
set_option maxHeartbeats 40000000 in
theorem rm02 (l : Launch) (Z : State) (a0 : Array Value) (hw : ∀ d ∈ tables_1, d.before a0 Z = true) (ws : List Jvm.Cond) (pa pb pk pf : Int32) (h0 : Heap) (n0 : Nat) (Z0 : n0 ≤ h0.size) (hab : pa = pb) (hc3 : (pf &&& (1 : Int32)) = (0 : Int32)) :
    MetFree l x (head1 (Jvm.Cond.code x code maxLocals ret :: ws) room_1) (fun a U => a = #[(.int pa), (.int pb), (.int pk), (.int pf)] ∧ Z.Warmed39 U.vm ∧ U.heap = h0) (fun _ _ _ _ _ => True) (fun _ U o U' => ∃ v L, o = .returned v ∧ QL n0 v U'.heap L ∧ FrameEnd U o U' L 2 6) := by
  refine MetFree.of_bodySF (plainFor_of_name pn_com_example_itinerant_itinerant_spaces_PointIsNodePinLaw) hisR ?_
  intro p e s m args below meth c s₁ Bd hml0 hP hK
  obtain ⟨rfl, hZ, hh⟩ := hP
  have hx := Bd.exec
  have hby := Bd.bytes
  have hml : c.maxLocals = 12 := hml0
  have hown : s.vm.findClass "com/example/itinerant/itinerant/spaces/PointIsNodePinLaw" = some m.cls := findClass_of_methodNamed Bd.named
  have hnm := (name_of_methodNamed Bd.named Bd.method).1
  have X0 : Stand p l e room_1 s m #[(.int pa), (.int pb), (.int pk), (.int pf)] below meth c s₁ [] 0 0 := Stand.of_body Bd
  have e0 : s₁.heap = h0 := by rw [← hh, Bd.state]; rfl
  have N0 := Fr.nil n0
  have pre0 : ∀ t, Steps p.tables e below (s₁.setTop (mkF m 0 #[.val (.int pa), .val (.int pb), .val (.int pk), .val (.int pf), .unset, .unset, .unset, .unset, .unset, .unset, .unset, .unset] [])) t → Steps p.tables e below (s₁.setTop (entryFrame m #[(.int pa), (.int pb), (.int pk), (.int pf)] maxLocals)) t := fun t k => castTop (ef_code m pa pb pk pf) k
  obtain ⟨T1, h1, X1, e1, E1, A1, D1, -, st1⟩ := newO X0 hx hZ hown (hw _ (List.mem_of_getElem? (i := 0) rfl)) (hw _ (List.mem_of_getElem? (i := 1) rfl)) (hw _ (List.mem_of_getElem? (i := 2) rfl)) e0 (g := (mkF m 57 #[.val (.int pa), .val (.int pb), .val (.int pk), .val (.int pf), .val (.int (0 : Int32)), .val (.int pb), .val (.int (1 : Int32)), .val (.double (0 : UInt64)), .second, .unset, .unset, .unset] [])) rfl (hb hby at_57) (by decide) (by decide)
  obtain ⟨b1, g1⟩ : ∃ z, z = h0.size := ⟨_, rfl⟩
  rw [← g1] at A1 D1 st1
  have g_b1 : n0 ≤ b1 := Nat.le_trans Z0 (Nat.le_of_eq g1.symm)
  have SZ1 := Nat.le_trans Z0 E1.1
  have F1_from : Fld Z h1 b1 "com/example/itinerant/itinerant/spaces/Point" "from" "I" (.int (0 : Int32)) := D1 (Or.inr (hw _ (List.mem_of_getElem? (i := 15) rfl))) (ty := .int) (by decide)
  have F1_to : Fld Z h1 b1 "com/example/itinerant/itinerant/spaces/Point" "to" "I" (.int (0 : Int32)) := D1 (Or.inr (hw _ (List.mem_of_getElem? (i := 17) rfl))) (ty := .int) (by decide)
  have F1_offset : Fld Z h1 b1 "com/example/itinerant/itinerant/spaces/Point" "offset" "D" (.double (0 : UInt64)) := D1 (Or.inr (hw _ (List.mem_of_getElem? (i := 19) rfl))) (ty := .double) (by decide)
  obtain ⟨_, _, ⟨T2, L2, k2, n2⟩, -, X2, ⟨Lc2, hQ2, l2, y2, z2⟩, st2⟩ := X1.specialBack hx (y := (⟨"com/example/itinerant/itinerant/spaces/Point", "<init>", "(IID)V"⟩ : MethodName)) rfl hown (mvT hZ (hw _ (List.mem_of_getElem? (i := 3) rfl))) (mvT hZ (hw _ (List.mem_of_getElem? (i := 4) rfl))) (mvT hZ (hw _ (List.mem_of_getElem? (i := 5) rfl))) (by decide) (backOf (W := 1) (rmIa l Z a0 hw [] b1 pa pb (0 : UInt64) (0 : UInt64) h1 n0 SZ1 A1 F1_from F1_to F1_offset g_b1 (by rw [own_za]; exact own_zn) own_za own_z hab) hZ (hw _ (List.mem_of_getElem? (i := 5) rfl)) (hw _ (List.mem_of_getElem? (i := 2) rfl)) (by decide) (by decide)) (g := (mkF m 66 #[.val (.int pa), .val (.int pb), .val (.int pk), .val (.int pf), .val (.int (0 : Int32)), .val (.int pb), .val (.int (1 : Int32)), .val (.double (0 : UInt64)), .second, .unset, .unset, .unset] [(.double (0 : UInt64)), (.int pb), (.int pa), (.ref b1), (.ref b1)])) rfl (by rw [hml]; rfl) (Steps.refl _) (a := b1) (argsL := [(.int pa), (.int pb), (.double (0 : UInt64))]) (rest := [(.ref b1)]) (lenOf pd__IID_V rfl) rfl (by show 2 * 0 + _ ≤ _; exact Nat.le_of_eq rfl) (hb hby at_66) (fun _ _ => ⟨rfl, e1, (by decide : 1 + 0 ≤ _), (by decide : 3 + 0 ≤ _)⟩)
  dsimp only [Pt.U, Pt.locs, Pt.cells, Pt.slots] at X2 l2 y2 z2 st2 hQ2
  subst l2 y2 z2
  obtain ⟨rfl, N2q, K2q, E2q, F2q0, F2q1, F2q2⟩ := hQ2
  have c2_0 := A1.keep K2q
  have SZ2 := Nat.le_trans SZ1 K2q.1
  have N2 := Fr.app N0 N2q
  obtain ⟨cq3, kq3, q3a, q3b, q3c⟩ := isOf hZ rfl E2q
  obtain ⟨_, _, ⟨T3, L3, k3, n3⟩, -, X3, ⟨Lc3, hQ3, l3, y3, z3⟩, st3⟩ := X2.virtualBack hx (y := (⟨"com/example/itinerant/itinerant/spaces/Point", "isNode", "()Z"⟩ : MethodName)) (z := (⟨"com/example/itinerant/itinerant/spaces/Point", "isNode", "()Z"⟩ : MethodName)) hown (mvT hZ (hw _ (List.mem_of_getElem? (i := 20) rfl))) (mvT hZ (hw _ (List.mem_of_getElem? (i := 21) rfl))) (notFace_of_selects (args := #[]) (mvT hZ (hw _ (List.mem_of_getElem? (i := 23) rfl)))) (mvT hZ (hw _ (List.mem_of_getElem? (i := 23) rfl))) (mvT hZ (hw _ (List.mem_of_getElem? (i := 22) rfl))) (by decide) (backOf (W := 0) (rmNt l Z a0 hw [] b1 pa pb T2.heap n0 SZ2 F2q0 F2q1 hab) hZ (hw _ (List.mem_of_getElem? (i := 24) rfl)) (hw _ (List.mem_of_getElem? (i := 2) rfl)) (by decide) (by decide)) q3a q3c (g := (mkF m 73 #[.val (.int pa), .val (.int pb), .val (.int pk), .val (.int pf), .val (.int (0 : Int32)), .val (.int pb), .val (.int (1 : Int32)), .val (.double (0 : UInt64)), .second, .val (.ref b1), .unset, .unset] [(.ref b1)])) rfl (by rw [hml]; rfl) (Steps.refl _) (argsL := []) (rest := []) (lenOf pd___Z rfl) rfl (by show 2 * 0 + _ ≤ _; exact Nat.le_of_eq rfl) (hb hby at_73) (fun _ _ => ⟨rfl, rfl, (by decide : 1 + 0 ≤ _), (by decide : 3 + 0 ≤ _)⟩)
  dsimp only [Pt.U, Pt.locs, Pt.cells, Pt.slots] at X3 l3 y3 z3 st3 hQ3
  subst l3 y3 z3
  obtain ⟨rfl, N3q, eq3⟩ := hQ3
  have N3 := Fr.app N2 N3q
  obtain ⟨cq4, kq4, q4a, q4b, q4c⟩ := isOf hZ eq3 E2q
  obtain ⟨_, _, ⟨T4, L4, k4, n4⟩, -, X4, ⟨Lc4, hQ4, l4, y4, z4⟩, st4⟩ := X3.virtualBack hx (y := (⟨"com/example/itinerant/itinerant/spaces/Point", "offset", "()D"⟩ : MethodName)) (z := (⟨"com/example/itinerant/itinerant/spaces/Point", "offset", "()D"⟩ : MethodName)) hown (mvT hZ (hw _ (List.mem_of_getElem? (i := 25) rfl))) (mvT hZ (hw _ (List.mem_of_getElem? (i := 26) rfl))) (notFace_of_selects (args := #[]) (mvT hZ (hw _ (List.mem_of_getElem? (i := 28) rfl)))) (mvT hZ (hw _ (List.mem_of_getElem? (i := 28) rfl))) (mvT hZ (hw _ (List.mem_of_getElem? (i := 27) rfl))) (by decide) (backOf (W := 1) (rmO l Z a0 hw [] b1 (0 : UInt64) T2.heap n0 SZ2 F2q2) hZ (hw _ (List.mem_of_getElem? (i := 29) rfl)) (hw _ (List.mem_of_getElem? (i := 2) rfl)) (by decide) (by decide)) q4a q4c (g := (mkF m 91 #[.val (.int pa), .val (.int pb), .val (.int pk), .val (.int pf), .val (.int (0 : Int32)), .val (.int pb), .val (.int (1 : Int32)), .val (.double (0 : UInt64)), .second, .val (.ref b1), .val (.int (1 : Int32)), .unset] [(.ref b1), (.int (1 : Int32))])) rfl (by rw [hml]; rfl) (Steps.refl _) (argsL := []) (rest := [(.int (1 : Int32))]) (lenOf pd___D rfl) rfl (by show 2 * 0 + _ ≤ _; exact Nat.le_of_eq rfl) (hb hby at_91) (fun _ _ => ⟨rfl, eq3, (by decide : 1 + 0 ≤ _), (by decide : 3 + 0 ≤ _)⟩)
  dsimp only [Pt.U, Pt.locs, Pt.cells, Pt.slots] at X4 l4 y4 z4 st4 hQ4
  subst l4 y4 z4
  obtain ⟨rfl, N4q, eq4⟩ := hQ4
  have N4 := Fr.app N3 N4q
  obtain ⟨_, _, ⟨T5, L5, k5, n5⟩, -, X5, ⟨Lc5, hQ5, l5, y5, z5⟩, st5⟩ := Jvm.LawKit.callS X4 hx (y := (⟨"com/example/itinerant/itinerant/spaces/Point", "node", "(I)Lcom/example/itinerant/itinerant/spaces/Point;"⟩ : MethodName)) hown (mvT hZ (hw _ (List.mem_of_getElem? (i := 30) rfl))) (mvT hZ (hw _ (List.mem_of_getElem? (i := 31) rfl))) (mvT hZ (hw _ (List.mem_of_getElem? (i := 2) rfl))) (mvT hZ (hw _ (List.mem_of_getElem? (i := 32) rfl))) (by decide) (backOf (W := 0) (rmM l Z a0 hw [] pb T2.heap n0 SZ2) hZ (hw _ (List.mem_of_getElem? (i := 32) rfl)) (hw _ (List.mem_of_getElem? (i := 2) rfl)) (by decide) (by decide)) (g := (mkF m 110 #[.val (.int pa), .val (.int pb), .val (.int pk), .val (.int pf), .val (.int (0 : Int32)), .val (.int pb), .val (.int (1 : Int32)), .val (.double (0 : UInt64)), .second, .val (.ref b1), .val (.int (1 : Int32)), .unset] [(.int pb)])) rfl (by rw [hml]; rfl) (argsL := [(.int pb)]) (rest := []) (lenOf pd__I_Lcom_example_itinerant_itinerant_spaces_Point_ rfl) rfl (by show 2 * 0 + _ ≤ _; exact Nat.le_of_eq rfl) (hb hby at_110) (fun _ _ => ⟨rfl, eq4, (by decide : 1 + 1 ≤ _), (by decide : 3 + 3 ≤ _)⟩)
  dsimp only [Pt.U, Pt.locs, Pt.cells, Pt.slots] at X5 l5 y5 z5 st5 hQ5
  subst l5 y5 z5
  obtain ⟨n_5, rfl, N5q, g_n_5, K5q, E5q, F5q0, F5q1⟩ := hQ5
  have c5_0 := E2q.keep K5q
  have c5_1 := F2q0.keep K5q List.not_mem_nil
  have c5_2 := F2q1.keep K5q List.not_mem_nil
  have c5_3 := F2q2.keep K5q List.not_mem_nil
  have SZ5 := Nat.le_trans SZ2 K5q.1
  have N5 := Fr.app N4 N5q
  obtain ⟨cq6, kq6, q6a, q6b, q6c⟩ := isOf hZ rfl E5q
  obtain ⟨_, _, ⟨T6, L6, k6, n6⟩, -, X6, ⟨Lc6, hQ6, l6, y6, z6⟩, st6⟩ := X5.virtualBack hx (y := (⟨"com/example/itinerant/itinerant/spaces/Point", "isNode", "()Z"⟩ : MethodName)) (z := (⟨"com/example/itinerant/itinerant/spaces/Point", "isNode", "()Z"⟩ : MethodName)) hown (mvT hZ (hw _ (List.mem_of_getElem? (i := 20) rfl))) (mvT hZ (hw _ (List.mem_of_getElem? (i := 21) rfl))) (notFace_of_selects (args := #[]) (mvT hZ (hw _ (List.mem_of_getElem? (i := 23) rfl)))) (mvT hZ (hw _ (List.mem_of_getElem? (i := 23) rfl))) (mvT hZ (hw _ (List.mem_of_getElem? (i := 22) rfl))) (by decide) (backOf (W := 0) (rmNt l Z a0 hw [] n_5 pb pb T5.heap n0 SZ5 F5q0 F5q1 rfl) hZ (hw _ (List.mem_of_getElem? (i := 24) rfl)) (hw _ (List.mem_of_getElem? (i := 2) rfl)) (by decide) (by decide)) q6a q6c (g := (mkF m 117 #[.val (.int pa), .val (.int pb), .val (.int pk), .val (.int pf), .val (.int (0 : Int32)), .val (.int pb), .val (.int (1 : Int32)), .val (.double (0 : UInt64)), .second, .val (.ref b1), .val (.int (1 : Int32)), .val (.ref n_5)] [(.ref n_5)])) rfl (by rw [hml]; rfl) (Steps.refl _) (argsL := []) (rest := []) (lenOf pd___Z rfl) rfl (by show 2 * 0 + _ ≤ _; exact Nat.le_of_eq rfl) (hb hby at_117) (fun _ _ => ⟨rfl, rfl, (by decide : 2 + 0 ≤ _), (by decide : 6 + 0 ≤ _)⟩)
  dsimp only [Pt.U, Pt.locs, Pt.cells, Pt.slots] at X6 l6 y6 z6 st6 hQ6
  subst l6 y6 z6
  obtain ⟨rfl, N6q, eq6⟩ := hQ6
  have N6 := Fr.app N5 N6q
  obtain ⟨fs, hr, hrun, hended, hW, hsame⟩ := X6.leave (v := some (.int (1 : Int32))) (fun h => by rw [Bd.returns] at h; cases h)
  refine ⟨_, _, pre0 _ ?_, hrun, hended, _, _, rfl, ?_, ⟨_, rfl⟩, hW, hsame.mono (by decide) (by decide)⟩
  · show Steps p.tables e below (s₁.setTop (mkF m 0 #[.val (.int pa), .val (.int pb), .val (.int pk), .val (.int pf), .unset, .unset, .unset, .unset, .unset, .unset, .unset, .unset] [])) _
    refine XS.iloadN X0.here hx rfl (hb hby at_0) rfl ?_
    show Steps p.tables e below (s₁.setTop (mkF m 1 #[.val (.int pa), .val (.int pb), .val (.int pk), .val (.int pf), .unset, .unset, .unset, .unset, .unset, .unset, .unset, .unset] [(.int pf)])) _
    refine XS.iconst X0.here hx rfl (hb hby at_1) ?_
    show Steps p.tables e below (s₁.setTop (mkF m 2 #[.val (.int pa), .val (.int pb), .val (.int pk), .val (.int pf), .unset, .unset, .unset, .unset, .unset, .unset, .unset, .unset] [(.int (1 : Int32)), (.int pf)])) _
    refine XS.iand X0.here hx rfl (hb hby at_2) rfl ?_
    show Steps p.tables e below (s₁.setTop (mkF m 3 #[.val (.int pa), .val (.int pb), .val (.int pk), .val (.int pf), .unset, .unset, .unset, .unset, .unset, .unset, .unset, .unset] [(.int (pf &&& (1 : Int32)))])) _
    refine XS.ifYes X0.here hx rfl (pc0 := 3) (pc' := 10) rfl (hb hby at_3) rfl ((if0 _ _).trans (teq (hc3 : (pf &&& (1 : Int32)) = (0 : Int32))).1) (by decide) (by decide) ?_
    show Steps p.tables e below (s₁.setTop (mkF m 10 #[.val (.int pa), .val (.int pb), .val (.int pk), .val (.int pf), .unset, .unset, .unset, .unset, .unset, .unset, .unset, .unset] [])) _
    refine XS.iconst X0.here hx rfl (hb hby at_10) ?_
    show Steps p.tables e below (s₁.setTop (mkF m 11 #[.val (.int pa), .val (.int pb), .val (.int pk), .val (.int pf), .unset, .unset, .unset, .unset, .unset, .unset, .unset, .unset] [(.int (0 : Int32))])) _
    refine XS.istore X0.here hx rfl (hb hby at_11) rfl (l' := #[.val (.int pa), .val (.int pb), .val (.int pk), .val (.int pf), .val (.int (0 : Int32)), .unset, .unset, .unset, .unset, .unset, .unset, .unset]) rfl ?_
    show Steps p.tables e below (s₁.setTop (mkF m 13 #[.val (.int pa), .val (.int pb), .val (.int pk), .val (.int pf), .val (.int (0 : Int32)), .unset, .unset, .unset, .unset, .unset, .unset, .unset] [])) _
    refine XS.iload X0.here hx rfl (hb hby at_13) rfl ?_
    show Steps p.tables e below (s₁.setTop (mkF m 15 #[.val (.int pa), .val (.int pb), .val (.int pk), .val (.int pf), .val (.int (0 : Int32)), .unset, .unset, .unset, .unset, .unset, .unset, .unset] [(.int (0 : Int32))])) _
    refine XS.ifYes X0.here hx rfl (pc0 := 15) (pc' := 22) rfl (hb hby at_15) rfl ((if0 _ _).trans (teq (by decide : (0 : Int32) = (0 : Int32))).1) (by decide) (by decide) ?_
    show Steps p.tables e below (s₁.setTop (mkF m 22 #[.val (.int pa), .val (.int pb), .val (.int pk), .val (.int pf), .val (.int (0 : Int32)), .unset, .unset, .unset, .unset, .unset, .unset, .unset] [])) _
    refine XS.iloadN X0.here hx rfl (hb hby at_22) rfl ?_
    show Steps p.tables e below (s₁.setTop (mkF m 23 #[.val (.int pa), .val (.int pb), .val (.int pk), .val (.int pf), .val (.int (0 : Int32)), .unset, .unset, .unset, .unset, .unset, .unset, .unset] [(.int pb)])) _
    refine XS.istore X0.here hx rfl (hb hby at_23) rfl (l' := #[.val (.int pa), .val (.int pb), .val (.int pk), .val (.int pf), .val (.int (0 : Int32)), .val (.int pb), .unset, .unset, .unset, .unset, .unset, .unset]) rfl ?_
    show Steps p.tables e below (s₁.setTop (mkF m 25 #[.val (.int pa), .val (.int pb), .val (.int pk), .val (.int pf), .val (.int (0 : Int32)), .val (.int pb), .unset, .unset, .unset, .unset, .unset, .unset] [])) _
    refine XS.iloadN X0.here hx rfl (hb hby at_25) rfl ?_
    show Steps p.tables e below (s₁.setTop (mkF m 26 #[.val (.int pa), .val (.int pb), .val (.int pk), .val (.int pf), .val (.int (0 : Int32)), .val (.int pb), .unset, .unset, .unset, .unset, .unset, .unset] [(.int pa)])) _
    refine XS.iload X0.here hx rfl (hb hby at_26) rfl ?_
    show Steps p.tables e below (s₁.setTop (mkF m 28 #[.val (.int pa), .val (.int pb), .val (.int pk), .val (.int pf), .val (.int (0 : Int32)), .val (.int pb), .unset, .unset, .unset, .unset, .unset, .unset] [(.int pb), (.int pa)])) _
    refine XS.icmpNo X0.here hx rfl (hb hby at_28) rfl (teq (hab : pa = pb)).2 ?_
    show Steps p.tables e below (s₁.setTop (mkF m 31 #[.val (.int pa), .val (.int pb), .val (.int pk), .val (.int pf), .val (.int (0 : Int32)), .val (.int pb), .unset, .unset, .unset, .unset, .unset, .unset] [])) _
    refine XS.iconst X0.here hx rfl (hb hby at_31) ?_
    show Steps p.tables e below (s₁.setTop (mkF m 32 #[.val (.int pa), .val (.int pb), .val (.int pk), .val (.int pf), .val (.int (0 : Int32)), .val (.int pb), .unset, .unset, .unset, .unset, .unset, .unset] [(.int (1 : Int32))])) _
    refine XS.goto X0.here hx rfl (pc0 := 32) (pc' := 36) rfl (hb hby at_32) (by decide) (by decide) ?_
    show Steps p.tables e below (s₁.setTop (mkF m 36 #[.val (.int pa), .val (.int pb), .val (.int pk), .val (.int pf), .val (.int (0 : Int32)), .val (.int pb), .unset, .unset, .unset, .unset, .unset, .unset] [(.int (1 : Int32))])) _
    refine XS.istore X0.here hx rfl (hb hby at_36) rfl (l' := #[.val (.int pa), .val (.int pb), .val (.int pk), .val (.int pf), .val (.int (0 : Int32)), .val (.int pb), .val (.int (1 : Int32)), .unset, .unset, .unset, .unset, .unset]) rfl ?_
    show Steps p.tables e below (s₁.setTop (mkF m 38 #[.val (.int pa), .val (.int pb), .val (.int pk), .val (.int pf), .val (.int (0 : Int32)), .val (.int pb), .val (.int (1 : Int32)), .unset, .unset, .unset, .unset, .unset] [])) _
    refine XS.iload X0.here hx rfl (hb hby at_38) rfl ?_
    show Steps p.tables e below (s₁.setTop (mkF m 40 #[.val (.int pa), .val (.int pb), .val (.int pk), .val (.int pf), .val (.int (0 : Int32)), .val (.int pb), .val (.int (1 : Int32)), .unset, .unset, .unset, .unset, .unset] [(.int (1 : Int32))])) _
    refine XS.ifNo X0.here hx rfl (hb hby at_40) rfl ((if0 _ _).trans (feq (by decide : ¬ ((1 : Int32) = (0 : Int32)))).1) ?_
    show Steps p.tables e below (s₁.setTop (mkF m 43 #[.val (.int pa), .val (.int pb), .val (.int pk), .val (.int pf), .val (.int (0 : Int32)), .val (.int pb), .val (.int (1 : Int32)), .unset, .unset, .unset, .unset, .unset] [])) _
    refine XS.dconst0 X0.here hx rfl (hb hby at_43) (v := (0 : UInt64)) rfl ?_
    show Steps p.tables e below (s₁.setTop (mkF m 44 #[.val (.int pa), .val (.int pb), .val (.int pk), .val (.int pf), .val (.int (0 : Int32)), .val (.int pb), .val (.int (1 : Int32)), .unset, .unset, .unset, .unset, .unset] [(.double (0 : UInt64))])) _
    refine XS.goto X0.here hx rfl (pc0 := 44) (pc' := 55) rfl (hb hby at_44) (by decide) (by decide) ?_
    show Steps p.tables e below (s₁.setTop (mkF m 55 #[.val (.int pa), .val (.int pb), .val (.int pk), .val (.int pf), .val (.int (0 : Int32)), .val (.int pb), .val (.int (1 : Int32)), .unset, .unset, .unset, .unset, .unset] [(.double (0 : UInt64))])) _
    refine XS.dstore X0.here hx rfl (hb hby at_55) rfl (l' := #[.val (.int pa), .val (.int pb), .val (.int pk), .val (.int pf), .val (.int (0 : Int32)), .val (.int pb), .val (.int (1 : Int32)), .val (.double (0 : UInt64)), .second, .unset, .unset, .unset]) rfl ?_
    show Steps p.tables e below (s₁.setTop (mkF m 57 #[.val (.int pa), .val (.int pb), .val (.int pk), .val (.int pf), .val (.int (0 : Int32)), .val (.int pb), .val (.int (1 : Int32)), .val (.double (0 : UInt64)), .second, .unset, .unset, .unset] [])) _
    refine st1 _ ?_
    show Steps p.tables e below (T1.setTop (mkF m 60 #[.val (.int pa), .val (.int pb), .val (.int pk), .val (.int pf), .val (.int (0 : Int32)), .val (.int pb), .val (.int (1 : Int32)), .val (.double (0 : UInt64)), .second, .unset, .unset, .unset] [(.ref b1)])) _
    refine XS.dup X1.here hx rfl (hb hby at_60) rfl rfl ?_
    show Steps p.tables e below (T1.setTop (mkF m 61 #[.val (.int pa), .val (.int pb), .val (.int pk), .val (.int pf), .val (.int (0 : Int32)), .val (.int pb), .val (.int (1 : Int32)), .val (.double (0 : UInt64)), .second, .unset, .unset, .unset] [(.ref b1), (.ref b1)])) _
    refine XS.iloadN X1.here hx rfl (hb hby at_61) rfl ?_
    show Steps p.tables e below (T1.setTop (mkF m 62 #[.val (.int pa), .val (.int pb), .val (.int pk), .val (.int pf), .val (.int (0 : Int32)), .val (.int pb), .val (.int (1 : Int32)), .val (.double (0 : UInt64)), .second, .unset, .unset, .unset] [(.int pa), (.ref b1), (.ref b1)])) _
    refine XS.iload X1.here hx rfl (hb hby at_62) rfl ?_
    show Steps p.tables e below (T1.setTop (mkF m 64 #[.val (.int pa), .val (.int pb), .val (.int pk), .val (.int pf), .val (.int (0 : Int32)), .val (.int pb), .val (.int (1 : Int32)), .val (.double (0 : UInt64)), .second, .unset, .unset, .unset] [(.int pb), (.int pa), (.ref b1), (.ref b1)])) _
    refine XS.dload X1.here hx rfl (hb hby at_64) rfl ?_
    show Steps p.tables e below (T1.setTop (mkF m 66 #[.val (.int pa), .val (.int pb), .val (.int pk), .val (.int pf), .val (.int (0 : Int32)), .val (.int pb), .val (.int (1 : Int32)), .val (.double (0 : UInt64)), .second, .unset, .unset, .unset] [(.double (0 : UInt64)), (.int pb), (.int pa), (.ref b1), (.ref b1)])) _
    refine st2.trans ?_
    show Steps p.tables e below (T2.setTop (mkF m 69 #[.val (.int pa), .val (.int pb), .val (.int pk), .val (.int pf), .val (.int (0 : Int32)), .val (.int pb), .val (.int (1 : Int32)), .val (.double (0 : UInt64)), .second, .unset, .unset, .unset] [(.ref b1)])) _
    refine XS.astore X2.here hx rfl (hb hby at_69) rfl rfl (l' := #[.val (.int pa), .val (.int pb), .val (.int pk), .val (.int pf), .val (.int (0 : Int32)), .val (.int pb), .val (.int (1 : Int32)), .val (.double (0 : UInt64)), .second, .val (.ref b1), .unset, .unset]) rfl ?_
    show Steps p.tables e below (T2.setTop (mkF m 71 #[.val (.int pa), .val (.int pb), .val (.int pk), .val (.int pf), .val (.int (0 : Int32)), .val (.int pb), .val (.int (1 : Int32)), .val (.double (0 : UInt64)), .second, .val (.ref b1), .unset, .unset] [])) _
    refine XS.aload X2.here hx rfl (hb hby at_71) rfl rfl ?_
    show Steps p.tables e below (T2.setTop (mkF m 73 #[.val (.int pa), .val (.int pb), .val (.int pk), .val (.int pf), .val (.int (0 : Int32)), .val (.int pb), .val (.int (1 : Int32)), .val (.double (0 : UInt64)), .second, .val (.ref b1), .unset, .unset] [(.ref b1)])) _
    refine st3.trans ?_
    show Steps p.tables e below (T3.setTop (mkF m 76 #[.val (.int pa), .val (.int pb), .val (.int pk), .val (.int pf), .val (.int (0 : Int32)), .val (.int pb), .val (.int (1 : Int32)), .val (.double (0 : UInt64)), .second, .val (.ref b1), .unset, .unset] [(.int (1 : Int32))])) _
    refine XS.istore X3.here hx rfl (hb hby at_76) rfl (l' := #[.val (.int pa), .val (.int pb), .val (.int pk), .val (.int pf), .val (.int (0 : Int32)), .val (.int pb), .val (.int (1 : Int32)), .val (.double (0 : UInt64)), .second, .val (.ref b1), .val (.int (1 : Int32)), .unset]) rfl ?_
    show Steps p.tables e below (T3.setTop (mkF m 78 #[.val (.int pa), .val (.int pb), .val (.int pk), .val (.int pf), .val (.int (0 : Int32)), .val (.int pb), .val (.int (1 : Int32)), .val (.double (0 : UInt64)), .second, .val (.ref b1), .val (.int (1 : Int32)), .unset] [])) _
    refine XS.iload X3.here hx rfl (hb hby at_78) rfl ?_
    show Steps p.tables e below (T3.setTop (mkF m 80 #[.val (.int pa), .val (.int pb), .val (.int pk), .val (.int pf), .val (.int (0 : Int32)), .val (.int pb), .val (.int (1 : Int32)), .val (.double (0 : UInt64)), .second, .val (.ref b1), .val (.int (1 : Int32)), .unset] [(.int (1 : Int32))])) _
    refine XS.iload X3.here hx rfl (hb hby at_80) rfl ?_
    show Steps p.tables e below (T3.setTop (mkF m 82 #[.val (.int pa), .val (.int pb), .val (.int pk), .val (.int pf), .val (.int (0 : Int32)), .val (.int pb), .val (.int (1 : Int32)), .val (.double (0 : UInt64)), .second, .val (.ref b1), .val (.int (1 : Int32)), .unset] [(.int (1 : Int32)), (.int (1 : Int32))])) _
    refine XS.icmpYes X3.here hx rfl (pc0 := 82) (pc' := 87) rfl (hb hby at_82) rfl (teq (by decide : (1 : Int32) = (1 : Int32))).1 (by decide) (by decide) ?_
    show Steps p.tables e below (T3.setTop (mkF m 87 #[.val (.int pa), .val (.int pb), .val (.int pk), .val (.int pf), .val (.int (0 : Int32)), .val (.int pb), .val (.int (1 : Int32)), .val (.double (0 : UInt64)), .second, .val (.ref b1), .val (.int (1 : Int32)), .unset] [])) _
    refine XS.iload X3.here hx rfl (hb hby at_87) rfl ?_
    show Steps p.tables e below (T3.setTop (mkF m 89 #[.val (.int pa), .val (.int pb), .val (.int pk), .val (.int pf), .val (.int (0 : Int32)), .val (.int pb), .val (.int (1 : Int32)), .val (.double (0 : UInt64)), .second, .val (.ref b1), .val (.int (1 : Int32)), .unset] [(.int (1 : Int32))])) _
    refine XS.aload X3.here hx rfl (hb hby at_89) rfl rfl ?_
    show Steps p.tables e below (T3.setTop (mkF m 91 #[.val (.int pa), .val (.int pb), .val (.int pk), .val (.int pf), .val (.int (0 : Int32)), .val (.int pb), .val (.int (1 : Int32)), .val (.double (0 : UInt64)), .second, .val (.ref b1), .val (.int (1 : Int32)), .unset] [(.ref b1), (.int (1 : Int32))])) _
    refine st4.trans ?_
    show Steps p.tables e below (T4.setTop (mkF m 94 #[.val (.int pa), .val (.int pb), .val (.int pk), .val (.int pf), .val (.int (0 : Int32)), .val (.int pb), .val (.int (1 : Int32)), .val (.double (0 : UInt64)), .second, .val (.ref b1), .val (.int (1 : Int32)), .unset] [(.double (0 : UInt64)), (.int (1 : Int32))])) _
    refine XS.dconst0 X4.here hx rfl (hb hby at_94) (v := (0 : UInt64)) rfl ?_
    show Steps p.tables e below (T4.setTop (mkF m 95 #[.val (.int pa), .val (.int pb), .val (.int pk), .val (.int pf), .val (.int (0 : Int32)), .val (.int pb), .val (.int (1 : Int32)), .val (.double (0 : UInt64)), .second, .val (.ref b1), .val (.int (1 : Int32)), .unset] [(.double (0 : UInt64)), (.double (0 : UInt64)), (.int (1 : Int32))])) _
    refine XS.dcmpS X4.here hx rfl (hb hby at_95) rfl (v := (0 : Int32)) (own_z) ?_
    show Steps p.tables e below (T4.setTop (mkF m 96 #[.val (.int pa), .val (.int pb), .val (.int pk), .val (.int pf), .val (.int (0 : Int32)), .val (.int pb), .val (.int (1 : Int32)), .val (.double (0 : UInt64)), .second, .val (.ref b1), .val (.int (1 : Int32)), .unset] [(.int (0 : Int32)), (.int (1 : Int32))])) _
    refine XS.ifNo X4.here hx rfl (hb hby at_96) rfl ((if0 _ _).trans (teq (by decide : (0 : Int32) = (0 : Int32))).2) ?_
    show Steps p.tables e below (T4.setTop (mkF m 99 #[.val (.int pa), .val (.int pb), .val (.int pk), .val (.int pf), .val (.int (0 : Int32)), .val (.int pb), .val (.int (1 : Int32)), .val (.double (0 : UInt64)), .second, .val (.ref b1), .val (.int (1 : Int32)), .unset] [(.int (1 : Int32))])) _
    refine XS.iconst X4.here hx rfl (hb hby at_99) ?_
    show Steps p.tables e below (T4.setTop (mkF m 100 #[.val (.int pa), .val (.int pb), .val (.int pk), .val (.int pf), .val (.int (0 : Int32)), .val (.int pb), .val (.int (1 : Int32)), .val (.double (0 : UInt64)), .second, .val (.ref b1), .val (.int (1 : Int32)), .unset] [(.int (1 : Int32)), (.int (1 : Int32))])) _
    refine XS.goto X4.here hx rfl (pc0 := 100) (pc' := 104) rfl (hb hby at_100) (by decide) (by decide) ?_
    show Steps p.tables e below (T4.setTop (mkF m 104 #[.val (.int pa), .val (.int pb), .val (.int pk), .val (.int pf), .val (.int (0 : Int32)), .val (.int pb), .val (.int (1 : Int32)), .val (.double (0 : UInt64)), .second, .val (.ref b1), .val (.int (1 : Int32)), .unset] [(.int (1 : Int32)), (.int (1 : Int32))])) _
    refine XS.icmpYes X4.here hx rfl (pc0 := 104) (pc' := 109) rfl (hb hby at_104) rfl (teq (by decide : (1 : Int32) = (1 : Int32))).1 (by decide) (by decide) ?_
    show Steps p.tables e below (T4.setTop (mkF m 109 #[.val (.int pa), .val (.int pb), .val (.int pk), .val (.int pf), .val (.int (0 : Int32)), .val (.int pb), .val (.int (1 : Int32)), .val (.double (0 : UInt64)), .second, .val (.ref b1), .val (.int (1 : Int32)), .unset] [])) _
    refine XS.iloadN X4.here hx rfl (hb hby at_109) rfl ?_
    show Steps p.tables e below (T4.setTop (mkF m 110 #[.val (.int pa), .val (.int pb), .val (.int pk), .val (.int pf), .val (.int (0 : Int32)), .val (.int pb), .val (.int (1 : Int32)), .val (.double (0 : UInt64)), .second, .val (.ref b1), .val (.int (1 : Int32)), .unset] [(.int pb)])) _
    refine st5 _ ?_
    show Steps p.tables e below (T5.setTop (mkF m 113 #[.val (.int pa), .val (.int pb), .val (.int pk), .val (.int pf), .val (.int (0 : Int32)), .val (.int pb), .val (.int (1 : Int32)), .val (.double (0 : UInt64)), .second, .val (.ref b1), .val (.int (1 : Int32)), .unset] [(.ref n_5)])) _
    refine XS.astore X5.here hx rfl (hb hby at_113) rfl rfl (l' := #[.val (.int pa), .val (.int pb), .val (.int pk), .val (.int pf), .val (.int (0 : Int32)), .val (.int pb), .val (.int (1 : Int32)), .val (.double (0 : UInt64)), .second, .val (.ref b1), .val (.int (1 : Int32)), .val (.ref n_5)]) rfl ?_
    show Steps p.tables e below (T5.setTop (mkF m 115 #[.val (.int pa), .val (.int pb), .val (.int pk), .val (.int pf), .val (.int (0 : Int32)), .val (.int pb), .val (.int (1 : Int32)), .val (.double (0 : UInt64)), .second, .val (.ref b1), .val (.int (1 : Int32)), .val (.ref n_5)] [])) _
    refine XS.aload X5.here hx rfl (hb hby at_115) rfl rfl ?_
    show Steps p.tables e below (T5.setTop (mkF m 117 #[.val (.int pa), .val (.int pb), .val (.int pk), .val (.int pf), .val (.int (0 : Int32)), .val (.int pb), .val (.int (1 : Int32)), .val (.double (0 : UInt64)), .second, .val (.ref b1), .val (.int (1 : Int32)), .val (.ref n_5)] [(.ref n_5)])) _
    refine st6.trans ?_
    show Steps p.tables e below (T6.setTop (mkF m 120 #[.val (.int pa), .val (.int pb), .val (.int pk), .val (.int pf), .val (.int (0 : Int32)), .val (.int pb), .val (.int (1 : Int32)), .val (.double (0 : UInt64)), .second, .val (.ref b1), .val (.int (1 : Int32)), .val (.ref n_5)] [(.int (1 : Int32))])) _
    exact retN X6 hx (t := .boolean) Bd.returns (by simp) (hb hby at_120) hr
  · show QL n0 _ T6.heap _
    rw [eq6]
    exact ⟨rfl, N6⟩
set_option maxRecDepth 65536 in
set_option maxHeartbeats 40000000 in
theorem rm03 (l : Launch) (Z : State) (a0 : Array Value) (hw : ∀ d ∈ tables_1, d.before a0 Z = true) (ws : List Jvm.Cond) (pa pb pk pf : Int32) (h0 : Heap) (n0 : Nat) (Z0 : n0 ≤ h0.size) (hab : ¬ pa = pb) (hc3 : (pf &&& (1 : Int32)) = (0 : Int32)) :
    MetFree l x (head1 (Jvm.Cond.code x code maxLocals ret :: ws) room_1) (fun a U => a = #[(.int pa), (.int pb), (.int pk), (.int pf)] ∧ Z.Warmed39 U.vm ∧ U.heap = h0) (fun _ _ _ _ _ => True) (fun _ U o U' => ∃ v L, o = .returned v ∧ QL n0 v U'.heap L ∧ FrameEnd U o U' L 2 6) := by
  refine MetFree.of_bodySF (plainFor_of_name pn_com_example_itinerant_itinerant_spaces_PointIsNodePinLaw) hisR ?_
  intro p e s m args below meth c s₁ Bd hml0 hP hK
  obtain ⟨rfl, hZ, hh⟩ := hP
  have hx := Bd.exec
  have hby := Bd.bytes
  have hml : c.maxLocals = 12 := hml0
  have hown : s.vm.findClass "com/example/itinerant/itinerant/spaces/PointIsNodePinLaw" = some m.cls := findClass_of_methodNamed Bd.named
  have hnm := (name_of_methodNamed Bd.named Bd.method).1
  have X0 : Stand p l e room_1 s m #[(.int pa), (.int pb), (.int pk), (.int pf)] below meth c s₁ [] 0 0 := Stand.of_body Bd
  have e0 : s₁.heap = h0 := by rw [← hh, Bd.state]; rfl
  have N0 := Fr.nil n0
  have pre0 : ∀ t, Steps p.tables e below (s₁.setTop (mkF m 0 #[.val (.int pa), .val (.int pb), .val (.int pk), .val (.int pf), .unset, .unset, .unset, .unset, .unset, .unset, .unset, .unset] [])) t → Steps p.tables e below (s₁.setTop (entryFrame m #[(.int pa), (.int pb), (.int pk), (.int pf)] maxLocals)) t := fun t k => castTop (ef_code m pa pb pk pf) k
  obtain ⟨T1, h1, X1, e1, E1, A1, D1, -, st1⟩ := newO X0 hx hZ hown (hw _ (List.mem_of_getElem? (i := 0) rfl)) (hw _ (List.mem_of_getElem? (i := 1) rfl)) (hw _ (List.mem_of_getElem? (i := 2) rfl)) e0 (g := (mkF m 57 #[.val (.int pa), .val (.int pb), .val (.int pk), .val (.int pf), .val (.int (0 : Int32)), .val (.int pb), .val (.int (0 : Int32)), .val (.double (FP.i2d ((pk &&& (1023 : Int32)) + (1 : Int32)))), .second, .unset, .unset, .unset] [])) rfl (hb hby at_57) (by decide) (by decide)
  obtain ⟨b1, g1⟩ : ∃ z, z = h0.size := ⟨_, rfl⟩
  rw [← g1] at A1 D1 st1
  have g_b1 : n0 ≤ b1 := Nat.le_trans Z0 (Nat.le_of_eq g1.symm)
  have SZ1 := Nat.le_trans Z0 E1.1
  have F1_from : Fld Z h1 b1 "com/example/itinerant/itinerant/spaces/Point" "from" "I" (.int (0 : Int32)) := D1 (Or.inr (hw _ (List.mem_of_getElem? (i := 15) rfl))) (ty := .int) (by decide)
  have F1_to : Fld Z h1 b1 "com/example/itinerant/itinerant/spaces/Point" "to" "I" (.int (0 : Int32)) := D1 (Or.inr (hw _ (List.mem_of_getElem? (i := 17) rfl))) (ty := .int) (by decide)
  have F1_offset : Fld Z h1 b1 "com/example/itinerant/itinerant/spaces/Point" "offset" "D" (.double (0 : UInt64)) := D1 (Or.inr (hw _ (List.mem_of_getElem? (i := 19) rfl))) (ty := .double) (by decide)
  obtain ⟨_, _, ⟨T2, L2, k2, n2⟩, -, X2, ⟨Lc2, hQ2, l2, y2, z2⟩, st2⟩ := X1.specialBack hx (y := (⟨"com/example/itinerant/itinerant/spaces/Point", "<init>", "(IID)V"⟩ : MethodName)) rfl hown (mvT hZ (hw _ (List.mem_of_getElem? (i := 3) rfl))) (mvT hZ (hw _ (List.mem_of_getElem? (i := 4) rfl))) (mvT hZ (hw _ (List.mem_of_getElem? (i := 5) rfl))) (by decide) (backOf (W := 1) (rmIb l Z a0 hw [] b1 pa pb (FP.i2d ((pk &&& (1023 : Int32)) + (1 : Int32))) (FP.i2d ((pk &&& (1023 : Int32)) + (1 : Int32))) h1 n0 SZ1 A1 F1_from F1_to F1_offset g_b1 (by rw [own_add0 (own_k pk).1 (own_k pk).2]; exact (Jvm.Free.Fl.i2d_fin _).noNaN) (own_add0 (own_k pk).1 (own_k pk).2) (own_cmp0 (own_k pk).1 (own_k pk).2) (dcmp_pinf (Jvm.Free.Fl.i2d_fin _) _) hab) hZ (hw _ (List.mem_of_getElem? (i := 5) rfl)) (hw _ (List.mem_of_getElem? (i := 2) rfl)) (by decide) (by decide)) (g := (mkF m 66 #[.val (.int pa), .val (.int pb), .val (.int pk), .val (.int pf), .val (.int (0 : Int32)), .val (.int pb), .val (.int (0 : Int32)), .val (.double (FP.i2d ((pk &&& (1023 : Int32)) + (1 : Int32)))), .second, .unset, .unset, .unset] [(.double (FP.i2d ((pk &&& (1023 : Int32)) + (1 : Int32)))), (.int pb), (.int pa), (.ref b1), (.ref b1)])) rfl (by rw [hml]; rfl) (Steps.refl _) (a := b1) (argsL := [(.int pa), (.int pb), (.double (FP.i2d ((pk &&& (1023 : Int32)) + (1 : Int32))))]) (rest := [(.ref b1)]) (lenOf pd__IID_V rfl) rfl (by show 2 * 0 + _ ≤ _; exact Nat.le_of_eq rfl) (hb hby at_66) (fun _ _ => ⟨rfl, e1, (by decide : 1 + 0 ≤ _), (by decide : 3 + 0 ≤ _)⟩)
  dsimp only [Pt.U, Pt.locs, Pt.cells, Pt.slots] at X2 l2 y2 z2 st2 hQ2
  subst l2 y2 z2
  obtain ⟨rfl, N2q, K2q, E2q, F2q0, F2q1, F2q2⟩ := hQ2
  have c2_0 := A1.keep K2q
  have SZ2 := Nat.le_trans SZ1 K2q.1
  have N2 := Fr.app N0 N2q
  obtain ⟨cq3, kq3, q3a, q3b, q3c⟩ := isOf hZ rfl E2q
  obtain ⟨_, _, ⟨T3, L3, k3, n3⟩, -, X3, ⟨Lc3, hQ3, l3, y3, z3⟩, st3⟩ := X2.virtualBack hx (y := (⟨"com/example/itinerant/itinerant/spaces/Point", "isNode", "()Z"⟩ : MethodName)) (z := (⟨"com/example/itinerant/itinerant/spaces/Point", "isNode", "()Z"⟩ : MethodName)) hown (mvT hZ (hw _ (List.mem_of_getElem? (i := 20) rfl))) (mvT hZ (hw _ (List.mem_of_getElem? (i := 21) rfl))) (notFace_of_selects (args := #[]) (mvT hZ (hw _ (List.mem_of_getElem? (i := 23) rfl)))) (mvT hZ (hw _ (List.mem_of_getElem? (i := 23) rfl))) (mvT hZ (hw _ (List.mem_of_getElem? (i := 22) rfl))) (by decide) (backOf (W := 0) (rmNf l Z a0 hw [] b1 pa pb T2.heap n0 SZ2 F2q0 F2q1 hab) hZ (hw _ (List.mem_of_getElem? (i := 24) rfl)) (hw _ (List.mem_of_getElem? (i := 2) rfl)) (by decide) (by decide)) q3a q3c (g := (mkF m 73 #[.val (.int pa), .val (.int pb), .val (.int pk), .val (.int pf), .val (.int (0 : Int32)), .val (.int pb), .val (.int (0 : Int32)), .val (.double (FP.i2d ((pk &&& (1023 : Int32)) + (1 : Int32)))), .second, .val (.ref b1), .unset, .unset] [(.ref b1)])) rfl (by rw [hml]; rfl) (Steps.refl _) (argsL := []) (rest := []) (lenOf pd___Z rfl) rfl (by show 2 * 0 + _ ≤ _; exact Nat.le_of_eq rfl) (hb hby at_73) (fun _ _ => ⟨rfl, rfl, (by decide : 1 + 0 ≤ _), (by decide : 3 + 0 ≤ _)⟩)
  dsimp only [Pt.U, Pt.locs, Pt.cells, Pt.slots] at X3 l3 y3 z3 st3 hQ3
  subst l3 y3 z3
  obtain ⟨rfl, N3q, eq3⟩ := hQ3
  have N3 := Fr.app N2 N3q
  obtain ⟨cq4, kq4, q4a, q4b, q4c⟩ := isOf hZ eq3 E2q
  obtain ⟨_, _, ⟨T4, L4, k4, n4⟩, -, X4, ⟨Lc4, hQ4, l4, y4, z4⟩, st4⟩ := X3.virtualBack hx (y := (⟨"com/example/itinerant/itinerant/spaces/Point", "offset", "()D"⟩ : MethodName)) (z := (⟨"com/example/itinerant/itinerant/spaces/Point", "offset", "()D"⟩ : MethodName)) hown (mvT hZ (hw _ (List.mem_of_getElem? (i := 25) rfl))) (mvT hZ (hw _ (List.mem_of_getElem? (i := 26) rfl))) (notFace_of_selects (args := #[]) (mvT hZ (hw _ (List.mem_of_getElem? (i := 28) rfl)))) (mvT hZ (hw _ (List.mem_of_getElem? (i := 28) rfl))) (mvT hZ (hw _ (List.mem_of_getElem? (i := 27) rfl))) (by decide) (backOf (W := 1) (rmO l Z a0 hw [] b1 (FP.i2d ((pk &&& (1023 : Int32)) + (1 : Int32))) T2.heap n0 SZ2 F2q2) hZ (hw _ (List.mem_of_getElem? (i := 29) rfl)) (hw _ (List.mem_of_getElem? (i := 2) rfl)) (by decide) (by decide)) q4a q4c (g := (mkF m 91 #[.val (.int pa), .val (.int pb), .val (.int pk), .val (.int pf), .val (.int (0 : Int32)), .val (.int pb), .val (.int (0 : Int32)), .val (.double (FP.i2d ((pk &&& (1023 : Int32)) + (1 : Int32)))), .second, .val (.ref b1), .val (.int (0 : Int32)), .unset] [(.ref b1), (.int (0 : Int32))])) rfl (by rw [hml]; rfl) (Steps.refl _) (argsL := []) (rest := [(.int (0 : Int32))]) (lenOf pd___D rfl) rfl (by show 2 * 0 + _ ≤ _; exact Nat.le_of_eq rfl) (hb hby at_91) (fun _ _ => ⟨rfl, eq3, (by decide : 1 + 0 ≤ _), (by decide : 3 + 0 ≤ _)⟩)
  dsimp only [Pt.U, Pt.locs, Pt.cells, Pt.slots] at X4 l4 y4 z4 st4 hQ4
  subst l4 y4 z4
  obtain ⟨rfl, N4q, eq4⟩ := hQ4
  have N4 := Fr.app N3 N4q
  obtain ⟨_, _, ⟨T5, L5, k5, n5⟩, -, X5, ⟨Lc5, hQ5, l5, y5, z5⟩, st5⟩ := Jvm.LawKit.callS X4 hx (y := (⟨"com/example/itinerant/itinerant/spaces/Point", "node", "(I)Lcom/example/itinerant/itinerant/spaces/Point;"⟩ : MethodName)) hown (mvT hZ (hw _ (List.mem_of_getElem? (i := 30) rfl))) (mvT hZ (hw _ (List.mem_of_getElem? (i := 31) rfl))) (mvT hZ (hw _ (List.mem_of_getElem? (i := 2) rfl))) (mvT hZ (hw _ (List.mem_of_getElem? (i := 32) rfl))) (by decide) (backOf (W := 0) (rmM l Z a0 hw [] pb T2.heap n0 SZ2) hZ (hw _ (List.mem_of_getElem? (i := 32) rfl)) (hw _ (List.mem_of_getElem? (i := 2) rfl)) (by decide) (by decide)) (g := (mkF m 110 #[.val (.int pa), .val (.int pb), .val (.int pk), .val (.int pf), .val (.int (0 : Int32)), .val (.int pb), .val (.int (0 : Int32)), .val (.double (FP.i2d ((pk &&& (1023 : Int32)) + (1 : Int32)))), .second, .val (.ref b1), .val (.int (0 : Int32)), .unset] [(.int pb)])) rfl (by rw [hml]; rfl) (argsL := [(.int pb)]) (rest := []) (lenOf pd__I_Lcom_example_itinerant_itinerant_spaces_Point_ rfl) rfl (by show 2 * 0 + _ ≤ _; exact Nat.le_of_eq rfl) (hb hby at_110) (fun _ _ => ⟨rfl, eq4, (by decide : 1 + 1 ≤ _), (by decide : 3 + 3 ≤ _)⟩)
  dsimp only [Pt.U, Pt.locs, Pt.cells, Pt.slots] at X5 l5 y5 z5 st5 hQ5
  subst l5 y5 z5
  obtain ⟨n_5, rfl, N5q, g_n_5, K5q, E5q, F5q0, F5q1⟩ := hQ5
  have c5_0 := E2q.keep K5q
  have c5_1 := F2q0.keep K5q List.not_mem_nil
  have c5_2 := F2q1.keep K5q List.not_mem_nil
  have c5_3 := F2q2.keep K5q List.not_mem_nil
  have SZ5 := Nat.le_trans SZ2 K5q.1
  have N5 := Fr.app N4 N5q
  obtain ⟨cq6, kq6, q6a, q6b, q6c⟩ := isOf hZ rfl E5q
  obtain ⟨_, _, ⟨T6, L6, k6, n6⟩, -, X6, ⟨Lc6, hQ6, l6, y6, z6⟩, st6⟩ := X5.virtualBack hx (y := (⟨"com/example/itinerant/itinerant/spaces/Point", "isNode", "()Z"⟩ : MethodName)) (z := (⟨"com/example/itinerant/itinerant/spaces/Point", "isNode", "()Z"⟩ : MethodName)) hown (mvT hZ (hw _ (List.mem_of_getElem? (i := 20) rfl))) (mvT hZ (hw _ (List.mem_of_getElem? (i := 21) rfl))) (notFace_of_selects (args := #[]) (mvT hZ (hw _ (List.mem_of_getElem? (i := 23) rfl)))) (mvT hZ (hw _ (List.mem_of_getElem? (i := 23) rfl))) (mvT hZ (hw _ (List.mem_of_getElem? (i := 22) rfl))) (by decide) (backOf (W := 0) (rmNt l Z a0 hw [] n_5 pb pb T5.heap n0 SZ5 F5q0 F5q1 rfl) hZ (hw _ (List.mem_of_getElem? (i := 24) rfl)) (hw _ (List.mem_of_getElem? (i := 2) rfl)) (by decide) (by decide)) q6a q6c (g := (mkF m 117 #[.val (.int pa), .val (.int pb), .val (.int pk), .val (.int pf), .val (.int (0 : Int32)), .val (.int pb), .val (.int (0 : Int32)), .val (.double (FP.i2d ((pk &&& (1023 : Int32)) + (1 : Int32)))), .second, .val (.ref b1), .val (.int (0 : Int32)), .val (.ref n_5)] [(.ref n_5)])) rfl (by rw [hml]; rfl) (Steps.refl _) (argsL := []) (rest := []) (lenOf pd___Z rfl) rfl (by show 2 * 0 + _ ≤ _; exact Nat.le_of_eq rfl) (hb hby at_117) (fun _ _ => ⟨rfl, rfl, (by decide : 2 + 0 ≤ _), (by decide : 6 + 0 ≤ _)⟩)
  dsimp only [Pt.U, Pt.locs, Pt.cells, Pt.slots] at X6 l6 y6 z6 st6 hQ6
  subst l6 y6 z6
  obtain ⟨rfl, N6q, eq6⟩ := hQ6
  have N6 := Fr.app N5 N6q
  obtain ⟨fs, hr, hrun, hended, hW, hsame⟩ := X6.leave (v := some (.int (1 : Int32))) (fun h => by rw [Bd.returns] at h; cases h)
  refine ⟨_, _, pre0 _ ?_, hrun, hended, _, _, rfl, ?_, ⟨_, rfl⟩, hW, hsame.mono (by decide) (by decide)⟩
  · show Steps p.tables e below (s₁.setTop (mkF m 0 #[.val (.int pa), .val (.int pb), .val (.int pk), .val (.int pf), .unset, .unset, .unset, .unset, .unset, .unset, .unset, .unset] [])) _
    refine XS.iloadN X0.here hx rfl (hb hby at_0) rfl ?_
    show Steps p.tables e below (s₁.setTop (mkF m 1 #[.val (.int pa), .val (.int pb), .val (.int pk), .val (.int pf), .unset, .unset, .unset, .unset, .unset, .unset, .unset, .unset] [(.int pf)])) _
    refine XS.iconst X0.here hx rfl (hb hby at_1) ?_
    show Steps p.tables e below (s₁.setTop (mkF m 2 #[.val (.int pa), .val (.int pb), .val (.int pk), .val (.int pf), .unset, .unset, .unset, .unset, .unset, .unset, .unset, .unset] [(.int (1 : Int32)), (.int pf)])) _
    refine XS.iand X0.here hx rfl (hb hby at_2) rfl ?_
    show Steps p.tables e below (s₁.setTop (mkF m 3 #[.val (.int pa), .val (.int pb), .val (.int pk), .val (.int pf), .unset, .unset, .unset, .unset, .unset, .unset, .unset, .unset] [(.int (pf &&& (1 : Int32)))])) _
    refine XS.ifYes X0.here hx rfl (pc0 := 3) (pc' := 10) rfl (hb hby at_3) rfl ((if0 _ _).trans (teq (hc3 : (pf &&& (1 : Int32)) = (0 : Int32))).1) (by decide) (by decide) ?_
    show Steps p.tables e below (s₁.setTop (mkF m 10 #[.val (.int pa), .val (.int pb), .val (.int pk), .val (.int pf), .unset, .unset, .unset, .unset, .unset, .unset, .unset, .unset] [])) _
    refine XS.iconst X0.here hx rfl (hb hby at_10) ?_
    show Steps p.tables e below (s₁.setTop (mkF m 11 #[.val (.int pa), .val (.int pb), .val (.int pk), .val (.int pf), .unset, .unset, .unset, .unset, .unset, .unset, .unset, .unset] [(.int (0 : Int32))])) _
    refine XS.istore X0.here hx rfl (hb hby at_11) rfl (l' := #[.val (.int pa), .val (.int pb), .val (.int pk), .val (.int pf), .val (.int (0 : Int32)), .unset, .unset, .unset, .unset, .unset, .unset, .unset]) rfl ?_
    show Steps p.tables e below (s₁.setTop (mkF m 13 #[.val (.int pa), .val (.int pb), .val (.int pk), .val (.int pf), .val (.int (0 : Int32)), .unset, .unset, .unset, .unset, .unset, .unset, .unset] [])) _
    refine XS.iload X0.here hx rfl (hb hby at_13) rfl ?_
    show Steps p.tables e below (s₁.setTop (mkF m 15 #[.val (.int pa), .val (.int pb), .val (.int pk), .val (.int pf), .val (.int (0 : Int32)), .unset, .unset, .unset, .unset, .unset, .unset, .unset] [(.int (0 : Int32))])) _
    refine XS.ifYes X0.here hx rfl (pc0 := 15) (pc' := 22) rfl (hb hby at_15) rfl ((if0 _ _).trans (teq (by decide : (0 : Int32) = (0 : Int32))).1) (by decide) (by decide) ?_
    show Steps p.tables e below (s₁.setTop (mkF m 22 #[.val (.int pa), .val (.int pb), .val (.int pk), .val (.int pf), .val (.int (0 : Int32)), .unset, .unset, .unset, .unset, .unset, .unset, .unset] [])) _
    refine XS.iloadN X0.here hx rfl (hb hby at_22) rfl ?_
    show Steps p.tables e below (s₁.setTop (mkF m 23 #[.val (.int pa), .val (.int pb), .val (.int pk), .val (.int pf), .val (.int (0 : Int32)), .unset, .unset, .unset, .unset, .unset, .unset, .unset] [(.int pb)])) _
    refine XS.istore X0.here hx rfl (hb hby at_23) rfl (l' := #[.val (.int pa), .val (.int pb), .val (.int pk), .val (.int pf), .val (.int (0 : Int32)), .val (.int pb), .unset, .unset, .unset, .unset, .unset, .unset]) rfl ?_
    show Steps p.tables e below (s₁.setTop (mkF m 25 #[.val (.int pa), .val (.int pb), .val (.int pk), .val (.int pf), .val (.int (0 : Int32)), .val (.int pb), .unset, .unset, .unset, .unset, .unset, .unset] [])) _
    refine XS.iloadN X0.here hx rfl (hb hby at_25) rfl ?_
    show Steps p.tables e below (s₁.setTop (mkF m 26 #[.val (.int pa), .val (.int pb), .val (.int pk), .val (.int pf), .val (.int (0 : Int32)), .val (.int pb), .unset, .unset, .unset, .unset, .unset, .unset] [(.int pa)])) _
    refine XS.iload X0.here hx rfl (hb hby at_26) rfl ?_
    show Steps p.tables e below (s₁.setTop (mkF m 28 #[.val (.int pa), .val (.int pb), .val (.int pk), .val (.int pf), .val (.int (0 : Int32)), .val (.int pb), .unset, .unset, .unset, .unset, .unset, .unset] [(.int pb), (.int pa)])) _
    refine XS.icmpYes X0.here hx rfl (pc0 := 28) (pc' := 35) rfl (hb hby at_28) rfl (feq (hab : ¬ (pa = pb))).2 (by decide) (by decide) ?_
    show Steps p.tables e below (s₁.setTop (mkF m 35 #[.val (.int pa), .val (.int pb), .val (.int pk), .val (.int pf), .val (.int (0 : Int32)), .val (.int pb), .unset, .unset, .unset, .unset, .unset, .unset] [])) _
    refine XS.iconst X0.here hx rfl (hb hby at_35) ?_
    show Steps p.tables e below (s₁.setTop (mkF m 36 #[.val (.int pa), .val (.int pb), .val (.int pk), .val (.int pf), .val (.int (0 : Int32)), .val (.int pb), .unset, .unset, .unset, .unset, .unset, .unset] [(.int (0 : Int32))])) _
    refine XS.istore X0.here hx rfl (hb hby at_36) rfl (l' := #[.val (.int pa), .val (.int pb), .val (.int pk), .val (.int pf), .val (.int (0 : Int32)), .val (.int pb), .val (.int (0 : Int32)), .unset, .unset, .unset, .unset, .unset]) rfl ?_
    show Steps p.tables e below (s₁.setTop (mkF m 38 #[.val (.int pa), .val (.int pb), .val (.int pk), .val (.int pf), .val (.int (0 : Int32)), .val (.int pb), .val (.int (0 : Int32)), .unset, .unset, .unset, .unset, .unset] [])) _
    refine XS.iload X0.here hx rfl (hb hby at_38) rfl ?_
    show Steps p.tables e below (s₁.setTop (mkF m 40 #[.val (.int pa), .val (.int pb), .val (.int pk), .val (.int pf), .val (.int (0 : Int32)), .val (.int pb), .val (.int (0 : Int32)), .unset, .unset, .unset, .unset, .unset] [(.int (0 : Int32))])) _
    refine XS.ifYes X0.here hx rfl (pc0 := 40) (pc' := 47) rfl (hb hby at_40) rfl ((if0 _ _).trans (teq (by decide : (0 : Int32) = (0 : Int32))).1) (by decide) (by decide) ?_
    show Steps p.tables e below (s₁.setTop (mkF m 47 #[.val (.int pa), .val (.int pb), .val (.int pk), .val (.int pf), .val (.int (0 : Int32)), .val (.int pb), .val (.int (0 : Int32)), .unset, .unset, .unset, .unset, .unset] [])) _
    refine XS.iloadN X0.here hx rfl (hb hby at_47) rfl ?_
    show Steps p.tables e below (s₁.setTop (mkF m 48 #[.val (.int pa), .val (.int pb), .val (.int pk), .val (.int pf), .val (.int (0 : Int32)), .val (.int pb), .val (.int (0 : Int32)), .unset, .unset, .unset, .unset, .unset] [(.int pk)])) _
    refine XS.sipush X0.here hx rfl (hb hby at_48) ?_
    show Steps p.tables e below (s₁.setTop (mkF m 51 #[.val (.int pa), .val (.int pb), .val (.int pk), .val (.int pf), .val (.int (0 : Int32)), .val (.int pb), .val (.int (0 : Int32)), .unset, .unset, .unset, .unset, .unset] [(.int (1023 : Int32)), (.int pk)])) _
    refine XS.iand X0.here hx rfl (hb hby at_51) rfl ?_
    show Steps p.tables e below (s₁.setTop (mkF m 52 #[.val (.int pa), .val (.int pb), .val (.int pk), .val (.int pf), .val (.int (0 : Int32)), .val (.int pb), .val (.int (0 : Int32)), .unset, .unset, .unset, .unset, .unset] [(.int (pk &&& (1023 : Int32)))])) _
    refine XS.iconst X0.here hx rfl (hb hby at_52) ?_
    show Steps p.tables e below (s₁.setTop (mkF m 53 #[.val (.int pa), .val (.int pb), .val (.int pk), .val (.int pf), .val (.int (0 : Int32)), .val (.int pb), .val (.int (0 : Int32)), .unset, .unset, .unset, .unset, .unset] [(.int (1 : Int32)), (.int (pk &&& (1023 : Int32)))])) _
    refine XS.iadd X0.here hx rfl (hb hby at_53) rfl ?_
    show Steps p.tables e below (s₁.setTop (mkF m 54 #[.val (.int pa), .val (.int pb), .val (.int pk), .val (.int pf), .val (.int (0 : Int32)), .val (.int pb), .val (.int (0 : Int32)), .unset, .unset, .unset, .unset, .unset] [(.int ((pk &&& (1023 : Int32)) + (1 : Int32)))])) _
    refine XS.i2dS X0.here hx rfl (hb hby at_54) rfl (v := (FP.i2d ((pk &&& (1023 : Int32)) + (1 : Int32)))) (rfl) ?_
    show Steps p.tables e below (s₁.setTop (mkF m 55 #[.val (.int pa), .val (.int pb), .val (.int pk), .val (.int pf), .val (.int (0 : Int32)), .val (.int pb), .val (.int (0 : Int32)), .unset, .unset, .unset, .unset, .unset] [(.double (FP.i2d ((pk &&& (1023 : Int32)) + (1 : Int32))))])) _
    refine XS.dstore X0.here hx rfl (hb hby at_55) rfl (l' := #[.val (.int pa), .val (.int pb), .val (.int pk), .val (.int pf), .val (.int (0 : Int32)), .val (.int pb), .val (.int (0 : Int32)), .val (.double (FP.i2d ((pk &&& (1023 : Int32)) + (1 : Int32)))), .second, .unset, .unset, .unset]) rfl ?_
    show Steps p.tables e below (s₁.setTop (mkF m 57 #[.val (.int pa), .val (.int pb), .val (.int pk), .val (.int pf), .val (.int (0 : Int32)), .val (.int pb), .val (.int (0 : Int32)), .val (.double (FP.i2d ((pk &&& (1023 : Int32)) + (1 : Int32)))), .second, .unset, .unset, .unset] [])) _
    refine st1 _ ?_
    show Steps p.tables e below (T1.setTop (mkF m 60 #[.val (.int pa), .val (.int pb), .val (.int pk), .val (.int pf), .val (.int (0 : Int32)), .val (.int pb), .val (.int (0 : Int32)), .val (.double (FP.i2d ((pk &&& (1023 : Int32)) + (1 : Int32)))), .second, .unset, .unset, .unset] [(.ref b1)])) _
    refine XS.dup X1.here hx rfl (hb hby at_60) rfl rfl ?_
    show Steps p.tables e below (T1.setTop (mkF m 61 #[.val (.int pa), .val (.int pb), .val (.int pk), .val (.int pf), .val (.int (0 : Int32)), .val (.int pb), .val (.int (0 : Int32)), .val (.double (FP.i2d ((pk &&& (1023 : Int32)) + (1 : Int32)))), .second, .unset, .unset, .unset] [(.ref b1), (.ref b1)])) _
    refine XS.iloadN X1.here hx rfl (hb hby at_61) rfl ?_
    show Steps p.tables e below (T1.setTop (mkF m 62 #[.val (.int pa), .val (.int pb), .val (.int pk), .val (.int pf), .val (.int (0 : Int32)), .val (.int pb), .val (.int (0 : Int32)), .val (.double (FP.i2d ((pk &&& (1023 : Int32)) + (1 : Int32)))), .second, .unset, .unset, .unset] [(.int pa), (.ref b1), (.ref b1)])) _
    refine XS.iload X1.here hx rfl (hb hby at_62) rfl ?_
    show Steps p.tables e below (T1.setTop (mkF m 64 #[.val (.int pa), .val (.int pb), .val (.int pk), .val (.int pf), .val (.int (0 : Int32)), .val (.int pb), .val (.int (0 : Int32)), .val (.double (FP.i2d ((pk &&& (1023 : Int32)) + (1 : Int32)))), .second, .unset, .unset, .unset] [(.int pb), (.int pa), (.ref b1), (.ref b1)])) _
    refine XS.dload X1.here hx rfl (hb hby at_64) rfl ?_
    show Steps p.tables e below (T1.setTop (mkF m 66 #[.val (.int pa), .val (.int pb), .val (.int pk), .val (.int pf), .val (.int (0 : Int32)), .val (.int pb), .val (.int (0 : Int32)), .val (.double (FP.i2d ((pk &&& (1023 : Int32)) + (1 : Int32)))), .second, .unset, .unset, .unset] [(.double (FP.i2d ((pk &&& (1023 : Int32)) + (1 : Int32)))), (.int pb), (.int pa), (.ref b1), (.ref b1)])) _
    refine st2.trans ?_
    show Steps p.tables e below (T2.setTop (mkF m 69 #[.val (.int pa), .val (.int pb), .val (.int pk), .val (.int pf), .val (.int (0 : Int32)), .val (.int pb), .val (.int (0 : Int32)), .val (.double (FP.i2d ((pk &&& (1023 : Int32)) + (1 : Int32)))), .second, .unset, .unset, .unset] [(.ref b1)])) _
    refine XS.astore X2.here hx rfl (hb hby at_69) rfl rfl (l' := #[.val (.int pa), .val (.int pb), .val (.int pk), .val (.int pf), .val (.int (0 : Int32)), .val (.int pb), .val (.int (0 : Int32)), .val (.double (FP.i2d ((pk &&& (1023 : Int32)) + (1 : Int32)))), .second, .val (.ref b1), .unset, .unset]) rfl ?_
    show Steps p.tables e below (T2.setTop (mkF m 71 #[.val (.int pa), .val (.int pb), .val (.int pk), .val (.int pf), .val (.int (0 : Int32)), .val (.int pb), .val (.int (0 : Int32)), .val (.double (FP.i2d ((pk &&& (1023 : Int32)) + (1 : Int32)))), .second, .val (.ref b1), .unset, .unset] [])) _
    refine XS.aload X2.here hx rfl (hb hby at_71) rfl rfl ?_
    show Steps p.tables e below (T2.setTop (mkF m 73 #[.val (.int pa), .val (.int pb), .val (.int pk), .val (.int pf), .val (.int (0 : Int32)), .val (.int pb), .val (.int (0 : Int32)), .val (.double (FP.i2d ((pk &&& (1023 : Int32)) + (1 : Int32)))), .second, .val (.ref b1), .unset, .unset] [(.ref b1)])) _
    refine st3.trans ?_
    show Steps p.tables e below (T3.setTop (mkF m 76 #[.val (.int pa), .val (.int pb), .val (.int pk), .val (.int pf), .val (.int (0 : Int32)), .val (.int pb), .val (.int (0 : Int32)), .val (.double (FP.i2d ((pk &&& (1023 : Int32)) + (1 : Int32)))), .second, .val (.ref b1), .unset, .unset] [(.int (0 : Int32))])) _
    refine XS.istore X3.here hx rfl (hb hby at_76) rfl (l' := #[.val (.int pa), .val (.int pb), .val (.int pk), .val (.int pf), .val (.int (0 : Int32)), .val (.int pb), .val (.int (0 : Int32)), .val (.double (FP.i2d ((pk &&& (1023 : Int32)) + (1 : Int32)))), .second, .val (.ref b1), .val (.int (0 : Int32)), .unset]) rfl ?_
    show Steps p.tables e below (T3.setTop (mkF m 78 #[.val (.int pa), .val (.int pb), .val (.int pk), .val (.int pf), .val (.int (0 : Int32)), .val (.int pb), .val (.int (0 : Int32)), .val (.double (FP.i2d ((pk &&& (1023 : Int32)) + (1 : Int32)))), .second, .val (.ref b1), .val (.int (0 : Int32)), .unset] [])) _
    refine XS.iload X3.here hx rfl (hb hby at_78) rfl ?_
    show Steps p.tables e below (T3.setTop (mkF m 80 #[.val (.int pa), .val (.int pb), .val (.int pk), .val (.int pf), .val (.int (0 : Int32)), .val (.int pb), .val (.int (0 : Int32)), .val (.double (FP.i2d ((pk &&& (1023 : Int32)) + (1 : Int32)))), .second, .val (.ref b1), .val (.int (0 : Int32)), .unset] [(.int (0 : Int32))])) _
    refine XS.iload X3.here hx rfl (hb hby at_80) rfl ?_
    show Steps p.tables e below (T3.setTop (mkF m 82 #[.val (.int pa), .val (.int pb), .val (.int pk), .val (.int pf), .val (.int (0 : Int32)), .val (.int pb), .val (.int (0 : Int32)), .val (.double (FP.i2d ((pk &&& (1023 : Int32)) + (1 : Int32)))), .second, .val (.ref b1), .val (.int (0 : Int32)), .unset] [(.int (0 : Int32)), (.int (0 : Int32))])) _
    refine XS.icmpYes X3.here hx rfl (pc0 := 82) (pc' := 87) rfl (hb hby at_82) rfl (teq (by decide : (0 : Int32) = (0 : Int32))).1 (by decide) (by decide) ?_
    show Steps p.tables e below (T3.setTop (mkF m 87 #[.val (.int pa), .val (.int pb), .val (.int pk), .val (.int pf), .val (.int (0 : Int32)), .val (.int pb), .val (.int (0 : Int32)), .val (.double (FP.i2d ((pk &&& (1023 : Int32)) + (1 : Int32)))), .second, .val (.ref b1), .val (.int (0 : Int32)), .unset] [])) _
    refine XS.iload X3.here hx rfl (hb hby at_87) rfl ?_
    show Steps p.tables e below (T3.setTop (mkF m 89 #[.val (.int pa), .val (.int pb), .val (.int pk), .val (.int pf), .val (.int (0 : Int32)), .val (.int pb), .val (.int (0 : Int32)), .val (.double (FP.i2d ((pk &&& (1023 : Int32)) + (1 : Int32)))), .second, .val (.ref b1), .val (.int (0 : Int32)), .unset] [(.int (0 : Int32))])) _
    refine XS.aload X3.here hx rfl (hb hby at_89) rfl rfl ?_
    show Steps p.tables e below (T3.setTop (mkF m 91 #[.val (.int pa), .val (.int pb), .val (.int pk), .val (.int pf), .val (.int (0 : Int32)), .val (.int pb), .val (.int (0 : Int32)), .val (.double (FP.i2d ((pk &&& (1023 : Int32)) + (1 : Int32)))), .second, .val (.ref b1), .val (.int (0 : Int32)), .unset] [(.ref b1), (.int (0 : Int32))])) _
    refine st4.trans ?_
    show Steps p.tables e below (T4.setTop (mkF m 94 #[.val (.int pa), .val (.int pb), .val (.int pk), .val (.int pf), .val (.int (0 : Int32)), .val (.int pb), .val (.int (0 : Int32)), .val (.double (FP.i2d ((pk &&& (1023 : Int32)) + (1 : Int32)))), .second, .val (.ref b1), .val (.int (0 : Int32)), .unset] [(.double (FP.i2d ((pk &&& (1023 : Int32)) + (1 : Int32)))), (.int (0 : Int32))])) _
    refine XS.dconst0 X4.here hx rfl (hb hby at_94) (v := (0 : UInt64)) rfl ?_
    show Steps p.tables e below (T4.setTop (mkF m 95 #[.val (.int pa), .val (.int pb), .val (.int pk), .val (.int pf), .val (.int (0 : Int32)), .val (.int pb), .val (.int (0 : Int32)), .val (.double (FP.i2d ((pk &&& (1023 : Int32)) + (1 : Int32)))), .second, .val (.ref b1), .val (.int (0 : Int32)), .unset] [(.double (0 : UInt64)), (.double (FP.i2d ((pk &&& (1023 : Int32)) + (1 : Int32)))), (.int (0 : Int32))])) _
    refine XS.dcmpS X4.here hx rfl (hb hby at_95) rfl (v := (1 : Int32)) (own_cmp0 (own_k pk).1 (own_k pk).2) ?_
    show Steps p.tables e below (T4.setTop (mkF m 96 #[.val (.int pa), .val (.int pb), .val (.int pk), .val (.int pf), .val (.int (0 : Int32)), .val (.int pb), .val (.int (0 : Int32)), .val (.double (FP.i2d ((pk &&& (1023 : Int32)) + (1 : Int32)))), .second, .val (.ref b1), .val (.int (0 : Int32)), .unset] [(.int (1 : Int32)), (.int (0 : Int32))])) _
    refine XS.ifYes X4.here hx rfl (pc0 := 96) (pc' := 103) rfl (hb hby at_96) rfl ((if0 _ _).trans (feq (by decide : ¬ ((1 : Int32) = (0 : Int32)))).2) (by decide) (by decide) ?_
    show Steps p.tables e below (T4.setTop (mkF m 103 #[.val (.int pa), .val (.int pb), .val (.int pk), .val (.int pf), .val (.int (0 : Int32)), .val (.int pb), .val (.int (0 : Int32)), .val (.double (FP.i2d ((pk &&& (1023 : Int32)) + (1 : Int32)))), .second, .val (.ref b1), .val (.int (0 : Int32)), .unset] [(.int (0 : Int32))])) _
    refine XS.iconst X4.here hx rfl (hb hby at_103) ?_
    show Steps p.tables e below (T4.setTop (mkF m 104 #[.val (.int pa), .val (.int pb), .val (.int pk), .val (.int pf), .val (.int (0 : Int32)), .val (.int pb), .val (.int (0 : Int32)), .val (.double (FP.i2d ((pk &&& (1023 : Int32)) + (1 : Int32)))), .second, .val (.ref b1), .val (.int (0 : Int32)), .unset] [(.int (0 : Int32)), (.int (0 : Int32))])) _
    refine XS.icmpYes X4.here hx rfl (pc0 := 104) (pc' := 109) rfl (hb hby at_104) rfl (teq (by decide : (0 : Int32) = (0 : Int32))).1 (by decide) (by decide) ?_
    show Steps p.tables e below (T4.setTop (mkF m 109 #[.val (.int pa), .val (.int pb), .val (.int pk), .val (.int pf), .val (.int (0 : Int32)), .val (.int pb), .val (.int (0 : Int32)), .val (.double (FP.i2d ((pk &&& (1023 : Int32)) + (1 : Int32)))), .second, .val (.ref b1), .val (.int (0 : Int32)), .unset] [])) _
    refine XS.iloadN X4.here hx rfl (hb hby at_109) rfl ?_
    show Steps p.tables e below (T4.setTop (mkF m 110 #[.val (.int pa), .val (.int pb), .val (.int pk), .val (.int pf), .val (.int (0 : Int32)), .val (.int pb), .val (.int (0 : Int32)), .val (.double (FP.i2d ((pk &&& (1023 : Int32)) + (1 : Int32)))), .second, .val (.ref b1), .val (.int (0 : Int32)), .unset] [(.int pb)])) _
    refine st5 _ ?_
    show Steps p.tables e below (T5.setTop (mkF m 113 #[.val (.int pa), .val (.int pb), .val (.int pk), .val (.int pf), .val (.int (0 : Int32)), .val (.int pb), .val (.int (0 : Int32)), .val (.double (FP.i2d ((pk &&& (1023 : Int32)) + (1 : Int32)))), .second, .val (.ref b1), .val (.int (0 : Int32)), .unset] [(.ref n_5)])) _
    refine XS.astore X5.here hx rfl (hb hby at_113) rfl rfl (l' := #[.val (.int pa), .val (.int pb), .val (.int pk), .val (.int pf), .val (.int (0 : Int32)), .val (.int pb), .val (.int (0 : Int32)), .val (.double (FP.i2d ((pk &&& (1023 : Int32)) + (1 : Int32)))), .second, .val (.ref b1), .val (.int (0 : Int32)), .val (.ref n_5)]) rfl ?_
    show Steps p.tables e below (T5.setTop (mkF m 115 #[.val (.int pa), .val (.int pb), .val (.int pk), .val (.int pf), .val (.int (0 : Int32)), .val (.int pb), .val (.int (0 : Int32)), .val (.double (FP.i2d ((pk &&& (1023 : Int32)) + (1 : Int32)))), .second, .val (.ref b1), .val (.int (0 : Int32)), .val (.ref n_5)] [])) _
    refine XS.aload X5.here hx rfl (hb hby at_115) rfl rfl ?_
    show Steps p.tables e below (T5.setTop (mkF m 117 #[.val (.int pa), .val (.int pb), .val (.int pk), .val (.int pf), .val (.int (0 : Int32)), .val (.int pb), .val (.int (0 : Int32)), .val (.double (FP.i2d ((pk &&& (1023 : Int32)) + (1 : Int32)))), .second, .val (.ref b1), .val (.int (0 : Int32)), .val (.ref n_5)] [(.ref n_5)])) _
    refine st6.trans ?_
    show Steps p.tables e below (T6.setTop (mkF m 120 #[.val (.int pa), .val (.int pb), .val (.int pk), .val (.int pf), .val (.int (0 : Int32)), .val (.int pb), .val (.int (0 : Int32)), .val (.double (FP.i2d ((pk &&& (1023 : Int32)) + (1 : Int32)))), .second, .val (.ref b1), .val (.int (0 : Int32)), .val (.ref n_5)] [(.int (1 : Int32))])) _
    exact retN X6 hx (t := .boolean) Bd.returns (by simp) (hb hby at_120) hr
  · show QL n0 _ T6.heap _
    rw [eq6]
    exact ⟨rfl, N6⟩
theorem rm0 (l : Launch) (Z : State) (a0 : Array Value) (hw : ∀ d ∈ tables_1, d.before a0 Z = true) (ws : List Jvm.Cond) (pa pb pk pf : Int32) (h0 : Heap) (n0 : Nat) (Z0 : n0 ≤ h0.size) :
    MetFree l x (head1 (Jvm.Cond.code x code maxLocals ret :: ws) room_1) (fun a U => a = #[(.int pa), (.int pb), (.int pk), (.int pf)] ∧ Z.Warmed39 U.vm ∧ U.heap = h0) (fun _ _ _ _ _ => True) (fun _ U o U' => ∃ v L, o = .returned v ∧ QL n0 v U'.heap L ∧ FrameEnd U o U' L 2 6) := by
  by_cases h1 : (pf &&& (1 : Int32)) = 0
  · by_cases h2 : pa = pb
    · exact rm02 l Z a0 hw ws pa pb pk pf h0 n0 Z0 h2 h1
    · exact rm03 l Z a0 hw ws pa pb pk pf h0 n0 Z0 h2 h1
  · exact rm01 l Z a0 hw ws pa pb pk pf h0 n0 Z0 h1
set_option maxRecDepth 65536 in
set_option maxHeartbeats 40000000 in
theorem comes_1 {Post : Tables → Env → Array Value → State → Outcome → State → Prop} (hpost : ∀ tb e args s v u, (limb_1_1.after args s (.returned v) u = true ∧ limb_1_2.after args s (.returned v) u = true ∧ True) → FrameEnd s (.returned v) u (Jvm.fieldLocs frame_1_writes args s ++ Jvm.arrayLocs frame_1_arrays args s ++ Jvm.staticLocs frame_1_statics s) 16 128 → Post tb e args s (.returned v) u) :
    ArmFor flags0 classFile x code maxLocals ret World_1 tables_1 room_1 Calls_1 rest_1 Pre_1 Post := by
  intro l hfl _ _ p e ha hc hk s m args below hf hA hF happ hP
  obtain ⟨hcalls, hrest, hpre⟩ := hP
  obtain ⟨-, -, -, hnamed, -, -, -, hat⟩ := (Spec.applies_iff hf).mp happ
  obtain ⟨hg, hn⟩ := and_e (Cond.before_iff.mp (show (Jvm.Cond.and given_1 narrow_1).before args s = true from hpre))
  obtain ⟨hcount, r0⟩ := and_e hg
  obtain ⟨hk0, r1⟩ := and_e r0
  obtain ⟨hk1, r2⟩ := and_e r1
  obtain ⟨hk2, r3⟩ := and_e r2
  have hk3 := r3
  obtain ⟨w0, w1, w2, w3, rfl⟩ : ∃ w0 w1 w2 w3 : Value, args = #[w0, w1, w2, w3] := by
    have hs : args.size = 4 := by simpa [Cond.value, given_1] using hcount
    obtain ⟨L⟩ := args
    match L, hs with
    | [w0, w1, w2, w3], _ => exact ⟨w0, w1, w2, w3, rfl⟩
  have hw := fun d (hd : d ∈ tables_1) => atoms_spec (ws := Jvm.Cond.code x code maxLocals ret :: tables_1) hat d (List.mem_cons_of_mem _ hd)
  have hfit : Fit s := fun {y c} hc i hi => by
    obtain ⟨ha, rfl⟩ := Array.getElem?_eq_some_iff.mp hc
    have q := List.all_eq_true.mp ((Array.all_eq_true_iff_forall_mem.mp hF) _ (Array.getElem_mem ha)) i (List.mem_range.mpr hi)
    simpa [Array.getElem?_eq_getElem hi] using q
  obtain ⟨i0, ei0⟩ := is_v hk0
  obtain rfl : w0 = (.int i0) := Option.some.inj ei0
  obtain ⟨i1, ei1⟩ := is_v hk1
  obtain rfl : w1 = (.int i1) := Option.some.inj ei1
  obtain ⟨i2, ei2⟩ := is_v hk2
  obtain rfl : w2 = (.int i2) := Option.some.inj ei2
  obtain ⟨i3, ei3⟩ := is_v hk3
  obtain rfl : w3 = (.int i3) := Option.some.inj ei3
  obtain ⟨n, o, h1, h2, h3, _, L, rfl, ⟨rfl, N⟩, hq⟩ := rm0 l s _ hw tables_1 i0 i1 i2 i3 s.heap s.heap.size (Nat.le_refl _)  p e ha hc hk s m _ below hf ((Spec.applies_iff_loose hf).mp happ).1 ⟨rfl, State.Warmed39.refl s, rfl⟩ trivial
  refine ⟨n, _, h1, h2, h3, hpost _ _ _ _ _ _ ⟨Cond.after_iff.mpr rfl, Cond.after_iff.mpr (eq_i res_at (Term.int_eval (1)) rfl), trivial⟩ ⟨hq.1, hq.2.1, (hq.2.2.sift fun y hy => Or.inr (N y hy)).mono (by decide) (by decide)⟩⟩
theorem main_1_1 : Claimed_1_1 := comes_1 fun _ _ _ _ _ _ h hF => ⟨h.1, hF⟩
theorem main_1_2 : Claimed_1_2 := comes_1 fun _ _ _ _ _ _ h hF => ⟨h.2.1, hF⟩
end Jvm.Pilot.@@N@@
namespace Jvm.Pilot.@@N@@
open Jvm Jvm.ClassFile Sem Op Lib Jvm.Free Jvm.Stand Jvm.Pilot.@@N@@.Jvm.D
/-! MADE BY PROGRAM (witnessworld.py) out of the Statement's table words and the real class files: 10 classes; the members and pool entries that the words name. The judged class is class 1, her method 1. -/
namespace start1
open Jvm.ClassFile
def u (s : String) : CpInfo := .utf8 (stringToUtf16 s)
/-- a pool by its gaps: so many unusable entries, then the entry; so many at the end -/
def gap : Nat → List CpInfo → List CpInfo
  | 0, r => r
  | n + 1, r => .unusable :: gap n r
def poolList (es : List (Nat × CpInfo)) (last : Nat) : List CpInfo := es.foldr (fun e r => gap e.1 (e.2 :: r)) (gap last [])
def pool (es : List (Nat × CpInfo)) (last : Nat) : Array CpInfo := ⟨poolList es last⟩
def fileOf (pool : Array CpInfo) (this : Nat) (attrs : Array Attribute := #[]) (ms : Array MethodInfo := #[]) (fl : Nat := 33) (sup : Nat := 0) (ifs : Array Nat := #[]) (fds : Array FieldInfo := #[]) : ClassFile where
  minorVersion := 0
  majorVersion := 65
  constantPool := pool
  accessFlags := fl
  thisClass := this
  superClass := sup
  interfaces := ifs
  fields := fds
  methods := ms
  attributes := attrs
def plain (name : String) (sup : Option ClassId) : Class where
  name := name
  kind := .ordinary
  loader := none
  accessFlags := 33
  super := sup
  interfaces := #[]
  cf := none
  fields := #[]
  methods := #[]
  instanceTypes := #[]
  staticTypes := #[]
  resolved := #[]
  callSites := []
  init := .initialized
  statics := none
  mirror := none

def pool0 : Array CpInfo := pool [(5, u "<init>"), (0, u "()V"), (1, .class_ 10), (1, u "java/lang/Object")] 113

def k0c0 : Code := { maxStack := 0, maxLocals := 1, code := object_method_1_code, exceptionTable := #[], attributes := #[] }
def k0m0 : Method := { name := "<init>", desc := "()V", sig := { parameters := [], returnType := none }, accessFlags := 1, code := some k0c0 }
/-- java/lang/Object -/
def k0 : Class := { plain "java/lang/Object" none with
  accessFlags := 33
  interfaces := #[]
  cf := some (fileOf pool0 8 #[] #[{ accessFlags := 1, nameIndex := 5, descriptorIndex := 6, attributes := #[] }] 33 0 #[] #[])
  fields := #[]
  methods := #[k0m0]
  instanceTypes := #[]
  staticTypes := #[]
  resolved := Array.replicate 124 none
  statics := none }

def pool1 : Array CpInfo := pool [(2, .class_ 4), (1, u "java/lang/Object"), (0, u "<init>"), (0, u "()V"), (0, .class_ 8), (0, u "com/example/itinerant/itinerant/spaces/Point"), (0, .methodref 7 10), (0, .nameAndType 5 11), (0, u "(IID)V"), (0, .methodref 7 13), (0, .nameAndType 14 15), (0, u "isNode"), (0, u "()Z"), (0, .methodref 7 17), (0, .nameAndType 18 19), (0, u "offset"), (0, u "()D"), (0, .methodref 7 21), (0, .nameAndType 22 23), (0, u "node"), (0, u "(I)Lcom/example/itinerant/itinerant/spaces/Point;"), (0, .class_ 25), (0, u "com/example/itinerant/itinerant/spaces/PointIsNodePinLaw"), (2, u "law"), (0, u "(IIII)Z")] 3

def k1m0 : Method := { name := "<init>", desc := "()V", sig := { parameters := [], returnType := none }, accessFlags := 1, code := none }
def k1c1 : Code := { maxStack := 6, maxLocals := 12, code := code, exceptionTable := #[], attributes := #[] }
def k1m1 : Method := { name := "law", desc := "(IIII)Z", sig := { parameters := [.int, .int, .int, .int], returnType := some .boolean }, accessFlags := 9, code := some k1c1 }
/-- com/example/itinerant/itinerant/spaces/PointIsNodePinLaw -/
def k1 : Class := { plain "com/example/itinerant/itinerant/spaces/PointIsNodePinLaw" (some 0) with
  accessFlags := 49
  interfaces := #[]
  cf := some (fileOf pool1 24 #[] #[{ accessFlags := 1, nameIndex := 5, descriptorIndex := 6, attributes := #[] }, { accessFlags := 9, nameIndex := 28, descriptorIndex := 29, attributes := #[] }] 49 2 #[] #[])
  fields := #[]
  methods := #[k1m0, k1m1]
  instanceTypes := #[]
  staticTypes := #[]
  resolved := Array.replicate 33 none
  statics := none }

def pool2 : Array CpInfo := pool [(1, .methodref 2 3), (0, .class_ 4), (0, .nameAndType 5 6), (0, u "java/lang/Object"), (0, u "<init>"), (0, u "()V"), (0, .class_ 8), (0, u "java/lang/Record")] 13

def k2c0 : Code := { maxStack := 1, maxLocals := 1, code := jdk_30_method_1_code, exceptionTable := #[], attributes := #[] }
def k2m0 : Method := { name := "<init>", desc := "()V", sig := { parameters := [], returnType := none }, accessFlags := 4, code := some k2c0 }
/-- java/lang/Record -/
def k2 : Class := { plain "java/lang/Record" (some 0) with
  accessFlags := 1057
  interfaces := #[]
  cf := some (fileOf pool2 7 #[] #[{ accessFlags := 4, nameIndex := 5, descriptorIndex := 6, attributes := #[] }] 1057 2 #[] #[])
  fields := #[]
  methods := #[k2m0]
  instanceTypes := #[]
  staticTypes := #[]
  resolved := Array.replicate 22 none
  statics := none }

def pool3 : Array CpInfo := pool [(1, .methodref 2 3), (0, .class_ 4), (0, .nameAndType 5 6), (0, u "java/lang/Record"), (0, u "<init>"), (0, u "()V"), (2, .double 9218868437227405312), (10, .fieldref 21 22), (0, .class_ 23), (0, .nameAndType 24 25), (0, u "com/example/itinerant/itinerant/spaces/Point"), (0, u "from"), (0, u "I"), (0, .fieldref 21 27), (0, .nameAndType 28 25), (0, u "to"), (0, .fieldref 21 30), (0, .nameAndType 31 32), (0, u "offset"), (0, u "D"), (0, .methodref 21 34), (0, .nameAndType 5 35), (0, u "(IID)V"), (16, u "node"), (0, u "(I)Lcom/example/itinerant/itinerant/spaces/Point;"), (0, u "isNode"), (0, u "()Z"), (3, u "()D")] 30

def k3c0 : Code := { maxStack := 6, maxLocals := 5, code := prog_77_method_1_code, exceptionTable := #[], attributes := #[] }
def k3m0 : Method := { name := "<init>", desc := "(IID)V", sig := { parameters := [.int, .int, .double], returnType := none }, accessFlags := 1, code := some k3c0 }
def k3c1 : Code := { maxStack := 6, maxLocals := 1, code := prog_77_method_2_code, exceptionTable := #[], attributes := #[] }
def k3m1 : Method := { name := "node", desc := "(I)Lcom/example/itinerant/itinerant/spaces/Point;", sig := { parameters := [.int], returnType := some (.object "com/example/itinerant/itinerant/spaces/Point") }, accessFlags := 9, code := some k3c1 }
def k3c2 : Code := { maxStack := 2, maxLocals := 1, code := prog_77_method_3_code, exceptionTable := #[], attributes := #[] }
def k3m2 : Method := { name := "isNode", desc := "()Z", sig := { parameters := [], returnType := some .boolean }, accessFlags := 1, code := some k3c2 }
def k3c3 : Code := { maxStack := 2, maxLocals := 1, code := prog_77_method_9_code, exceptionTable := #[], attributes := #[] }
def k3m3 : Method := { name := "offset", desc := "()D", sig := { parameters := [], returnType := some .double }, accessFlags := 1, code := some k3c3 }
/-- com/example/itinerant/itinerant/spaces/Point -/
def k3 : Class := { plain "com/example/itinerant/itinerant/spaces/Point" (some 2) with
  accessFlags := 49
  interfaces := #[]
  cf := some (fileOf pool3 21 #[] #[{ accessFlags := 1, nameIndex := 5, descriptorIndex := 35, attributes := #[] }, { accessFlags := 9, nameIndex := 52, descriptorIndex := 53, attributes := #[] }, { accessFlags := 1, nameIndex := 54, descriptorIndex := 55, attributes := #[] }, { accessFlags := 1, nameIndex := 31, descriptorIndex := 59, attributes := #[] }] 49 2 #[] #[{ accessFlags := 18, nameIndex := 24, descriptorIndex := 25, attributes := #[] }, { accessFlags := 18, nameIndex := 28, descriptorIndex := 25, attributes := #[] }, { accessFlags := 18, nameIndex := 31, descriptorIndex := 32, attributes := #[] }])
  fields := #[{ name := "from", type := .int, accessFlags := 18, slot := 0, constantValue := 0 }, { name := "to", type := .int, accessFlags := 18, slot := 1, constantValue := 0 }, { name := "offset", type := .double, accessFlags := 18, slot := 2, constantValue := 0 }]
  methods := #[k3m0, k3m1, k3m2, k3m3]
  instanceTypes := #[.int, .int, .double]
  staticTypes := #[]
  resolved := Array.replicate 90 none
  statics := none }

def pool4 : Array CpInfo := pool [(1, u "java/lang/Cloneable"), (0, .class_ 1), (0, u "java/lang/Object"), (0, .class_ 3)] 3

/-- java/lang/Cloneable -/
def k4 : Class := { plain "java/lang/Cloneable" (some 0) with
  accessFlags := 1537
  interfaces := #[]
  cf := some (fileOf pool4 2 #[] #[] 1537 4 #[] #[])
  fields := #[]
  methods := #[]
  instanceTypes := #[]
  staticTypes := #[]
  resolved := Array.replicate 8 none
  statics := none }

def pool5 : Array CpInfo := pool [(1, u "java/io/Serializable"), (0, .class_ 1), (0, u "java/lang/Object"), (0, .class_ 3)] 3

/-- java/io/Serializable -/
def k5 : Class := { plain "java/io/Serializable" (some 0) with
  accessFlags := 1537
  interfaces := #[]
  cf := some (fileOf pool5 2 #[] #[] 1537 4 #[] #[])
  fields := #[]
  methods := #[]
  instanceTypes := #[]
  staticTypes := #[]
  resolved := Array.replicate 8 none
  statics := none }

/-- the primitive byte -/
def k6 : Class := { plain "byte" none with kind := .primitive 'B', accessFlags := 0x411 }
/-- [B -/
def k7 : Class := { plain "[B" (some 0) with kind := .array 6 .byte, interfaces := #[4, 5], accessFlags := 1041 }

/-- the primitive int -/
def k8 : Class := { plain "int" none with kind := .primitive 'I', accessFlags := 0x411 }
/-- [I -/
def k9 : Class := { plain "[I" (some 0) with kind := .array 8 .int, interfaces := #[4, 5], accessFlags := 1041 }

def heap : Heap := #[]
def classes : Array Class := #[k0, k1, k2, k3, k4, k5, k6, k7, k8, k9]
def interned : List (Array UInt16 × Addr) := []
def slotsUsed : Nat := 0
def theMethod : MethodId := ⟨1, 1⟩
def args0 : Array Value := #[.int 1, .int 2, .int 3, .int 4]
def aboutOver (below : List Frame) : State where
  vm := { classes := classes, interned := interned.toArray }
  heap := heap
  slotsUsed := slotsUsed
  threads := #[{ frames := .invoking theMethod args0 :: below }]
def below0 : List Frame := [.native { method := ⟨0, 0⟩, args := #[] }]
def about1 : State := aboutOver below0
def p0 : Program := .bare "" "" ""
def e0 : Env := launch0.env 0 0 0
theorem w_frames : about1.frames = Frame.invoking theMethod args0 :: below0 := rfl
set_option maxRecDepth 65536 in
theorem w_args : argsFit about1.vm theMethod args0 = true := by decide +kernel
set_option maxRecDepth 65536 in
theorem w_heap : heapFits about1 = true := by decide +kernel
set_option maxRecDepth 65536 in
theorem w_runnable : about1.curStatus? = some .runnable := by decide +kernel
set_option maxRecDepth 65536 in
theorem w_alone : about1.alone = true := by decide +kernel
set_option maxRecDepth 65536 in
theorem w_named : about1.methodNamed? x = some theMethod := by decide +kernel
set_option maxRecDepth 65536 in
theorem w_hears : about1.hears theMethod below0 = true := by decide +kernel
set_option maxRecDepth 65536 in
theorem w_ripe : about1.ripe theMethod args0 below0 = true := by decide +kernel
theorem w_running : about1.status = .running := rfl
set_option maxRecDepth 65536 in
theorem w_room : about1.hasRoom e0.platform room_1 = true :=
  launch0.hasRoom_least _ room_1 (by decide +kernel) (by decide +kernel) (by decide +kernel) (by decide +kernel) (by decide +kernel) (by decide +kernel)
theorem allAtoms_all (ts : List Jvm.Cond) (a : Array Jvm.Value) (st : Jvm.State) : (allAtoms ts).before a st = ts.all (fun c => c.before a st) := by
  induction ts with
  | nil => rfl
  | cons c t ih =>
    show (Jvm.Cond.and c (allAtoms t)).before a st = _
    rw [Jvm.Cond.before_and, ih, List.all_cons]
def words1 : List Jvm.Cond := Jvm.Cond.code x code maxLocals ret :: tables_1
/-- a 'code' word, met by the world's own term for the bytes: nothing is compared byte by byte -/
theorem code_word {y : MethodName} {bytes : ByteArray} {mx : Nat} {rt : Option FieldType} {a : Array Value} {s : State} {m : MethodId} {meth : Method} {c : Code} (h1 : s.methodNamed? y = some m) (h2 : s.vm.method? m = some meth) (h3 : meth.code = some c) (h4 : c.code = bytes)
    (h5 : (c.maxLocals == mx && c.exceptionTable.isEmpty && decide (c.maxStack ≤ mostOperands) && decide (meth.sig.returnType = rt) && !meth.locks && decide (parseMethodDescriptor y.desc = some meth.sig)) = true) : (Jvm.Cond.code y bytes mx rt).before a s = true := by
  simp only [Bool.and_eq_true, beq_iff_eq, Bool.not_eq_true', decide_eq_true_eq] at h5
  obtain ⟨⟨⟨⟨⟨g1, g2⟩, g3⟩, g4⟩, g5⟩, g6⟩ := h5
  simp [Cond.before, Cond.holds, Cond.value, h1, h2, h3, h4, g1, g2, g3, g4, g5, g6]
def isCode : Jvm.Cond → Bool
  | .code _ _ _ _ => true
  | _ => false
theorem all_split {L : List Jvm.Cond} {P : Jvm.Cond → Bool} (h1 : L.all (fun c => isCode c || P c) = true) (h2 : ∀ c ∈ L.filter isCode, P c = true) : L.all P = true := by
  refine List.all_eq_true.mpr fun c hc => ?_
  have h := List.all_eq_true.mp h1 c hc
  rcases Bool.eq_false_or_eq_true (isCode c) with hi | hi
  · exact h2 c (List.mem_filter.mpr ⟨hc, hi⟩)
  · simpa [hi] using h
set_option maxRecDepth 65536 in
theorem w_c0 : (Jvm.Cond.code x code maxLocals ret).before args0 about1 = true := code_word (m := ⟨1, 1⟩) (meth := k1m1) (c := k1c1) (by decide +kernel) rfl rfl rfl (by decide +kernel)
set_option maxRecDepth 65536 in
theorem w_c1 : (Jvm.Cond.code ({ cls := "com/example/itinerant/itinerant/spaces/Point", name := "<init>", desc := "(IID)V" } : Jvm.MethodName) prog_77_method_1_code (5 : Nat) (Option.none : Option Jvm.ClassFile.FieldType)).before args0 about1 = true := code_word (m := ⟨3, 0⟩) (meth := k3m0) (c := k3c0) (by decide +kernel) rfl rfl rfl (by decide +kernel)
set_option maxRecDepth 65536 in
theorem w_c2 : (Jvm.Cond.code ({ cls := "java/lang/Record", name := "<init>", desc := "()V" } : Jvm.MethodName) jdk_30_method_1_code (1 : Nat) (Option.none : Option Jvm.ClassFile.FieldType)).before args0 about1 = true := code_word (m := ⟨2, 0⟩) (meth := k2m0) (c := k2c0) (by decide +kernel) rfl rfl rfl (by decide +kernel)
set_option maxRecDepth 65536 in
theorem w_c3 : (Jvm.Cond.code ({ cls := "java/lang/Object", name := "<init>", desc := "()V" } : Jvm.MethodName) object_method_1_code (1 : Nat) (Option.none : Option Jvm.ClassFile.FieldType)).before args0 about1 = true := code_word (m := ⟨0, 0⟩) (meth := k0m0) (c := k0c0) (by decide +kernel) rfl rfl rfl (by decide +kernel)
set_option maxRecDepth 65536 in
theorem w_c4 : (Jvm.Cond.code ({ cls := "com/example/itinerant/itinerant/spaces/Point", name := "isNode", desc := "()Z" } : Jvm.MethodName) prog_77_method_3_code (1 : Nat) (Option.some Jvm.ClassFile.FieldType.boolean)).before args0 about1 = true := code_word (m := ⟨3, 2⟩) (meth := k3m2) (c := k3c2) (by decide +kernel) rfl rfl rfl (by decide +kernel)
set_option maxRecDepth 65536 in
theorem w_c5 : (Jvm.Cond.code ({ cls := "com/example/itinerant/itinerant/spaces/Point", name := "offset", desc := "()D" } : Jvm.MethodName) prog_77_method_9_code (1 : Nat) (Option.some Jvm.ClassFile.FieldType.double)).before args0 about1 = true := code_word (m := ⟨3, 3⟩) (meth := k3m3) (c := k3c3) (by decide +kernel) rfl rfl rfl (by decide +kernel)
set_option maxRecDepth 65536 in
theorem w_c6 : (Jvm.Cond.code ({ cls := "com/example/itinerant/itinerant/spaces/Point", name := "node", desc := "(I)Lcom/example/itinerant/itinerant/spaces/Point;" } : Jvm.MethodName) prog_77_method_2_code (1 : Nat) (Option.some (Jvm.ClassFile.FieldType.object "com/example/itinerant/itinerant/spaces/Point"))).before args0 about1 = true := code_word (m := ⟨3, 1⟩) (meth := k3m1) (c := k3c1) (by decide +kernel) rfl rfl rfl (by decide +kernel)
def codes1 : List Jvm.Cond := [Jvm.Cond.code x code maxLocals ret, Jvm.Cond.code ({ cls := "com/example/itinerant/itinerant/spaces/Point", name := "<init>", desc := "(IID)V" } : Jvm.MethodName) prog_77_method_1_code (5 : Nat) (Option.none : Option Jvm.ClassFile.FieldType), Jvm.Cond.code ({ cls := "java/lang/Record", name := "<init>", desc := "()V" } : Jvm.MethodName) jdk_30_method_1_code (1 : Nat) (Option.none : Option Jvm.ClassFile.FieldType), Jvm.Cond.code ({ cls := "java/lang/Object", name := "<init>", desc := "()V" } : Jvm.MethodName) object_method_1_code (1 : Nat) (Option.none : Option Jvm.ClassFile.FieldType), Jvm.Cond.code ({ cls := "com/example/itinerant/itinerant/spaces/Point", name := "isNode", desc := "()Z" } : Jvm.MethodName) prog_77_method_3_code (1 : Nat) (Option.some Jvm.ClassFile.FieldType.boolean), Jvm.Cond.code ({ cls := "com/example/itinerant/itinerant/spaces/Point", name := "offset", desc := "()D" } : Jvm.MethodName) prog_77_method_9_code (1 : Nat) (Option.some Jvm.ClassFile.FieldType.double), Jvm.Cond.code ({ cls := "com/example/itinerant/itinerant/spaces/Point", name := "node", desc := "(I)Lcom/example/itinerant/itinerant/spaces/Point;" } : Jvm.MethodName) prog_77_method_2_code (1 : Nat) (Option.some (Jvm.ClassFile.FieldType.object "com/example/itinerant/itinerant/spaces/Point"))]
set_option maxRecDepth 65536 in
theorem codes_eq : words1.filter isCode = codes1 := rfl
theorem w_codes : ∀ c ∈ words1.filter isCode, c.before args0 about1 = true := by
  rw [codes_eq]
  intro c hc
  simp only [codes1, List.mem_cons, List.not_mem_nil, or_false] at hc
  rcases hc with rfl | rfl | rfl | rfl | rfl | rfl | rfl
  · exact w_c0
  · exact w_c1
  · exact w_c2
  · exact w_c3
  · exact w_c4
  · exact w_c5
  · exact w_c6
set_option maxRecDepth 65536 in
theorem w_t1 : (words1.take 24).all (fun c => isCode c || c.before args0 about1) = true := by decide +kernel
set_option maxRecDepth 65536 in
theorem w_t2 : (words1.drop 24).all (fun c => isCode c || c.before args0 about1) = true := by decide +kernel
theorem w_tables : (allAtoms (Jvm.Cond.code x code maxLocals ret :: tables_1)).before args0 about1 = true := by
  rw [allAtoms_all]
  show words1.all (fun c => c.before args0 about1) = true
  refine all_split ?_ w_codes
  rw [← List.take_append_drop 24 words1, List.all_append, w_t1, w_t2]
  rfl
set_option maxRecDepth 65536 in
theorem w_case : (Jvm.Cond.and given_1 narrow_1).before args0 about1 = true := by decide +kernel
theorem w_applies : (headSpec (Jvm.Cond.code x code maxLocals ret :: tables_1) room_1).applies x e0.platform about1 = true :=
  (Spec.applies_iff w_frames).mpr ⟨w_running, w_runnable, w_alone, w_named, w_hears, w_ripe, w_room, w_tables⟩
theorem atStart : AtStart classFile x code maxLocals ret World_1 tables_1 room_1 Calls_1 rest_1 Pre_1 launch0 p0 e0 about1 theMethod args0 below0 :=
  ⟨lists_1, trivial, launch0.admits_env _ _ _, launch0.least_env, fairChoices_fair.cas, fairChoices_fair.clock, w_frames, w_args, w_heap, w_applies, trivial, trivial, w_case⟩
end start1
theorem witness_1 : WitnessClaimed_1 := ⟨start1.p0, start1.e0, start1.about1, start1.theMethod, start1.args0, start1.below0, start1.atStart⟩
end Jvm.Pilot.@@N@@
