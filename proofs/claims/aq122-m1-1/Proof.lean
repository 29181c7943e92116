import JvmDerived
import JvmDerived.Pilot.@@N@@Statement
import JvmDerived.Pilot.@@N@@Code
set_option linter.unusedVariables false
set_option linter.unusedSimpArgs false
@@BLOCK:NumsL.lean.txt@@
namespace Jvm.RoadKit
open Sem ClassFile Op Lib Jvm.Stand Jvm.Free Jvm.LawKit
section New
variable {p : Program} {l : Launch} {e : Env} {R : Room} {s : State} {m : MethodId} {args : Array Value} {below : List Frame} {meth : Method} {c : Code} {T : State} {locs : List Loc} {cells slots : Nat}
theorem retI (X : Stand p l e R s m args below meth c T locs cells slots) (hx : p.tables.exec = Jvm.exec) {pc : Nat} {Ls : Array Slot} {z : Int32} {rest : List Value} (hret : meth.sig.returnType = some .int) (hd : decode c.code pc = .ok (.ireturn, 1)) {fs : List Frame}
    (hl : ∀ (f : JFrame) (acts : List Action), f.method = m → f.locked = none → f.entered = [] → (doReturn e (T.setTop f) acts (some (.int z))).1 = T.setFrames fs) : Steps p.tables e below (T.setTop (mkF m pc Ls (.int z :: rest))) (T.setFrames fs) := by
  have hm' : T.vm.method? m = some meth := X.method'
  have hn : narrow .int (.int z) = .int z := rfl
  show Steps p.tables e below (T.setTop { method := m, pc := pc, locals := Ls, stack := _ :: rest, locked := none }) _
  jvm_step X.here [X.here.top, hx, hd, hm', hret, hn]
  first | (intro acts; rw [hl _ acts rfl rfl rfl]) | rw [hl _ _ rfl rfl rfl]
  exact Steps.refl _
end New
end Jvm.RoadKit
namespace Jvm.Pilot.@@N@@
open Jvm Jvm.ClassFile Sem Op Lib Jvm.Free Jvm.Stand Jvm.LawKit Jvm.RoadKit Bundle Jvm.Pilot.@@N@@.Jvm.D
def own_is (x k : Int32) : Int32 := if x = k then 1 else 0
theorem own_mod (a m : Int32) (hm : 0 < m.toInt) : 0 ≤ ((a &&& (2147483647 : Int32)) % m).toInt ∧ ((a &&& (2147483647 : Int32)) % m).toInt < m.toInt := by
  have h1 : (a &&& (2147483647 : Int32)).toInt = a.toInt % 2 ^ 31 := Jvm.Kit.i32_mask a 2147483647 (k := 31) (by decide) (by decide)
  have h2 : 0 ≤ (a &&& (2147483647 : Int32)).toInt := by rw [h1]; omega
  rw [Jvm.Kit.i32_rem_nonneg h2]
  exact ⟨Int.emod_nonneg _ (by omega), Int.emod_lt_of_pos _ hm⟩
theorem own_nn (a : Int32) : ¬ ((a &&& (2147483647 : Int32)) % (1000 : Int32)) < (0 : Int32) := by
  have e : (0 : Int32).toInt = 0 := by decide
  have e' : (1000 : Int32).toInt = 1000 := by decide
  have h := own_mod a 1000 (by decide)
  rw [Int32.lt_iff_toInt_lt, e]; omega
theorem own_le (a : Int32) : ¬ (999 : Int32) < ((a &&& (2147483647 : Int32)) % (1000 : Int32)) := by
  have e : (999 : Int32).toInt = 999 := by decide
  have e' : (1000 : Int32).toInt = 1000 := by decide
  have h := own_mod a 1000 (by decide)
  rw [e'] at h
  rw [Int32.lt_iff_toInt_lt, e]; omega
theorem own_two {a : Int32} (h0 : ¬ ((a &&& (2147483647 : Int32)) % (3 : Int32)) = (0 : Int32)) (h1 : ¬ ((a &&& (2147483647 : Int32)) % (3 : Int32)) = (1 : Int32)) : ((a &&& (2147483647 : Int32)) % (3 : Int32)) = (2 : Int32) := by
  have e0 : (0 : Int32).toInt = 0 := by decide
  have e1 : (1 : Int32).toInt = 1 := by decide
  have e2 : (2 : Int32).toInt = 2 := by decide
  have e3 : (3 : Int32).toInt = 3 := by decide
  have h := own_mod a 3 (by decide)
  rw [← Int32.toInt_inj] at *
  rw [e3] at h
  omega
theorem d2_0 : decode jdk_30_method_1_code 0 = .ok (.aload_n 0, 1) := by decide +kernel
theorem d2_1 : decode jdk_30_method_1_code 1 = .ok (.invokespecial 1, 3) := by decide +kernel
theorem d2_4 : decode jdk_30_method_1_code 4 = .ok (.return_, 1) := by decide +kernel
theorem pn_0 : plainName "java/lang/Record" = true := by first | (simp [plainName, overriddenIn]; done) | decide +kernel
theorem ef_rmR (m : MethodId) (x0 : Addr) : entryFrame m #[(.ref x0)] 1 = mkF m 0 #[.val (.ref x0)] [] := by first | (simp [entryFrame, mkF, argsToLocals, Value.category]; done) | rfl
def QR (Z : State) (a1 : Addr) (h0 : Heap) (n0 : Nat) (v : Option Value) (h : Heap) (L : List Loc) : Prop := v = none ∧ Fr n0 L ∧ h = h0
set_option maxRecDepth 65536 in
set_option maxHeartbeats 40000000 in
theorem rmR (l : Launch) (Z : State) (a0 : Array Value) (hw : ∀ d ∈ tables_1, d.before a0 Z = true) (ws : List Jvm.Cond) (a1 : Addr) (h0 : Heap) (n0 : Nat) (Z0 : n0 ≤ h0.size) :
    MetFree l (⟨"java/lang/Record", "<init>", "()V"⟩ : MethodName) (head1 (Jvm.Cond.code (⟨"java/lang/Record", "<init>", "()V"⟩ : MethodName) jdk_30_method_1_code 1 none :: ws) ({ frames := 1, cells := 0, slots := 0, locals := 12 } : Room)) (fun a U => a = #[(.ref a1)] ∧ Z.Warmed39 U.vm ∧ U.heap = h0) (fun _ _ _ _ _ => True) (fun _ U o U' => ∃ v L, o = .returned v ∧ QR Z a1 h0 n0 v U'.heap L ∧ FrameEnd U o U' L ({ frames := 1, cells := 0, slots := 0, locals := 12 } : Room).cells ({ frames := 1, cells := 0, slots := 0, locals := 12 } : Room).slots) := by
  refine MetFree.of_bodySF (plainFor_of_name pn_0) hisR ?_
  intro p e s m args below meth c s₁ Bd hml0 hP hK
  obtain ⟨rfl, hZ, hh⟩ := hP
  have hx := Bd.exec
  have hby := Bd.bytes
  have hml : c.maxLocals = 1 := hml0
  have hown : s.vm.findClass "java/lang/Record" = some m.cls := findClass_of_methodNamed Bd.named
  have hnm := (name_of_methodNamed Bd.named Bd.method).1
  have X0 : Stand p l e ({ frames := 1, cells := 0, slots := 0, locals := 12 } : Room) s m #[(.ref a1)] below meth c s₁ [] 0 0 := Stand.of_body Bd
  have e0 : s₁.heap = h0 := by rw [← hh, Bd.state]; rfl
  have N0 := Fr.nil n0
  have pre0 : ∀ t, Steps p.tables e below (s₁.setTop (mkF m 0 #[.val (.ref a1)] [])) t → Steps p.tables e below (s₁.setTop (entryFrame m #[(.ref a1)] 1)) t := fun t k => castTop (ef_rmR m a1) k
  obtain ⟨T1, X1, e1, st1⟩ := initO X0 hx hZ hown (hw _ (List.mem_of_getElem? (i := 12) rfl)) (hw _ (List.mem_of_getElem? (i := 13) rfl)) (hw _ (List.mem_of_getElem? (i := 14) rfl)) e0 (g := (mkF m 1 #[.val (.ref a1)] [(.ref a1)])) rfl (by rw [hml]; rfl) rfl (hb hby d2_1) (by decide) (W := 0) (by show 2 * 0 + _ ≤ _; exact Nat.le_of_eq rfl) (by decide)
  have P2 : ∀ t, Steps p.tables e below (T1.setTop (mkF m 4 #[.val (.ref a1)] [])) t → Steps p.tables e below (s₁.setTop (entryFrame m #[(.ref a1)] 1)) t := fun t kt => pre0 t (by
    show Steps p.tables e below (s₁.setTop (mkF m 0 #[.val (.ref a1)] [])) _
    refine XS.aloadN X0.here hx rfl (hb hby d2_0) rfl rfl ?_
    show Steps p.tables e below (s₁.setTop (mkF m 1 #[.val (.ref a1)] [(.ref a1)])) _
    refine st1 _ ?_
    exact kt)
  obtain ⟨fs, hr, hrun, hended, hW, hsame⟩ := X1.leave (v := none) (fun _ => rfl)
  refine ⟨_, _, P2 _ ?_, hrun, hended, _, _, rfl, ?_, ⟨_, rfl⟩, hW, hsame.mono (by decide) (by decide)⟩
  · exact X1.returnOut hx Bd.returns (hb hby d2_4) hr
  · show QR Z a1 h0 n0 _ T1.heap _
    rw [e1]
    exact ⟨rfl, N0, rfl⟩
theorem d1_0 : decode prog_14_method_1_code 0 = .ok (.aload_n 0, 1) := by decide +kernel
theorem d1_1 : decode prog_14_method_1_code 1 = .ok (.invokespecial 1, 3) := by decide +kernel
theorem d1_4 : decode prog_14_method_1_code 4 = .ok (.iload_n 1, 1) := by decide +kernel
theorem d1_5 : decode prog_14_method_1_code 5 = .ok (.iconst 2, 1) := by decide +kernel
theorem d1_6 : decode prog_14_method_1_code 6 = .ok (.if_icmp .eq 27, 3) := by decide +kernel
theorem d1_9 : decode prog_14_method_1_code 9 = .ok (.iload_n 1, 1) := by decide +kernel
theorem d1_10 : decode prog_14_method_1_code 10 = .ok (.iconst 4, 1) := by decide +kernel
theorem d1_11 : decode prog_14_method_1_code 11 = .ok (.if_icmp .eq 22, 3) := by decide +kernel
theorem d1_14 : decode prog_14_method_1_code 14 = .ok (.iload_n 1, 1) := by decide +kernel
theorem d1_15 : decode prog_14_method_1_code 15 = .ok (.iconst 5, 1) := by decide +kernel
theorem d1_16 : decode prog_14_method_1_code 16 = .ok (.if_icmp .eq 17, 3) := by decide +kernel
theorem d1_33 : decode prog_14_method_1_code 33 = .ok (.iload_n 2, 1) := by decide +kernel
theorem d1_34 : decode prog_14_method_1_code 34 = .ok (.ifCond .lt 10, 3) := by decide +kernel
theorem d1_37 : decode prog_14_method_1_code 37 = .ok (.iload_n 2, 1) := by decide +kernel
theorem d1_38 : decode prog_14_method_1_code 38 = .ok (.sipush 999, 3) := by decide +kernel
theorem d1_41 : decode prog_14_method_1_code 41 = .ok (.if_icmp .le 17, 3) := by decide +kernel
theorem d1_58 : decode prog_14_method_1_code 58 = .ok (.iload_n 3, 1) := by decide +kernel
theorem d1_59 : decode prog_14_method_1_code 59 = .ok (.ifCond .lt 10, 3) := by decide +kernel
theorem d1_62 : decode prog_14_method_1_code 62 = .ok (.iload_n 3, 1) := by decide +kernel
theorem d1_63 : decode prog_14_method_1_code 63 = .ok (.sipush 999, 3) := by decide +kernel
theorem d1_66 : decode prog_14_method_1_code 66 = .ok (.if_icmp .le 17, 3) := by decide +kernel
theorem d1_83 : decode prog_14_method_1_code 83 = .ok (.aload_n 0, 1) := by decide +kernel
theorem d1_84 : decode prog_14_method_1_code 84 = .ok (.iload_n 1, 1) := by decide +kernel
theorem d1_85 : decode prog_14_method_1_code 85 = .ok (.putfield 20, 3) := by decide +kernel
theorem d1_88 : decode prog_14_method_1_code 88 = .ok (.aload_n 0, 1) := by decide +kernel
theorem d1_89 : decode prog_14_method_1_code 89 = .ok (.iload_n 2, 1) := by decide +kernel
theorem d1_90 : decode prog_14_method_1_code 90 = .ok (.putfield 24, 3) := by decide +kernel
theorem d1_93 : decode prog_14_method_1_code 93 = .ok (.aload_n 0, 1) := by decide +kernel
theorem d1_94 : decode prog_14_method_1_code 94 = .ok (.iload_n 3, 1) := by decide +kernel
theorem d1_95 : decode prog_14_method_1_code 95 = .ok (.putfield 27, 3) := by decide +kernel
theorem d1_98 : decode prog_14_method_1_code 98 = .ok (.return_, 1) := by decide +kernel
theorem pn_1 : plainName "com/example/mail_delivery_tracker/maildeliverytracker/mail/EnhancedStatusCode" = true := by first | (simp [plainName, overriddenIn]; done) | decide +kernel
theorem pd_0 : parseMethodDescriptor "()V" = some ⟨[], none⟩ := by decide +kernel
theorem ef_rmE (m : MethodId) (x0 : Addr) (x1 : Int32) (x2 : Int32) (x3 : Int32) : entryFrame m #[(.ref x0), (.int x1), (.int x2), (.int x3)] 4 = mkF m 0 #[.val (.ref x0), .val (.int x1), .val (.int x2), .val (.int x3)] [] := by first | (simp [entryFrame, mkF, argsToLocals, Value.category]; done) | rfl
def QE (Z : State) (a1 : Addr) (p2 : Int32) (p3 : Int32) (p4 : Int32) (h0 : Heap) (n0 : Nat) (v : Option Value) (h : Heap) (L : List Loc) : Prop := v = none ∧ Fr n0 L ∧ Keep h0 h [a1] ∧ Exa Z h a1 "com/example/mail_delivery_tracker/maildeliverytracker/mail/EnhancedStatusCode" ∧ Fld Z h a1 "com/example/mail_delivery_tracker/maildeliverytracker/mail/EnhancedStatusCode" "statusClass" "I" (.int p2) ∧ Fld Z h a1 "com/example/mail_delivery_tracker/maildeliverytracker/mail/EnhancedStatusCode" "subject" "I" (.int p3) ∧ Fld Z h a1 "com/example/mail_delivery_tracker/maildeliverytracker/mail/EnhancedStatusCode" "detail" "I" (.int p4)
set_option maxRecDepth 65536 in
set_option maxHeartbeats 40000000 in
theorem rmE (l : Launch) (Z : State) (a0 : Array Value) (hw : ∀ d ∈ tables_1, d.before a0 Z = true) (ws : List Jvm.Cond) (a1 : Addr) (p2 : Int32) (p3 : Int32) (p4 : Int32) (h0 : Heap) (n0 : Nat) (Z0 : n0 ≤ h0.size) (E_a1 : Exa Z h0 a1 "com/example/mail_delivery_tracker/maildeliverytracker/mail/EnhancedStatusCode") (F_a1_statusClass : Fld Z h0 a1 "com/example/mail_delivery_tracker/maildeliverytracker/mail/EnhancedStatusCode" "statusClass" "I" (.int (0 : Int32))) (F_a1_subject : Fld Z h0 a1 "com/example/mail_delivery_tracker/maildeliverytracker/mail/EnhancedStatusCode" "subject" "I" (.int (0 : Int32))) (F_a1_detail : Fld Z h0 a1 "com/example/mail_delivery_tracker/maildeliverytracker/mail/EnhancedStatusCode" "detail" "I" (.int (0 : Int32))) (g_a1 : n0 ≤ a1) (hk : p2 = (2 : Int32) ∨ p2 = (4 : Int32) ∨ p2 = (5 : Int32)) (hs1 : ¬ p3 < (0 : Int32)) (hs2 : ¬ (999 : Int32) < p3) (hd1 : ¬ p4 < (0 : Int32)) (hd2 : ¬ (999 : Int32) < p4) :
    MetFree l (⟨"com/example/mail_delivery_tracker/maildeliverytracker/mail/EnhancedStatusCode", "<init>", "(III)V"⟩ : MethodName) (head1 (Jvm.Cond.code (⟨"com/example/mail_delivery_tracker/maildeliverytracker/mail/EnhancedStatusCode", "<init>", "(III)V"⟩ : MethodName) prog_14_method_1_code 4 none :: ws) ({ frames := 2, cells := 0, slots := 0, locals := 24 } : Room)) (fun a U => a = #[(.ref a1), (.int p2), (.int p3), (.int p4)] ∧ Z.Warmed39 U.vm ∧ U.heap = h0) (fun _ _ _ _ _ => True) (fun _ U o U' => ∃ v L, o = .returned v ∧ QE Z a1 p2 p3 p4 h0 n0 v U'.heap L ∧ FrameEnd U o U' L ({ frames := 2, cells := 0, slots := 0, locals := 24 } : Room).cells ({ frames := 2, cells := 0, slots := 0, locals := 24 } : Room).slots) := by
  refine MetFree.of_bodySF (plainFor_of_name pn_1) hisR ?_
  intro p e s m args below meth c s₁ Bd hml0 hP hK
  obtain ⟨rfl, hZ, hh⟩ := hP
  have hx := Bd.exec
  have hby := Bd.bytes
  have hml : c.maxLocals = 4 := hml0
  have hown : s.vm.findClass "com/example/mail_delivery_tracker/maildeliverytracker/mail/EnhancedStatusCode" = some m.cls := findClass_of_methodNamed Bd.named
  have hnm := (name_of_methodNamed Bd.named Bd.method).1
  have X0 : Stand p l e ({ frames := 2, cells := 0, slots := 0, locals := 24 } : Room) s m #[(.ref a1), (.int p2), (.int p3), (.int p4)] below meth c s₁ [] 0 0 := Stand.of_body Bd
  have e0 : s₁.heap = h0 := by rw [← hh, Bd.state]; rfl
  have N0 := Fr.nil n0
  have pre0 : ∀ t, Steps p.tables e below (s₁.setTop (mkF m 0 #[.val (.ref a1), .val (.int p2), .val (.int p3), .val (.int p4)] [])) t → Steps p.tables e below (s₁.setTop (entryFrame m #[(.ref a1), (.int p2), (.int p3), (.int p4)] 4)) t := fun t k => castTop (ef_rmE m a1 p2 p3 p4) k
  have K0 := Keep.refl h0 [a1]
  obtain ⟨_, _, ⟨T1, L1, k1, n1⟩, -, X1, ⟨Lc1, hQ1, l1, y1, z1⟩, st1⟩ := X0.specialBack hx (y := (⟨"java/lang/Record", "<init>", "()V"⟩ : MethodName)) rfl hown (mvT hZ (hw _ (List.mem_of_getElem? (i := 7) rfl))) (mvT hZ (hw _ (List.mem_of_getElem? (i := 8) rfl))) (mvT hZ (hw _ (List.mem_of_getElem? (i := 11) rfl))) (by decide) (backOf (W := 0) (rmR l Z a0 hw [] a1 h0 n0 Z0) hZ (hw _ (List.mem_of_getElem? (i := 11) rfl)) (hw _ (List.mem_of_getElem? (i := 10) rfl)) (by decide) (by decide)) (g := (mkF m 1 #[.val (.ref a1), .val (.int p2), .val (.int p3), .val (.int p4)] [(.ref a1)])) rfl (by rw [hml]; rfl) (Steps.refl _) (a := a1) (argsL := []) (rest := []) (lenOf pd_0 rfl) rfl (by show 2 * 0 + _ ≤ _; exact Nat.le_of_eq rfl) (hb hby d1_1) (fun _ _ => ⟨rfl, e0, (by decide : 0 + 0 ≤ _), (by decide : 0 + 0 ≤ _)⟩)
  dsimp only [Pt.U, Pt.locs, Pt.cells, Pt.slots] at X1 l1 y1 z1 st1 hQ1
  subst l1 y1 z1
  obtain ⟨rfl, N1q, e1⟩ := hQ1
  have N1 := Fr.app N0 N1q
  have P3 : ∀ t, Steps p.tables e below (T1.setTop (mkF m 6 #[.val (.ref a1), .val (.int p2), .val (.int p3), .val (.int p4)] [(.int (2 : Int32)), (.int p2)])) t → Steps p.tables e below (s₁.setTop (entryFrame m #[(.ref a1), (.int p2), (.int p3), (.int p4)] 4)) t := fun t kt => pre0 t (by
    show Steps p.tables e below (s₁.setTop (mkF m 0 #[.val (.ref a1), .val (.int p2), .val (.int p3), .val (.int p4)] [])) _
    refine XS.aloadN X0.here hx rfl (hb hby d1_0) rfl rfl ?_
    show Steps p.tables e below (s₁.setTop (mkF m 1 #[.val (.ref a1), .val (.int p2), .val (.int p3), .val (.int p4)] [(.ref a1)])) _
    refine st1.trans ?_
    show Steps p.tables e below (T1.setTop (mkF m 4 #[.val (.ref a1), .val (.int p2), .val (.int p3), .val (.int p4)] [])) _
    refine XS.iloadN X1.here hx rfl (hb hby d1_4) rfl ?_
    show Steps p.tables e below (T1.setTop (mkF m 5 #[.val (.ref a1), .val (.int p2), .val (.int p3), .val (.int p4)] [(.int p2)])) _
    refine XS.iconst X1.here hx rfl (hb hby d1_5) ?_
    exact kt)
  by_cases hc6_2 : p2 = (2 : Int32)
  · skip
    have hc34_4 : ¬ (p3 < (0 : Int32)) := hs1
    have hc41_5 : ¬ ((999 : Int32) < p3) := hs2
    have hc59_6 : ¬ (p4 < (0 : Int32)) := hd1
    have hc66_7 : ¬ ((999 : Int32) < p4) := hd2
    obtain ⟨T8, h8, X8, e8, W8, st8⟩ := putF X1 hx hZ hown (host := "") (Or.inl (hw _ (List.mem_of_getElem? (i := 15) rfl))) Via.refl e1 F_a1_statusClass E_a1 (Or.inr ⟨(hw _ (List.mem_of_getElem? (i := 16) rfl)), rfl, hnm⟩) (hw _ (List.mem_of_getElem? (i := 2) rfl)) (ty := .int) (by decide) rfl rfl (g := (mkF m 85 #[.val (.ref a1), .val (.int p2), .val (.int p3), .val (.int p4)] [(.int p2), (.ref a1)])) rfl rfl (hb hby d1_85)
    have c9 := E_a1.wr W8
    have c10 := F_a1_subject.other W8 (Or.inr (slot_ne (Or.inr (hw _ (List.mem_of_getElem? (i := 18) rfl))) (Or.inr (hw _ (List.mem_of_getElem? (i := 16) rfl))) (by decide) (t := .int) (t' := .int) (by decide) (by decide)))
    have c11 := F_a1_detail.other W8 (Or.inr (slot_ne (Or.inr (hw _ (List.mem_of_getElem? (i := 20) rfl))) (Or.inr (hw _ (List.mem_of_getElem? (i := 16) rfl))) (by decide) (t := .int) (t' := .int) (by decide) (by decide)))
    have Zs8 : n0 ≤ h8.size := Nat.le_trans Z0 (Keep.of_wr W8).1
    have K8 := K0.wr W8 (Or.inl (List.mem_of_getElem? (i := 0) rfl))
    have N8 := Fr.snoc X8 N1 g_a1
    have Fw8 := F_a1_statusClass.same W8
    obtain ⟨T12, h12, X12, e12, W12, st12⟩ := putF X8 hx hZ hown (host := "") (Or.inl (hw _ (List.mem_of_getElem? (i := 17) rfl))) Via.refl e8 c10 c9 (Or.inr ⟨(hw _ (List.mem_of_getElem? (i := 18) rfl)), rfl, hnm⟩) (hw _ (List.mem_of_getElem? (i := 2) rfl)) (ty := .int) (by decide) rfl rfl (g := (mkF m 90 #[.val (.ref a1), .val (.int p2), .val (.int p3), .val (.int p4)] [(.int p3), (.ref a1)])) rfl rfl (hb hby d1_90)
    have c13 := c9.wr W12
    have c14 := c11.other W12 (Or.inr (slot_ne (Or.inr (hw _ (List.mem_of_getElem? (i := 20) rfl))) (Or.inr (hw _ (List.mem_of_getElem? (i := 18) rfl))) (by decide) (t := .int) (t' := .int) (by decide) (by decide)))
    have c15 := Fw8.other W12 (Or.inr (slot_ne (Or.inr (hw _ (List.mem_of_getElem? (i := 16) rfl))) (Or.inr (hw _ (List.mem_of_getElem? (i := 18) rfl))) (by decide) (t := .int) (t' := .int) (by decide) (by decide)))
    have Zs12 : n0 ≤ h12.size := Nat.le_trans Zs8 (Keep.of_wr W12).1
    have K12 := K8.wr W12 (Or.inl (List.mem_of_getElem? (i := 0) rfl))
    have N12 := Fr.snoc X12 N8 g_a1
    have Fw12 := c10.same W12
    obtain ⟨T16, h16, X16, e16, W16, st16⟩ := putF X12 hx hZ hown (host := "") (Or.inl (hw _ (List.mem_of_getElem? (i := 19) rfl))) Via.refl e12 c14 c13 (Or.inr ⟨(hw _ (List.mem_of_getElem? (i := 20) rfl)), rfl, hnm⟩) (hw _ (List.mem_of_getElem? (i := 2) rfl)) (ty := .int) (by decide) rfl rfl (g := (mkF m 95 #[.val (.ref a1), .val (.int p2), .val (.int p3), .val (.int p4)] [(.int p4), (.ref a1)])) rfl rfl (hb hby d1_95)
    have c17 := c13.wr W16
    have c18 := c15.other W16 (Or.inr (slot_ne (Or.inr (hw _ (List.mem_of_getElem? (i := 16) rfl))) (Or.inr (hw _ (List.mem_of_getElem? (i := 20) rfl))) (by decide) (t := .int) (t' := .int) (by decide) (by decide)))
    have c19 := Fw12.other W16 (Or.inr (slot_ne (Or.inr (hw _ (List.mem_of_getElem? (i := 18) rfl))) (Or.inr (hw _ (List.mem_of_getElem? (i := 20) rfl))) (by decide) (t := .int) (t' := .int) (by decide) (by decide)))
    have Zs16 : n0 ≤ h16.size := Nat.le_trans Zs12 (Keep.of_wr W16).1
    have K16 := K12.wr W16 (Or.inl (List.mem_of_getElem? (i := 0) rfl))
    have N16 := Fr.snoc X16 N12 g_a1
    have Fw16 := c14.same W16
    have P20 : ∀ t, Steps p.tables e below (T16.setTop (mkF m 98 #[.val (.ref a1), .val (.int p2), .val (.int p3), .val (.int p4)] [])) t → Steps p.tables e below (s₁.setTop (entryFrame m #[(.ref a1), (.int p2), (.int p3), (.int p4)] 4)) t := fun t kt => P3 t (by
      show Steps p.tables e below (T1.setTop (mkF m 6 #[.val (.ref a1), .val (.int p2), .val (.int p3), .val (.int p4)] [(.int (2 : Int32)), (.int p2)])) _
      refine XS.icmpYes X1.here hx rfl (pc0 := 6) (pc' := 33) rfl (hb hby d1_6) rfl (XT.ii_eq_t hc6_2) (by decide) (by decide) ?_
      show Steps p.tables e below (T1.setTop (mkF m 33 #[.val (.ref a1), .val (.int p2), .val (.int p3), .val (.int p4)] [])) _
      refine XS.iloadN X1.here hx rfl (hb hby d1_33) rfl ?_
      show Steps p.tables e below (T1.setTop (mkF m 34 #[.val (.ref a1), .val (.int p2), .val (.int p3), .val (.int p4)] [(.int p3)])) _
      refine XS.ifNo X1.here hx rfl (hb hby d1_34) rfl (XT.i0_lt_f hc34_4) ?_
      show Steps p.tables e below (T1.setTop (mkF m 37 #[.val (.ref a1), .val (.int p2), .val (.int p3), .val (.int p4)] [])) _
      refine XS.iloadN X1.here hx rfl (hb hby d1_37) rfl ?_
      show Steps p.tables e below (T1.setTop (mkF m 38 #[.val (.ref a1), .val (.int p2), .val (.int p3), .val (.int p4)] [(.int p3)])) _
      refine XS.sipush X1.here hx rfl (hb hby d1_38) ?_
      show Steps p.tables e below (T1.setTop (mkF m 41 #[.val (.ref a1), .val (.int p2), .val (.int p3), .val (.int p4)] [(.int (999 : Int32)), (.int p3)])) _
      refine XS.icmpYes X1.here hx rfl (pc0 := 41) (pc' := 58) rfl (hb hby d1_41) rfl (XT.ii_le_t hc41_5) (by decide) (by decide) ?_
      show Steps p.tables e below (T1.setTop (mkF m 58 #[.val (.ref a1), .val (.int p2), .val (.int p3), .val (.int p4)] [])) _
      refine XS.iloadN X1.here hx rfl (hb hby d1_58) rfl ?_
      show Steps p.tables e below (T1.setTop (mkF m 59 #[.val (.ref a1), .val (.int p2), .val (.int p3), .val (.int p4)] [(.int p4)])) _
      refine XS.ifNo X1.here hx rfl (hb hby d1_59) rfl (XT.i0_lt_f hc59_6) ?_
      show Steps p.tables e below (T1.setTop (mkF m 62 #[.val (.ref a1), .val (.int p2), .val (.int p3), .val (.int p4)] [])) _
      refine XS.iloadN X1.here hx rfl (hb hby d1_62) rfl ?_
      show Steps p.tables e below (T1.setTop (mkF m 63 #[.val (.ref a1), .val (.int p2), .val (.int p3), .val (.int p4)] [(.int p4)])) _
      refine XS.sipush X1.here hx rfl (hb hby d1_63) ?_
      show Steps p.tables e below (T1.setTop (mkF m 66 #[.val (.ref a1), .val (.int p2), .val (.int p3), .val (.int p4)] [(.int (999 : Int32)), (.int p4)])) _
      refine XS.icmpYes X1.here hx rfl (pc0 := 66) (pc' := 83) rfl (hb hby d1_66) rfl (XT.ii_le_t hc66_7) (by decide) (by decide) ?_
      show Steps p.tables e below (T1.setTop (mkF m 83 #[.val (.ref a1), .val (.int p2), .val (.int p3), .val (.int p4)] [])) _
      refine XS.aloadN X1.here hx rfl (hb hby d1_83) rfl rfl ?_
      show Steps p.tables e below (T1.setTop (mkF m 84 #[.val (.ref a1), .val (.int p2), .val (.int p3), .val (.int p4)] [(.ref a1)])) _
      refine XS.iloadN X1.here hx rfl (hb hby d1_84) rfl ?_
      show Steps p.tables e below (T1.setTop (mkF m 85 #[.val (.ref a1), .val (.int p2), .val (.int p3), .val (.int p4)] [(.int p2), (.ref a1)])) _
      refine st8 _ ?_
      show Steps p.tables e below (T8.setTop (mkF m 88 #[.val (.ref a1), .val (.int p2), .val (.int p3), .val (.int p4)] [])) _
      refine XS.aloadN X8.here hx rfl (hb hby d1_88) rfl rfl ?_
      show Steps p.tables e below (T8.setTop (mkF m 89 #[.val (.ref a1), .val (.int p2), .val (.int p3), .val (.int p4)] [(.ref a1)])) _
      refine XS.iloadN X8.here hx rfl (hb hby d1_89) rfl ?_
      show Steps p.tables e below (T8.setTop (mkF m 90 #[.val (.ref a1), .val (.int p2), .val (.int p3), .val (.int p4)] [(.int p3), (.ref a1)])) _
      refine st12 _ ?_
      show Steps p.tables e below (T12.setTop (mkF m 93 #[.val (.ref a1), .val (.int p2), .val (.int p3), .val (.int p4)] [])) _
      refine XS.aloadN X12.here hx rfl (hb hby d1_93) rfl rfl ?_
      show Steps p.tables e below (T12.setTop (mkF m 94 #[.val (.ref a1), .val (.int p2), .val (.int p3), .val (.int p4)] [(.ref a1)])) _
      refine XS.iloadN X12.here hx rfl (hb hby d1_94) rfl ?_
      show Steps p.tables e below (T12.setTop (mkF m 95 #[.val (.ref a1), .val (.int p2), .val (.int p3), .val (.int p4)] [(.int p4), (.ref a1)])) _
      refine st16 _ ?_
      exact kt)
    obtain ⟨fs, hr, hrun, hended, hW, hsame⟩ := X16.leave (v := none) (fun _ => rfl)
    refine ⟨_, _, P20 _ ?_, hrun, hended, _, _, rfl, ?_, ⟨_, rfl⟩, hW, hsame.mono (by decide) (by decide)⟩
    · exact X16.returnOut hx Bd.returns (hb hby d1_98) hr
    · show QE Z a1 p2 p3 p4 h0 n0 _ T16.heap _
      rw [e16]
      exact ⟨rfl, N16, K16, c17, c18, c19, Fw16⟩
  · skip
    have P22 : ∀ t, Steps p.tables e below (T1.setTop (mkF m 11 #[.val (.ref a1), .val (.int p2), .val (.int p3), .val (.int p4)] [(.int (4 : Int32)), (.int p2)])) t → Steps p.tables e below (s₁.setTop (entryFrame m #[(.ref a1), (.int p2), (.int p3), (.int p4)] 4)) t := fun t kt => P3 t (by
      show Steps p.tables e below (T1.setTop (mkF m 6 #[.val (.ref a1), .val (.int p2), .val (.int p3), .val (.int p4)] [(.int (2 : Int32)), (.int p2)])) _
      refine XS.icmpNo X1.here hx rfl (hb hby d1_6) rfl (XT.ii_eq_f hc6_2) ?_
      show Steps p.tables e below (T1.setTop (mkF m 9 #[.val (.ref a1), .val (.int p2), .val (.int p3), .val (.int p4)] [])) _
      refine XS.iloadN X1.here hx rfl (hb hby d1_9) rfl ?_
      show Steps p.tables e below (T1.setTop (mkF m 10 #[.val (.ref a1), .val (.int p2), .val (.int p3), .val (.int p4)] [(.int p2)])) _
      refine XS.iconst X1.here hx rfl (hb hby d1_10) ?_
      exact kt)
    by_cases hc11_21 : p2 = (4 : Int32)
    · skip
      have hc34_23 : ¬ (p3 < (0 : Int32)) := hs1
      have hc41_24 : ¬ ((999 : Int32) < p3) := hs2
      have hc59_25 : ¬ (p4 < (0 : Int32)) := hd1
      have hc66_26 : ¬ ((999 : Int32) < p4) := hd2
      obtain ⟨T27, h27, X27, e27, W27, st27⟩ := putF X1 hx hZ hown (host := "") (Or.inl (hw _ (List.mem_of_getElem? (i := 15) rfl))) Via.refl e1 F_a1_statusClass E_a1 (Or.inr ⟨(hw _ (List.mem_of_getElem? (i := 16) rfl)), rfl, hnm⟩) (hw _ (List.mem_of_getElem? (i := 2) rfl)) (ty := .int) (by decide) rfl rfl (g := (mkF m 85 #[.val (.ref a1), .val (.int p2), .val (.int p3), .val (.int p4)] [(.int p2), (.ref a1)])) rfl rfl (hb hby d1_85)
      have c28 := E_a1.wr W27
      have c29 := F_a1_subject.other W27 (Or.inr (slot_ne (Or.inr (hw _ (List.mem_of_getElem? (i := 18) rfl))) (Or.inr (hw _ (List.mem_of_getElem? (i := 16) rfl))) (by decide) (t := .int) (t' := .int) (by decide) (by decide)))
      have c30 := F_a1_detail.other W27 (Or.inr (slot_ne (Or.inr (hw _ (List.mem_of_getElem? (i := 20) rfl))) (Or.inr (hw _ (List.mem_of_getElem? (i := 16) rfl))) (by decide) (t := .int) (t' := .int) (by decide) (by decide)))
      have Zs27 : n0 ≤ h27.size := Nat.le_trans Z0 (Keep.of_wr W27).1
      have K27 := K0.wr W27 (Or.inl (List.mem_of_getElem? (i := 0) rfl))
      have N27 := Fr.snoc X27 N1 g_a1
      have Fw27 := F_a1_statusClass.same W27
      obtain ⟨T31, h31, X31, e31, W31, st31⟩ := putF X27 hx hZ hown (host := "") (Or.inl (hw _ (List.mem_of_getElem? (i := 17) rfl))) Via.refl e27 c29 c28 (Or.inr ⟨(hw _ (List.mem_of_getElem? (i := 18) rfl)), rfl, hnm⟩) (hw _ (List.mem_of_getElem? (i := 2) rfl)) (ty := .int) (by decide) rfl rfl (g := (mkF m 90 #[.val (.ref a1), .val (.int p2), .val (.int p3), .val (.int p4)] [(.int p3), (.ref a1)])) rfl rfl (hb hby d1_90)
      have c32 := c28.wr W31
      have c33 := c30.other W31 (Or.inr (slot_ne (Or.inr (hw _ (List.mem_of_getElem? (i := 20) rfl))) (Or.inr (hw _ (List.mem_of_getElem? (i := 18) rfl))) (by decide) (t := .int) (t' := .int) (by decide) (by decide)))
      have c34 := Fw27.other W31 (Or.inr (slot_ne (Or.inr (hw _ (List.mem_of_getElem? (i := 16) rfl))) (Or.inr (hw _ (List.mem_of_getElem? (i := 18) rfl))) (by decide) (t := .int) (t' := .int) (by decide) (by decide)))
      have Zs31 : n0 ≤ h31.size := Nat.le_trans Zs27 (Keep.of_wr W31).1
      have K31 := K27.wr W31 (Or.inl (List.mem_of_getElem? (i := 0) rfl))
      have N31 := Fr.snoc X31 N27 g_a1
      have Fw31 := c29.same W31
      obtain ⟨T35, h35, X35, e35, W35, st35⟩ := putF X31 hx hZ hown (host := "") (Or.inl (hw _ (List.mem_of_getElem? (i := 19) rfl))) Via.refl e31 c33 c32 (Or.inr ⟨(hw _ (List.mem_of_getElem? (i := 20) rfl)), rfl, hnm⟩) (hw _ (List.mem_of_getElem? (i := 2) rfl)) (ty := .int) (by decide) rfl rfl (g := (mkF m 95 #[.val (.ref a1), .val (.int p2), .val (.int p3), .val (.int p4)] [(.int p4), (.ref a1)])) rfl rfl (hb hby d1_95)
      have c36 := c32.wr W35
      have c37 := c34.other W35 (Or.inr (slot_ne (Or.inr (hw _ (List.mem_of_getElem? (i := 16) rfl))) (Or.inr (hw _ (List.mem_of_getElem? (i := 20) rfl))) (by decide) (t := .int) (t' := .int) (by decide) (by decide)))
      have c38 := Fw31.other W35 (Or.inr (slot_ne (Or.inr (hw _ (List.mem_of_getElem? (i := 18) rfl))) (Or.inr (hw _ (List.mem_of_getElem? (i := 20) rfl))) (by decide) (t := .int) (t' := .int) (by decide) (by decide)))
      have Zs35 : n0 ≤ h35.size := Nat.le_trans Zs31 (Keep.of_wr W35).1
      have K35 := K31.wr W35 (Or.inl (List.mem_of_getElem? (i := 0) rfl))
      have N35 := Fr.snoc X35 N31 g_a1
      have Fw35 := c33.same W35
      have P39 : ∀ t, Steps p.tables e below (T35.setTop (mkF m 98 #[.val (.ref a1), .val (.int p2), .val (.int p3), .val (.int p4)] [])) t → Steps p.tables e below (s₁.setTop (entryFrame m #[(.ref a1), (.int p2), (.int p3), (.int p4)] 4)) t := fun t kt => P22 t (by
        show Steps p.tables e below (T1.setTop (mkF m 11 #[.val (.ref a1), .val (.int p2), .val (.int p3), .val (.int p4)] [(.int (4 : Int32)), (.int p2)])) _
        refine XS.icmpYes X1.here hx rfl (pc0 := 11) (pc' := 33) rfl (hb hby d1_11) rfl (XT.ii_eq_t hc11_21) (by decide) (by decide) ?_
        show Steps p.tables e below (T1.setTop (mkF m 33 #[.val (.ref a1), .val (.int p2), .val (.int p3), .val (.int p4)] [])) _
        refine XS.iloadN X1.here hx rfl (hb hby d1_33) rfl ?_
        show Steps p.tables e below (T1.setTop (mkF m 34 #[.val (.ref a1), .val (.int p2), .val (.int p3), .val (.int p4)] [(.int p3)])) _
        refine XS.ifNo X1.here hx rfl (hb hby d1_34) rfl (XT.i0_lt_f hc34_23) ?_
        show Steps p.tables e below (T1.setTop (mkF m 37 #[.val (.ref a1), .val (.int p2), .val (.int p3), .val (.int p4)] [])) _
        refine XS.iloadN X1.here hx rfl (hb hby d1_37) rfl ?_
        show Steps p.tables e below (T1.setTop (mkF m 38 #[.val (.ref a1), .val (.int p2), .val (.int p3), .val (.int p4)] [(.int p3)])) _
        refine XS.sipush X1.here hx rfl (hb hby d1_38) ?_
        show Steps p.tables e below (T1.setTop (mkF m 41 #[.val (.ref a1), .val (.int p2), .val (.int p3), .val (.int p4)] [(.int (999 : Int32)), (.int p3)])) _
        refine XS.icmpYes X1.here hx rfl (pc0 := 41) (pc' := 58) rfl (hb hby d1_41) rfl (XT.ii_le_t hc41_24) (by decide) (by decide) ?_
        show Steps p.tables e below (T1.setTop (mkF m 58 #[.val (.ref a1), .val (.int p2), .val (.int p3), .val (.int p4)] [])) _
        refine XS.iloadN X1.here hx rfl (hb hby d1_58) rfl ?_
        show Steps p.tables e below (T1.setTop (mkF m 59 #[.val (.ref a1), .val (.int p2), .val (.int p3), .val (.int p4)] [(.int p4)])) _
        refine XS.ifNo X1.here hx rfl (hb hby d1_59) rfl (XT.i0_lt_f hc59_25) ?_
        show Steps p.tables e below (T1.setTop (mkF m 62 #[.val (.ref a1), .val (.int p2), .val (.int p3), .val (.int p4)] [])) _
        refine XS.iloadN X1.here hx rfl (hb hby d1_62) rfl ?_
        show Steps p.tables e below (T1.setTop (mkF m 63 #[.val (.ref a1), .val (.int p2), .val (.int p3), .val (.int p4)] [(.int p4)])) _
        refine XS.sipush X1.here hx rfl (hb hby d1_63) ?_
        show Steps p.tables e below (T1.setTop (mkF m 66 #[.val (.ref a1), .val (.int p2), .val (.int p3), .val (.int p4)] [(.int (999 : Int32)), (.int p4)])) _
        refine XS.icmpYes X1.here hx rfl (pc0 := 66) (pc' := 83) rfl (hb hby d1_66) rfl (XT.ii_le_t hc66_26) (by decide) (by decide) ?_
        show Steps p.tables e below (T1.setTop (mkF m 83 #[.val (.ref a1), .val (.int p2), .val (.int p3), .val (.int p4)] [])) _
        refine XS.aloadN X1.here hx rfl (hb hby d1_83) rfl rfl ?_
        show Steps p.tables e below (T1.setTop (mkF m 84 #[.val (.ref a1), .val (.int p2), .val (.int p3), .val (.int p4)] [(.ref a1)])) _
        refine XS.iloadN X1.here hx rfl (hb hby d1_84) rfl ?_
        show Steps p.tables e below (T1.setTop (mkF m 85 #[.val (.ref a1), .val (.int p2), .val (.int p3), .val (.int p4)] [(.int p2), (.ref a1)])) _
        refine st27 _ ?_
        show Steps p.tables e below (T27.setTop (mkF m 88 #[.val (.ref a1), .val (.int p2), .val (.int p3), .val (.int p4)] [])) _
        refine XS.aloadN X27.here hx rfl (hb hby d1_88) rfl rfl ?_
        show Steps p.tables e below (T27.setTop (mkF m 89 #[.val (.ref a1), .val (.int p2), .val (.int p3), .val (.int p4)] [(.ref a1)])) _
        refine XS.iloadN X27.here hx rfl (hb hby d1_89) rfl ?_
        show Steps p.tables e below (T27.setTop (mkF m 90 #[.val (.ref a1), .val (.int p2), .val (.int p3), .val (.int p4)] [(.int p3), (.ref a1)])) _
        refine st31 _ ?_
        show Steps p.tables e below (T31.setTop (mkF m 93 #[.val (.ref a1), .val (.int p2), .val (.int p3), .val (.int p4)] [])) _
        refine XS.aloadN X31.here hx rfl (hb hby d1_93) rfl rfl ?_
        show Steps p.tables e below (T31.setTop (mkF m 94 #[.val (.ref a1), .val (.int p2), .val (.int p3), .val (.int p4)] [(.ref a1)])) _
        refine XS.iloadN X31.here hx rfl (hb hby d1_94) rfl ?_
        show Steps p.tables e below (T31.setTop (mkF m 95 #[.val (.ref a1), .val (.int p2), .val (.int p3), .val (.int p4)] [(.int p4), (.ref a1)])) _
        refine st35 _ ?_
        exact kt)
      obtain ⟨fs, hr, hrun, hended, hW, hsame⟩ := X35.leave (v := none) (fun _ => rfl)
      refine ⟨_, _, P39 _ ?_, hrun, hended, _, _, rfl, ?_, ⟨_, rfl⟩, hW, hsame.mono (by decide) (by decide)⟩
      · exact X35.returnOut hx Bd.returns (hb hby d1_98) hr
      · show QE Z a1 p2 p3 p4 h0 n0 _ T35.heap _
        rw [e35]
        exact ⟨rfl, N35, K35, c36, c37, c38, Fw35⟩
    · skip
      have hc16_40 : p2 = (5 : Int32) := hk.elim (fun q => absurd q hc6_2) (fun q => q.elim (fun q => absurd q hc11_21) id)
      have hc34_41 : ¬ (p3 < (0 : Int32)) := hs1
      have hc41_42 : ¬ ((999 : Int32) < p3) := hs2
      have hc59_43 : ¬ (p4 < (0 : Int32)) := hd1
      have hc66_44 : ¬ ((999 : Int32) < p4) := hd2
      obtain ⟨T45, h45, X45, e45, W45, st45⟩ := putF X1 hx hZ hown (host := "") (Or.inl (hw _ (List.mem_of_getElem? (i := 15) rfl))) Via.refl e1 F_a1_statusClass E_a1 (Or.inr ⟨(hw _ (List.mem_of_getElem? (i := 16) rfl)), rfl, hnm⟩) (hw _ (List.mem_of_getElem? (i := 2) rfl)) (ty := .int) (by decide) rfl rfl (g := (mkF m 85 #[.val (.ref a1), .val (.int p2), .val (.int p3), .val (.int p4)] [(.int p2), (.ref a1)])) rfl rfl (hb hby d1_85)
      have c46 := E_a1.wr W45
      have c47 := F_a1_subject.other W45 (Or.inr (slot_ne (Or.inr (hw _ (List.mem_of_getElem? (i := 18) rfl))) (Or.inr (hw _ (List.mem_of_getElem? (i := 16) rfl))) (by decide) (t := .int) (t' := .int) (by decide) (by decide)))
      have c48 := F_a1_detail.other W45 (Or.inr (slot_ne (Or.inr (hw _ (List.mem_of_getElem? (i := 20) rfl))) (Or.inr (hw _ (List.mem_of_getElem? (i := 16) rfl))) (by decide) (t := .int) (t' := .int) (by decide) (by decide)))
      have Zs45 : n0 ≤ h45.size := Nat.le_trans Z0 (Keep.of_wr W45).1
      have K45 := K0.wr W45 (Or.inl (List.mem_of_getElem? (i := 0) rfl))
      have N45 := Fr.snoc X45 N1 g_a1
      have Fw45 := F_a1_statusClass.same W45
      obtain ⟨T49, h49, X49, e49, W49, st49⟩ := putF X45 hx hZ hown (host := "") (Or.inl (hw _ (List.mem_of_getElem? (i := 17) rfl))) Via.refl e45 c47 c46 (Or.inr ⟨(hw _ (List.mem_of_getElem? (i := 18) rfl)), rfl, hnm⟩) (hw _ (List.mem_of_getElem? (i := 2) rfl)) (ty := .int) (by decide) rfl rfl (g := (mkF m 90 #[.val (.ref a1), .val (.int p2), .val (.int p3), .val (.int p4)] [(.int p3), (.ref a1)])) rfl rfl (hb hby d1_90)
      have c50 := c46.wr W49
      have c51 := c48.other W49 (Or.inr (slot_ne (Or.inr (hw _ (List.mem_of_getElem? (i := 20) rfl))) (Or.inr (hw _ (List.mem_of_getElem? (i := 18) rfl))) (by decide) (t := .int) (t' := .int) (by decide) (by decide)))
      have c52 := Fw45.other W49 (Or.inr (slot_ne (Or.inr (hw _ (List.mem_of_getElem? (i := 16) rfl))) (Or.inr (hw _ (List.mem_of_getElem? (i := 18) rfl))) (by decide) (t := .int) (t' := .int) (by decide) (by decide)))
      have Zs49 : n0 ≤ h49.size := Nat.le_trans Zs45 (Keep.of_wr W49).1
      have K49 := K45.wr W49 (Or.inl (List.mem_of_getElem? (i := 0) rfl))
      have N49 := Fr.snoc X49 N45 g_a1
      have Fw49 := c47.same W49
      obtain ⟨T53, h53, X53, e53, W53, st53⟩ := putF X49 hx hZ hown (host := "") (Or.inl (hw _ (List.mem_of_getElem? (i := 19) rfl))) Via.refl e49 c51 c50 (Or.inr ⟨(hw _ (List.mem_of_getElem? (i := 20) rfl)), rfl, hnm⟩) (hw _ (List.mem_of_getElem? (i := 2) rfl)) (ty := .int) (by decide) rfl rfl (g := (mkF m 95 #[.val (.ref a1), .val (.int p2), .val (.int p3), .val (.int p4)] [(.int p4), (.ref a1)])) rfl rfl (hb hby d1_95)
      have c54 := c50.wr W53
      have c55 := c52.other W53 (Or.inr (slot_ne (Or.inr (hw _ (List.mem_of_getElem? (i := 16) rfl))) (Or.inr (hw _ (List.mem_of_getElem? (i := 20) rfl))) (by decide) (t := .int) (t' := .int) (by decide) (by decide)))
      have c56 := Fw49.other W53 (Or.inr (slot_ne (Or.inr (hw _ (List.mem_of_getElem? (i := 18) rfl))) (Or.inr (hw _ (List.mem_of_getElem? (i := 20) rfl))) (by decide) (t := .int) (t' := .int) (by decide) (by decide)))
      have Zs53 : n0 ≤ h53.size := Nat.le_trans Zs49 (Keep.of_wr W53).1
      have K53 := K49.wr W53 (Or.inl (List.mem_of_getElem? (i := 0) rfl))
      have N53 := Fr.snoc X53 N49 g_a1
      have Fw53 := c51.same W53
      have P57 : ∀ t, Steps p.tables e below (T53.setTop (mkF m 98 #[.val (.ref a1), .val (.int p2), .val (.int p3), .val (.int p4)] [])) t → Steps p.tables e below (s₁.setTop (entryFrame m #[(.ref a1), (.int p2), (.int p3), (.int p4)] 4)) t := fun t kt => P22 t (by
        show Steps p.tables e below (T1.setTop (mkF m 11 #[.val (.ref a1), .val (.int p2), .val (.int p3), .val (.int p4)] [(.int (4 : Int32)), (.int p2)])) _
        refine XS.icmpNo X1.here hx rfl (hb hby d1_11) rfl (XT.ii_eq_f hc11_21) ?_
        show Steps p.tables e below (T1.setTop (mkF m 14 #[.val (.ref a1), .val (.int p2), .val (.int p3), .val (.int p4)] [])) _
        refine XS.iloadN X1.here hx rfl (hb hby d1_14) rfl ?_
        show Steps p.tables e below (T1.setTop (mkF m 15 #[.val (.ref a1), .val (.int p2), .val (.int p3), .val (.int p4)] [(.int p2)])) _
        refine XS.iconst X1.here hx rfl (hb hby d1_15) ?_
        show Steps p.tables e below (T1.setTop (mkF m 16 #[.val (.ref a1), .val (.int p2), .val (.int p3), .val (.int p4)] [(.int (5 : Int32)), (.int p2)])) _
        refine XS.icmpYes X1.here hx rfl (pc0 := 16) (pc' := 33) rfl (hb hby d1_16) rfl (XT.ii_eq_t hc16_40) (by decide) (by decide) ?_
        show Steps p.tables e below (T1.setTop (mkF m 33 #[.val (.ref a1), .val (.int p2), .val (.int p3), .val (.int p4)] [])) _
        refine XS.iloadN X1.here hx rfl (hb hby d1_33) rfl ?_
        show Steps p.tables e below (T1.setTop (mkF m 34 #[.val (.ref a1), .val (.int p2), .val (.int p3), .val (.int p4)] [(.int p3)])) _
        refine XS.ifNo X1.here hx rfl (hb hby d1_34) rfl (XT.i0_lt_f hc34_41) ?_
        show Steps p.tables e below (T1.setTop (mkF m 37 #[.val (.ref a1), .val (.int p2), .val (.int p3), .val (.int p4)] [])) _
        refine XS.iloadN X1.here hx rfl (hb hby d1_37) rfl ?_
        show Steps p.tables e below (T1.setTop (mkF m 38 #[.val (.ref a1), .val (.int p2), .val (.int p3), .val (.int p4)] [(.int p3)])) _
        refine XS.sipush X1.here hx rfl (hb hby d1_38) ?_
        show Steps p.tables e below (T1.setTop (mkF m 41 #[.val (.ref a1), .val (.int p2), .val (.int p3), .val (.int p4)] [(.int (999 : Int32)), (.int p3)])) _
        refine XS.icmpYes X1.here hx rfl (pc0 := 41) (pc' := 58) rfl (hb hby d1_41) rfl (XT.ii_le_t hc41_42) (by decide) (by decide) ?_
        show Steps p.tables e below (T1.setTop (mkF m 58 #[.val (.ref a1), .val (.int p2), .val (.int p3), .val (.int p4)] [])) _
        refine XS.iloadN X1.here hx rfl (hb hby d1_58) rfl ?_
        show Steps p.tables e below (T1.setTop (mkF m 59 #[.val (.ref a1), .val (.int p2), .val (.int p3), .val (.int p4)] [(.int p4)])) _
        refine XS.ifNo X1.here hx rfl (hb hby d1_59) rfl (XT.i0_lt_f hc59_43) ?_
        show Steps p.tables e below (T1.setTop (mkF m 62 #[.val (.ref a1), .val (.int p2), .val (.int p3), .val (.int p4)] [])) _
        refine XS.iloadN X1.here hx rfl (hb hby d1_62) rfl ?_
        show Steps p.tables e below (T1.setTop (mkF m 63 #[.val (.ref a1), .val (.int p2), .val (.int p3), .val (.int p4)] [(.int p4)])) _
        refine XS.sipush X1.here hx rfl (hb hby d1_63) ?_
        show Steps p.tables e below (T1.setTop (mkF m 66 #[.val (.ref a1), .val (.int p2), .val (.int p3), .val (.int p4)] [(.int (999 : Int32)), (.int p4)])) _
        refine XS.icmpYes X1.here hx rfl (pc0 := 66) (pc' := 83) rfl (hb hby d1_66) rfl (XT.ii_le_t hc66_44) (by decide) (by decide) ?_
        show Steps p.tables e below (T1.setTop (mkF m 83 #[.val (.ref a1), .val (.int p2), .val (.int p3), .val (.int p4)] [])) _
        refine XS.aloadN X1.here hx rfl (hb hby d1_83) rfl rfl ?_
        show Steps p.tables e below (T1.setTop (mkF m 84 #[.val (.ref a1), .val (.int p2), .val (.int p3), .val (.int p4)] [(.ref a1)])) _
        refine XS.iloadN X1.here hx rfl (hb hby d1_84) rfl ?_
        show Steps p.tables e below (T1.setTop (mkF m 85 #[.val (.ref a1), .val (.int p2), .val (.int p3), .val (.int p4)] [(.int p2), (.ref a1)])) _
        refine st45 _ ?_
        show Steps p.tables e below (T45.setTop (mkF m 88 #[.val (.ref a1), .val (.int p2), .val (.int p3), .val (.int p4)] [])) _
        refine XS.aloadN X45.here hx rfl (hb hby d1_88) rfl rfl ?_
        show Steps p.tables e below (T45.setTop (mkF m 89 #[.val (.ref a1), .val (.int p2), .val (.int p3), .val (.int p4)] [(.ref a1)])) _
        refine XS.iloadN X45.here hx rfl (hb hby d1_89) rfl ?_
        show Steps p.tables e below (T45.setTop (mkF m 90 #[.val (.ref a1), .val (.int p2), .val (.int p3), .val (.int p4)] [(.int p3), (.ref a1)])) _
        refine st49 _ ?_
        show Steps p.tables e below (T49.setTop (mkF m 93 #[.val (.ref a1), .val (.int p2), .val (.int p3), .val (.int p4)] [])) _
        refine XS.aloadN X49.here hx rfl (hb hby d1_93) rfl rfl ?_
        show Steps p.tables e below (T49.setTop (mkF m 94 #[.val (.ref a1), .val (.int p2), .val (.int p3), .val (.int p4)] [(.ref a1)])) _
        refine XS.iloadN X49.here hx rfl (hb hby d1_94) rfl ?_
        show Steps p.tables e below (T49.setTop (mkF m 95 #[.val (.ref a1), .val (.int p2), .val (.int p3), .val (.int p4)] [(.int p4), (.ref a1)])) _
        refine st53 _ ?_
        exact kt)
      obtain ⟨fs, hr, hrun, hended, hW, hsame⟩ := X53.leave (v := none) (fun _ => rfl)
      refine ⟨_, _, P57 _ ?_, hrun, hended, _, _, rfl, ?_, ⟨_, rfl⟩, hW, hsame.mono (by decide) (by decide)⟩
      · exact X53.returnOut hx Bd.returns (hb hby d1_98) hr
      · show QE Z a1 p2 p3 p4 h0 n0 _ T53.heap _
        rw [e53]
        exact ⟨rfl, N53, K53, c54, c55, c56, Fw53⟩
theorem d4_0 : decode prog_14_method_7_code 0 = .ok (.aload_n 0, 1) := by decide +kernel
theorem d4_1 : decode prog_14_method_7_code 1 = .ok (.getfield 20, 3) := by decide +kernel
theorem d4_4 : decode prog_14_method_7_code 4 = .ok (.iconst 5, 1) := by decide +kernel
theorem d4_5 : decode prog_14_method_7_code 5 = .ok (.if_icmp .ne 7, 3) := by decide +kernel
theorem d4_8 : decode prog_14_method_7_code 8 = .ok (.iconst 1, 1) := by decide +kernel
theorem d4_9 : decode prog_14_method_7_code 9 = .ok (.goto 4, 3) := by decide +kernel
theorem d4_12 : decode prog_14_method_7_code 12 = .ok (.iconst 0, 1) := by decide +kernel
theorem d4_13 : decode prog_14_method_7_code 13 = .ok (.ireturn, 1) := by decide +kernel
theorem ef_rm4 (m : MethodId) (x0 : Addr) : entryFrame m #[(.ref x0)] 1 = mkF m 0 #[.val (.ref x0)] [] := by first | (simp [entryFrame, mkF, argsToLocals, Value.category]; done) | rfl
def Q4 (Z : State) (a1 : Addr) (x1 : Int32) (h0 : Heap) (n0 : Nat) (v : Option Value) (h : Heap) (L : List Loc) : Prop := v = some (.int (own_is x1 5)) ∧ Fr n0 L ∧ h = h0
set_option maxRecDepth 65536 in
set_option maxHeartbeats 40000000 in
theorem rm4 (l : Launch) (Z : State) (a0 : Array Value) (hw : ∀ d ∈ tables_1, d.before a0 Z = true) (ws : List Jvm.Cond) (a1 : Addr) (x1 : Int32) (h0 : Heap) (n0 : Nat) (Z0 : n0 ≤ h0.size) (E_a1 : Exa Z h0 a1 "com/example/mail_delivery_tracker/maildeliverytracker/mail/EnhancedStatusCode") (F_a1_statusClass : Fld Z h0 a1 "com/example/mail_delivery_tracker/maildeliverytracker/mail/EnhancedStatusCode" "statusClass" "I" (.int x1)) :
    MetFree l (⟨"com/example/mail_delivery_tracker/maildeliverytracker/mail/EnhancedStatusCode", "isPermanentFailure", "()Z"⟩ : MethodName) (head1 (Jvm.Cond.code (⟨"com/example/mail_delivery_tracker/maildeliverytracker/mail/EnhancedStatusCode", "isPermanentFailure", "()Z"⟩ : MethodName) prog_14_method_7_code 1 (some .boolean) :: ws) ({ frames := 0, cells := 0, slots := 0, locals := 0 } : Room)) (fun a U => a = #[(.ref a1)] ∧ Z.Warmed39 U.vm ∧ U.heap = h0) (fun _ _ _ _ _ => True) (fun _ U o U' => ∃ v L, o = .returned v ∧ Q4 Z a1 x1 h0 n0 v U'.heap L ∧ FrameEnd U o U' L ({ frames := 0, cells := 0, slots := 0, locals := 0 } : Room).cells ({ frames := 0, cells := 0, slots := 0, locals := 0 } : Room).slots) := by
  refine MetFree.of_bodySF (plainFor_of_name pn_1) hisR ?_
  intro p e s m args below meth c s₁ Bd hml0 hP hK
  obtain ⟨rfl, hZ, hh⟩ := hP
  have hx := Bd.exec
  have hby := Bd.bytes
  have hml : c.maxLocals = 1 := hml0
  have hown : s.vm.findClass "com/example/mail_delivery_tracker/maildeliverytracker/mail/EnhancedStatusCode" = some m.cls := findClass_of_methodNamed Bd.named
  have hnm := (name_of_methodNamed Bd.named Bd.method).1
  have X0 : Stand p l e ({ frames := 0, cells := 0, slots := 0, locals := 0 } : Room) s m #[(.ref a1)] below meth c s₁ [] 0 0 := Stand.of_body Bd
  have e0 : s₁.heap = h0 := by rw [← hh, Bd.state]; rfl
  have N0 := Fr.nil n0
  have pre0 : ∀ t, Steps p.tables e below (s₁.setTop (mkF m 0 #[.val (.ref a1)] [])) t → Steps p.tables e below (s₁.setTop (entryFrame m #[(.ref a1)] 1)) t := fun t k => castTop (ef_rm4 m a1) k
  obtain ⟨T1, X1, e1, st1⟩ := getF X0 hx hZ hown (host := "") (Or.inl (hw _ (List.mem_of_getElem? (i := 15) rfl))) Via.refl e0 F_a1_statusClass (g := (mkF m 1 #[.val (.ref a1)] [(.ref a1)])) rfl rfl (hb hby d4_1)
  have P3 : ∀ t, Steps p.tables e below (T1.setTop (mkF m 5 #[.val (.ref a1)] [(.int (5 : Int32)), (.int x1)])) t → Steps p.tables e below (s₁.setTop (entryFrame m #[(.ref a1)] 1)) t := fun t kt => pre0 t (by
    show Steps p.tables e below (s₁.setTop (mkF m 0 #[.val (.ref a1)] [])) _
    refine XS.aloadN X0.here hx rfl (hb hby d4_0) rfl rfl ?_
    show Steps p.tables e below (s₁.setTop (mkF m 1 #[.val (.ref a1)] [(.ref a1)])) _
    refine st1 _ ?_
    show Steps p.tables e below (T1.setTop (mkF m 4 #[.val (.ref a1)] [(.int x1)])) _
    refine XS.iconst X1.here hx rfl (hb hby d4_4) ?_
    exact kt)
  by_cases hc5_2 : x1 = (5 : Int32)
  · skip
    have P4 : ∀ t, Steps p.tables e below (T1.setTop (mkF m 13 #[.val (.ref a1)] [(.int (1 : Int32))])) t → Steps p.tables e below (s₁.setTop (entryFrame m #[(.ref a1)] 1)) t := fun t kt => P3 t (by
      show Steps p.tables e below (T1.setTop (mkF m 5 #[.val (.ref a1)] [(.int (5 : Int32)), (.int x1)])) _
      refine XS.icmpNo X1.here hx rfl (hb hby d4_5) rfl (XT.ii_ne_f hc5_2) ?_
      show Steps p.tables e below (T1.setTop (mkF m 8 #[.val (.ref a1)] [])) _
      refine XS.iconst X1.here hx rfl (hb hby d4_8) ?_
      show Steps p.tables e below (T1.setTop (mkF m 9 #[.val (.ref a1)] [(.int (1 : Int32))])) _
      refine XS.goto X1.here hx rfl (pc0 := 9) (pc' := 13) rfl (hb hby d4_9) (by decide) (by decide) ?_
      exact kt)
    obtain ⟨fs, hr, hrun, hended, hW, hsame⟩ := X1.leave (v := some (.int (1 : Int32))) (fun h => by rw [Bd.returns] at h; cases h)
    refine ⟨_, _, P4 _ ?_, hrun, hended, _, _, rfl, ?_, ⟨_, rfl⟩, hW, hsame.mono (by decide) (by decide)⟩
    · exact retN X1 hx (t := .boolean) Bd.returns (by simp) (hb hby d4_13) hr
    · show Q4 Z a1 x1 h0 n0 _ T1.heap _
      rw [e1]
      exact ⟨by simp [own_is, hc5_2], N0, rfl⟩
  · skip
    have P5 : ∀ t, Steps p.tables e below (T1.setTop (mkF m 13 #[.val (.ref a1)] [(.int (0 : Int32))])) t → Steps p.tables e below (s₁.setTop (entryFrame m #[(.ref a1)] 1)) t := fun t kt => P3 t (by
      show Steps p.tables e below (T1.setTop (mkF m 5 #[.val (.ref a1)] [(.int (5 : Int32)), (.int x1)])) _
      refine XS.icmpYes X1.here hx rfl (pc0 := 5) (pc' := 12) rfl (hb hby d4_5) rfl (XT.ii_ne_t hc5_2) (by decide) (by decide) ?_
      show Steps p.tables e below (T1.setTop (mkF m 12 #[.val (.ref a1)] [])) _
      refine XS.iconst X1.here hx rfl (hb hby d4_12) ?_
      exact kt)
    obtain ⟨fs, hr, hrun, hended, hW, hsame⟩ := X1.leave (v := some (.int (0 : Int32))) (fun h => by rw [Bd.returns] at h; cases h)
    refine ⟨_, _, P5 _ ?_, hrun, hended, _, _, rfl, ?_, ⟨_, rfl⟩, hW, hsame.mono (by decide) (by decide)⟩
    · exact retN X1 hx (t := .boolean) Bd.returns (by simp) (hb hby d4_13) hr
    · show Q4 Z a1 x1 h0 n0 _ T1.heap _
      rw [e1]
      exact ⟨by simp [own_is, hc5_2], N0, rfl⟩
theorem d5_0 : decode prog_14_method_5_code 0 = .ok (.aload_n 0, 1) := by decide +kernel
theorem d5_1 : decode prog_14_method_5_code 1 = .ok (.getfield 20, 3) := by decide +kernel
theorem d5_4 : decode prog_14_method_5_code 4 = .ok (.iconst 2, 1) := by decide +kernel
theorem d5_5 : decode prog_14_method_5_code 5 = .ok (.if_icmp .ne 7, 3) := by decide +kernel
theorem d5_8 : decode prog_14_method_5_code 8 = .ok (.iconst 1, 1) := by decide +kernel
theorem d5_9 : decode prog_14_method_5_code 9 = .ok (.goto 4, 3) := by decide +kernel
theorem d5_12 : decode prog_14_method_5_code 12 = .ok (.iconst 0, 1) := by decide +kernel
theorem d5_13 : decode prog_14_method_5_code 13 = .ok (.ireturn, 1) := by decide +kernel
theorem ef_rm5 (m : MethodId) (x0 : Addr) : entryFrame m #[(.ref x0)] 1 = mkF m 0 #[.val (.ref x0)] [] := by first | (simp [entryFrame, mkF, argsToLocals, Value.category]; done) | rfl
def Q5 (Z : State) (a1 : Addr) (x1 : Int32) (h0 : Heap) (n0 : Nat) (v : Option Value) (h : Heap) (L : List Loc) : Prop := v = some (.int (own_is x1 2)) ∧ Fr n0 L ∧ h = h0
set_option maxRecDepth 65536 in
set_option maxHeartbeats 40000000 in
theorem rm5 (l : Launch) (Z : State) (a0 : Array Value) (hw : ∀ d ∈ tables_1, d.before a0 Z = true) (ws : List Jvm.Cond) (a1 : Addr) (x1 : Int32) (h0 : Heap) (n0 : Nat) (Z0 : n0 ≤ h0.size) (E_a1 : Exa Z h0 a1 "com/example/mail_delivery_tracker/maildeliverytracker/mail/EnhancedStatusCode") (F_a1_statusClass : Fld Z h0 a1 "com/example/mail_delivery_tracker/maildeliverytracker/mail/EnhancedStatusCode" "statusClass" "I" (.int x1)) :
    MetFree l (⟨"com/example/mail_delivery_tracker/maildeliverytracker/mail/EnhancedStatusCode", "isSuccess", "()Z"⟩ : MethodName) (head1 (Jvm.Cond.code (⟨"com/example/mail_delivery_tracker/maildeliverytracker/mail/EnhancedStatusCode", "isSuccess", "()Z"⟩ : MethodName) prog_14_method_5_code 1 (some .boolean) :: ws) ({ frames := 0, cells := 0, slots := 0, locals := 0 } : Room)) (fun a U => a = #[(.ref a1)] ∧ Z.Warmed39 U.vm ∧ U.heap = h0) (fun _ _ _ _ _ => True) (fun _ U o U' => ∃ v L, o = .returned v ∧ Q5 Z a1 x1 h0 n0 v U'.heap L ∧ FrameEnd U o U' L ({ frames := 0, cells := 0, slots := 0, locals := 0 } : Room).cells ({ frames := 0, cells := 0, slots := 0, locals := 0 } : Room).slots) := by
  refine MetFree.of_bodySF (plainFor_of_name pn_1) hisR ?_
  intro p e s m args below meth c s₁ Bd hml0 hP hK
  obtain ⟨rfl, hZ, hh⟩ := hP
  have hx := Bd.exec
  have hby := Bd.bytes
  have hml : c.maxLocals = 1 := hml0
  have hown : s.vm.findClass "com/example/mail_delivery_tracker/maildeliverytracker/mail/EnhancedStatusCode" = some m.cls := findClass_of_methodNamed Bd.named
  have hnm := (name_of_methodNamed Bd.named Bd.method).1
  have X0 : Stand p l e ({ frames := 0, cells := 0, slots := 0, locals := 0 } : Room) s m #[(.ref a1)] below meth c s₁ [] 0 0 := Stand.of_body Bd
  have e0 : s₁.heap = h0 := by rw [← hh, Bd.state]; rfl
  have N0 := Fr.nil n0
  have pre0 : ∀ t, Steps p.tables e below (s₁.setTop (mkF m 0 #[.val (.ref a1)] [])) t → Steps p.tables e below (s₁.setTop (entryFrame m #[(.ref a1)] 1)) t := fun t k => castTop (ef_rm5 m a1) k
  obtain ⟨T1, X1, e1, st1⟩ := getF X0 hx hZ hown (host := "") (Or.inl (hw _ (List.mem_of_getElem? (i := 15) rfl))) Via.refl e0 F_a1_statusClass (g := (mkF m 1 #[.val (.ref a1)] [(.ref a1)])) rfl rfl (hb hby d5_1)
  have P3 : ∀ t, Steps p.tables e below (T1.setTop (mkF m 5 #[.val (.ref a1)] [(.int (2 : Int32)), (.int x1)])) t → Steps p.tables e below (s₁.setTop (entryFrame m #[(.ref a1)] 1)) t := fun t kt => pre0 t (by
    show Steps p.tables e below (s₁.setTop (mkF m 0 #[.val (.ref a1)] [])) _
    refine XS.aloadN X0.here hx rfl (hb hby d5_0) rfl rfl ?_
    show Steps p.tables e below (s₁.setTop (mkF m 1 #[.val (.ref a1)] [(.ref a1)])) _
    refine st1 _ ?_
    show Steps p.tables e below (T1.setTop (mkF m 4 #[.val (.ref a1)] [(.int x1)])) _
    refine XS.iconst X1.here hx rfl (hb hby d5_4) ?_
    exact kt)
  by_cases hc5_2 : x1 = (2 : Int32)
  · skip
    have P4 : ∀ t, Steps p.tables e below (T1.setTop (mkF m 13 #[.val (.ref a1)] [(.int (1 : Int32))])) t → Steps p.tables e below (s₁.setTop (entryFrame m #[(.ref a1)] 1)) t := fun t kt => P3 t (by
      show Steps p.tables e below (T1.setTop (mkF m 5 #[.val (.ref a1)] [(.int (2 : Int32)), (.int x1)])) _
      refine XS.icmpNo X1.here hx rfl (hb hby d5_5) rfl (XT.ii_ne_f hc5_2) ?_
      show Steps p.tables e below (T1.setTop (mkF m 8 #[.val (.ref a1)] [])) _
      refine XS.iconst X1.here hx rfl (hb hby d5_8) ?_
      show Steps p.tables e below (T1.setTop (mkF m 9 #[.val (.ref a1)] [(.int (1 : Int32))])) _
      refine XS.goto X1.here hx rfl (pc0 := 9) (pc' := 13) rfl (hb hby d5_9) (by decide) (by decide) ?_
      exact kt)
    obtain ⟨fs, hr, hrun, hended, hW, hsame⟩ := X1.leave (v := some (.int (1 : Int32))) (fun h => by rw [Bd.returns] at h; cases h)
    refine ⟨_, _, P4 _ ?_, hrun, hended, _, _, rfl, ?_, ⟨_, rfl⟩, hW, hsame.mono (by decide) (by decide)⟩
    · exact retN X1 hx (t := .boolean) Bd.returns (by simp) (hb hby d5_13) hr
    · show Q5 Z a1 x1 h0 n0 _ T1.heap _
      rw [e1]
      exact ⟨by simp [own_is, hc5_2], N0, rfl⟩
  · skip
    have P5 : ∀ t, Steps p.tables e below (T1.setTop (mkF m 13 #[.val (.ref a1)] [(.int (0 : Int32))])) t → Steps p.tables e below (s₁.setTop (entryFrame m #[(.ref a1)] 1)) t := fun t kt => P3 t (by
      show Steps p.tables e below (T1.setTop (mkF m 5 #[.val (.ref a1)] [(.int (2 : Int32)), (.int x1)])) _
      refine XS.icmpYes X1.here hx rfl (pc0 := 5) (pc' := 12) rfl (hb hby d5_5) rfl (XT.ii_ne_t hc5_2) (by decide) (by decide) ?_
      show Steps p.tables e below (T1.setTop (mkF m 12 #[.val (.ref a1)] [])) _
      refine XS.iconst X1.here hx rfl (hb hby d5_12) ?_
      exact kt)
    obtain ⟨fs, hr, hrun, hended, hW, hsame⟩ := X1.leave (v := some (.int (0 : Int32))) (fun h => by rw [Bd.returns] at h; cases h)
    refine ⟨_, _, P5 _ ?_, hrun, hended, _, _, rfl, ?_, ⟨_, rfl⟩, hW, hsame.mono (by decide) (by decide)⟩
    · exact retN X1 hx (t := .boolean) Bd.returns (by simp) (hb hby d5_13) hr
    · show Q5 Z a1 x1 h0 n0 _ T1.heap _
      rw [e1]
      exact ⟨by simp [own_is, hc5_2], N0, rfl⟩
theorem d6_0 : decode prog_14_method_6_code 0 = .ok (.aload_n 0, 1) := by decide +kernel
theorem d6_1 : decode prog_14_method_6_code 1 = .ok (.getfield 20, 3) := by decide +kernel
theorem d6_4 : decode prog_14_method_6_code 4 = .ok (.iconst 4, 1) := by decide +kernel
theorem d6_5 : decode prog_14_method_6_code 5 = .ok (.if_icmp .ne 7, 3) := by decide +kernel
theorem d6_8 : decode prog_14_method_6_code 8 = .ok (.iconst 1, 1) := by decide +kernel
theorem d6_9 : decode prog_14_method_6_code 9 = .ok (.goto 4, 3) := by decide +kernel
theorem d6_12 : decode prog_14_method_6_code 12 = .ok (.iconst 0, 1) := by decide +kernel
theorem d6_13 : decode prog_14_method_6_code 13 = .ok (.ireturn, 1) := by decide +kernel
theorem ef_rm6 (m : MethodId) (x0 : Addr) : entryFrame m #[(.ref x0)] 1 = mkF m 0 #[.val (.ref x0)] [] := by first | (simp [entryFrame, mkF, argsToLocals, Value.category]; done) | rfl
def Q6 (Z : State) (a1 : Addr) (x1 : Int32) (h0 : Heap) (n0 : Nat) (v : Option Value) (h : Heap) (L : List Loc) : Prop := v = some (.int (own_is x1 4)) ∧ Fr n0 L ∧ h = h0
set_option maxRecDepth 65536 in
set_option maxHeartbeats 40000000 in
theorem rm6 (l : Launch) (Z : State) (a0 : Array Value) (hw : ∀ d ∈ tables_1, d.before a0 Z = true) (ws : List Jvm.Cond) (a1 : Addr) (x1 : Int32) (h0 : Heap) (n0 : Nat) (Z0 : n0 ≤ h0.size) (E_a1 : Exa Z h0 a1 "com/example/mail_delivery_tracker/maildeliverytracker/mail/EnhancedStatusCode") (F_a1_statusClass : Fld Z h0 a1 "com/example/mail_delivery_tracker/maildeliverytracker/mail/EnhancedStatusCode" "statusClass" "I" (.int x1)) :
    MetFree l (⟨"com/example/mail_delivery_tracker/maildeliverytracker/mail/EnhancedStatusCode", "isTransientFailure", "()Z"⟩ : MethodName) (head1 (Jvm.Cond.code (⟨"com/example/mail_delivery_tracker/maildeliverytracker/mail/EnhancedStatusCode", "isTransientFailure", "()Z"⟩ : MethodName) prog_14_method_6_code 1 (some .boolean) :: ws) ({ frames := 0, cells := 0, slots := 0, locals := 0 } : Room)) (fun a U => a = #[(.ref a1)] ∧ Z.Warmed39 U.vm ∧ U.heap = h0) (fun _ _ _ _ _ => True) (fun _ U o U' => ∃ v L, o = .returned v ∧ Q6 Z a1 x1 h0 n0 v U'.heap L ∧ FrameEnd U o U' L ({ frames := 0, cells := 0, slots := 0, locals := 0 } : Room).cells ({ frames := 0, cells := 0, slots := 0, locals := 0 } : Room).slots) := by
  refine MetFree.of_bodySF (plainFor_of_name pn_1) hisR ?_
  intro p e s m args below meth c s₁ Bd hml0 hP hK
  obtain ⟨rfl, hZ, hh⟩ := hP
  have hx := Bd.exec
  have hby := Bd.bytes
  have hml : c.maxLocals = 1 := hml0
  have hown : s.vm.findClass "com/example/mail_delivery_tracker/maildeliverytracker/mail/EnhancedStatusCode" = some m.cls := findClass_of_methodNamed Bd.named
  have hnm := (name_of_methodNamed Bd.named Bd.method).1
  have X0 : Stand p l e ({ frames := 0, cells := 0, slots := 0, locals := 0 } : Room) s m #[(.ref a1)] below meth c s₁ [] 0 0 := Stand.of_body Bd
  have e0 : s₁.heap = h0 := by rw [← hh, Bd.state]; rfl
  have N0 := Fr.nil n0
  have pre0 : ∀ t, Steps p.tables e below (s₁.setTop (mkF m 0 #[.val (.ref a1)] [])) t → Steps p.tables e below (s₁.setTop (entryFrame m #[(.ref a1)] 1)) t := fun t k => castTop (ef_rm6 m a1) k
  obtain ⟨T1, X1, e1, st1⟩ := getF X0 hx hZ hown (host := "") (Or.inl (hw _ (List.mem_of_getElem? (i := 15) rfl))) Via.refl e0 F_a1_statusClass (g := (mkF m 1 #[.val (.ref a1)] [(.ref a1)])) rfl rfl (hb hby d6_1)
  have P3 : ∀ t, Steps p.tables e below (T1.setTop (mkF m 5 #[.val (.ref a1)] [(.int (4 : Int32)), (.int x1)])) t → Steps p.tables e below (s₁.setTop (entryFrame m #[(.ref a1)] 1)) t := fun t kt => pre0 t (by
    show Steps p.tables e below (s₁.setTop (mkF m 0 #[.val (.ref a1)] [])) _
    refine XS.aloadN X0.here hx rfl (hb hby d6_0) rfl rfl ?_
    show Steps p.tables e below (s₁.setTop (mkF m 1 #[.val (.ref a1)] [(.ref a1)])) _
    refine st1 _ ?_
    show Steps p.tables e below (T1.setTop (mkF m 4 #[.val (.ref a1)] [(.int x1)])) _
    refine XS.iconst X1.here hx rfl (hb hby d6_4) ?_
    exact kt)
  by_cases hc5_2 : x1 = (4 : Int32)
  · skip
    have P4 : ∀ t, Steps p.tables e below (T1.setTop (mkF m 13 #[.val (.ref a1)] [(.int (1 : Int32))])) t → Steps p.tables e below (s₁.setTop (entryFrame m #[(.ref a1)] 1)) t := fun t kt => P3 t (by
      show Steps p.tables e below (T1.setTop (mkF m 5 #[.val (.ref a1)] [(.int (4 : Int32)), (.int x1)])) _
      refine XS.icmpNo X1.here hx rfl (hb hby d6_5) rfl (XT.ii_ne_f hc5_2) ?_
      show Steps p.tables e below (T1.setTop (mkF m 8 #[.val (.ref a1)] [])) _
      refine XS.iconst X1.here hx rfl (hb hby d6_8) ?_
      show Steps p.tables e below (T1.setTop (mkF m 9 #[.val (.ref a1)] [(.int (1 : Int32))])) _
      refine XS.goto X1.here hx rfl (pc0 := 9) (pc' := 13) rfl (hb hby d6_9) (by decide) (by decide) ?_
      exact kt)
    obtain ⟨fs, hr, hrun, hended, hW, hsame⟩ := X1.leave (v := some (.int (1 : Int32))) (fun h => by rw [Bd.returns] at h; cases h)
    refine ⟨_, _, P4 _ ?_, hrun, hended, _, _, rfl, ?_, ⟨_, rfl⟩, hW, hsame.mono (by decide) (by decide)⟩
    · exact retN X1 hx (t := .boolean) Bd.returns (by simp) (hb hby d6_13) hr
    · show Q6 Z a1 x1 h0 n0 _ T1.heap _
      rw [e1]
      exact ⟨by simp [own_is, hc5_2], N0, rfl⟩
  · skip
    have P5 : ∀ t, Steps p.tables e below (T1.setTop (mkF m 13 #[.val (.ref a1)] [(.int (0 : Int32))])) t → Steps p.tables e below (s₁.setTop (entryFrame m #[(.ref a1)] 1)) t := fun t kt => P3 t (by
      show Steps p.tables e below (T1.setTop (mkF m 5 #[.val (.ref a1)] [(.int (4 : Int32)), (.int x1)])) _
      refine XS.icmpYes X1.here hx rfl (pc0 := 5) (pc' := 12) rfl (hb hby d6_5) rfl (XT.ii_ne_t hc5_2) (by decide) (by decide) ?_
      show Steps p.tables e below (T1.setTop (mkF m 12 #[.val (.ref a1)] [])) _
      refine XS.iconst X1.here hx rfl (hb hby d6_12) ?_
      exact kt)
    obtain ⟨fs, hr, hrun, hended, hW, hsame⟩ := X1.leave (v := some (.int (0 : Int32))) (fun h => by rw [Bd.returns] at h; cases h)
    refine ⟨_, _, P5 _ ?_, hrun, hended, _, _, rfl, ?_, ⟨_, rfl⟩, hW, hsame.mono (by decide) (by decide)⟩
    · exact retN X1 hx (t := .boolean) Bd.returns (by simp) (hb hby d6_13) hr
    · show Q6 Z a1 x1 h0 n0 _ T1.heap _
      rw [e1]
      exact ⟨by simp [own_is, hc5_2], N0, rfl⟩
theorem pn_2 : plainName "com/example/mail_delivery_tracker/maildeliverytracker/mail/EnhancedStatusCodeIsPermanentFailurePinLaw" = true := by first | (simp [plainName, overriddenIn]; done) | decide +kernel
theorem pd_1 : parseMethodDescriptor "(III)V" = some ⟨[.int, .int, .int], none⟩ := by decide +kernel
theorem pd_2 : parseMethodDescriptor "()Z" = some ⟨[], some .boolean⟩ := by decide +kernel
theorem ef_rm0 (m : MethodId) (x0 : Int32) (x1 : Int32) (x2 : Int32) : entryFrame m #[(.int x0), (.int x1), (.int x2)] maxLocals = mkF m 0 #[.val (.int x0), .val (.int x1), .val (.int x2), .unset, .unset, .unset, .unset, .unset, .unset, .unset, .unset] [] := by first | (simp [entryFrame, mkF, argsToLocals, Value.category, maxLocals]; done) | rfl
def Q0 (Z : State) (p1 : Int32) (p2 : Int32) (p3 : Int32) (h0 : Heap) (n0 : Nat) (v : Option Value) (h : Heap) (L : List Loc) : Prop := v = some (.int 1) ∧ Fr n0 L
set_option maxRecDepth 65536 in
set_option maxHeartbeats 40000000 in
theorem rm0 (l : Launch) (Z : State) (a0 : Array Value) (hw : ∀ d ∈ tables_1, d.before a0 Z = true) (ws : List Jvm.Cond) (p1 : Int32) (p2 : Int32) (p3 : Int32) (h0 : Heap) (n0 : Nat) (Z0 : n0 ≤ h0.size) :
    MetFree l x (head1 (Jvm.Cond.code x code maxLocals ret :: ws) room_1) (fun a U => a = #[(.int p1), (.int p2), (.int p3)] ∧ Z.Warmed39 U.vm ∧ U.heap = h0) (fun _ _ _ _ _ => True) (fun _ U o U' => ∃ v L, o = .returned v ∧ Q0 Z p1 p2 p3 h0 n0 v U'.heap L ∧ FrameEnd U o U' L room_1.cells room_1.slots) := by
  refine MetFree.of_bodySF (plainFor_of_name pn_2) hisR ?_
  intro p e s m args below meth c s₁ Bd hml0 hP hK
  obtain ⟨rfl, hZ, hh⟩ := hP
  have hx := Bd.exec
  have hby := Bd.bytes
  have hml : c.maxLocals = 11 := hml0
  have hown : s.vm.findClass "com/example/mail_delivery_tracker/maildeliverytracker/mail/EnhancedStatusCodeIsPermanentFailurePinLaw" = some m.cls := findClass_of_methodNamed Bd.named
  have hnm := (name_of_methodNamed Bd.named Bd.method).1
  have X0 : Stand p l e room_1 s m #[(.int p1), (.int p2), (.int p3)] below meth c s₁ [] 0 0 := Stand.of_body Bd
  have e0 : s₁.heap = h0 := by rw [← hh, Bd.state]; rfl
  have N0 := Fr.nil n0
  have pre0 : ∀ t, Steps p.tables e below (s₁.setTop (mkF m 0 #[.val (.int p1), .val (.int p2), .val (.int p3), .unset, .unset, .unset, .unset, .unset, .unset, .unset, .unset] [])) t → Steps p.tables e below (s₁.setTop (entryFrame m #[(.int p1), (.int p2), (.int p3)] maxLocals)) t := fun t k => castTop (ef_rm0 m p1 p2 p3) k
  have P2 : ∀ t, Steps p.tables e below (s₁.setTop (mkF m 8 #[.val (.int p1), .val (.int p2), .val (.int p3), .val (.int ((p1 &&& (2147483647 : Int32)) % (3 : Int32))), .unset, .unset, .unset, .unset, .unset, .unset, .unset] [(.int ((p1 &&& (2147483647 : Int32)) % (3 : Int32)))])) t → Steps p.tables e below (s₁.setTop (entryFrame m #[(.int p1), (.int p2), (.int p3)] maxLocals)) t := fun t kt => pre0 t (by
    show Steps p.tables e below (s₁.setTop (mkF m 0 #[.val (.int p1), .val (.int p2), .val (.int p3), .unset, .unset, .unset, .unset, .unset, .unset, .unset, .unset] [])) _
    refine XS.iloadN X0.here hx rfl (hb hby at_0) rfl ?_
    show Steps p.tables e below (s₁.setTop (mkF m 1 #[.val (.int p1), .val (.int p2), .val (.int p3), .unset, .unset, .unset, .unset, .unset, .unset, .unset, .unset] [(.int p1)])) _
    refine X0.ldcI hx hown (mvT hZ (hw _ (List.mem_of_getElem? (i := 0) rfl))) rfl (hb hby at_1) ?_
    show Steps p.tables e below (s₁.setTop (mkF m 3 #[.val (.int p1), .val (.int p2), .val (.int p3), .unset, .unset, .unset, .unset, .unset, .unset, .unset, .unset] [(.int (2147483647 : Int32)), (.int p1)])) _
    refine XS.iand X0.here hx rfl (hb hby at_3) rfl ?_
    show Steps p.tables e below (s₁.setTop (mkF m 4 #[.val (.int p1), .val (.int p2), .val (.int p3), .unset, .unset, .unset, .unset, .unset, .unset, .unset, .unset] [(.int (p1 &&& (2147483647 : Int32)))])) _
    refine XS.iconst X0.here hx rfl (hb hby at_4) ?_
    show Steps p.tables e below (s₁.setTop (mkF m 5 #[.val (.int p1), .val (.int p2), .val (.int p3), .unset, .unset, .unset, .unset, .unset, .unset, .unset, .unset] [(.int (3 : Int32)), (.int (p1 &&& (2147483647 : Int32)))])) _
    refine iremM X0 hx rfl (hb hby at_5) rfl (by decide) ?_
    show Steps p.tables e below (s₁.setTop (mkF m 6 #[.val (.int p1), .val (.int p2), .val (.int p3), .unset, .unset, .unset, .unset, .unset, .unset, .unset, .unset] [(.int ((p1 &&& (2147483647 : Int32)) % (3 : Int32)))])) _
    refine XS.istoreN X0.here hx rfl (hb hby at_6) rfl (l' := #[.val (.int p1), .val (.int p2), .val (.int p3), .val (.int ((p1 &&& (2147483647 : Int32)) % (3 : Int32))), .unset, .unset, .unset, .unset, .unset, .unset, .unset]) rfl ?_
    show Steps p.tables e below (s₁.setTop (mkF m 7 #[.val (.int p1), .val (.int p2), .val (.int p3), .val (.int ((p1 &&& (2147483647 : Int32)) % (3 : Int32))), .unset, .unset, .unset, .unset, .unset, .unset, .unset] [])) _
    refine XS.iloadN X0.here hx rfl (hb hby at_7) rfl ?_
    exact kt)
  by_cases hc8_1 : ((p1 &&& (2147483647 : Int32)) % (3 : Int32)) = (0 : Int32)
  · skip
    obtain ⟨T3, h3, X3, e3, E3, A3, D3, -, st3⟩ := newO X0 hx hZ hown (hw _ (List.mem_of_getElem? (i := 1) rfl)) (hw _ (List.mem_of_getElem? (i := 2) rfl)) (hw _ (List.mem_of_getElem? (i := 3) rfl)) e0 (g := (mkF m 47 #[.val (.int p1), .val (.int p2), .val (.int p3), .val (.int ((p1 &&& (2147483647 : Int32)) % (3 : Int32))), .val (.int (2 : Int32)), .val (.int ((p2 &&& (2147483647 : Int32)) % (1000 : Int32))), .val (.int ((p3 &&& (2147483647 : Int32)) % (1000 : Int32))), .unset, .unset, .unset, .unset] [])) rfl (hb hby at_47) (by decide) (by decide)
    obtain ⟨b3, g3⟩ : ∃ z, z = h0.size := ⟨_, rfl⟩
    rw [← g3] at A3 D3 st3
    have g_b3 : n0 ≤ b3 := Nat.le_trans Z0 (Nat.le_of_eq g3.symm)
    have Zs3 : n0 ≤ h3.size := Nat.le_trans Z0 E3.1
    have F3_statusClass : Fld Z h3 b3 "com/example/mail_delivery_tracker/maildeliverytracker/mail/EnhancedStatusCode" "statusClass" "I" (.int (0 : Int32)) := D3 (Or.inr (hw _ (List.mem_of_getElem? (i := 16) rfl))) (ty := .int) (by decide)
    have F3_subject : Fld Z h3 b3 "com/example/mail_delivery_tracker/maildeliverytracker/mail/EnhancedStatusCode" "subject" "I" (.int (0 : Int32)) := D3 (Or.inr (hw _ (List.mem_of_getElem? (i := 18) rfl))) (ty := .int) (by decide)
    have F3_detail : Fld Z h3 b3 "com/example/mail_delivery_tracker/maildeliverytracker/mail/EnhancedStatusCode" "detail" "I" (.int (0 : Int32)) := D3 (Or.inr (hw _ (List.mem_of_getElem? (i := 20) rfl))) (ty := .int) (by decide)
    obtain ⟨_, _, ⟨T4, L4, k4, n4⟩, -, X4, ⟨Lc4, hQ4, l4, y4, z4⟩, st4⟩ := X3.specialBack hx (y := (⟨"com/example/mail_delivery_tracker/maildeliverytracker/mail/EnhancedStatusCode", "<init>", "(III)V"⟩ : MethodName)) rfl hown (mvT hZ (hw _ (List.mem_of_getElem? (i := 4) rfl))) (mvT hZ (hw _ (List.mem_of_getElem? (i := 5) rfl))) (mvT hZ (hw _ (List.mem_of_getElem? (i := 6) rfl))) (by decide) (backOf (W := 1) (rmE l Z a0 hw [] b3 (2 : Int32) ((p2 &&& (2147483647 : Int32)) % (1000 : Int32)) ((p3 &&& (2147483647 : Int32)) % (1000 : Int32)) h3 n0 Zs3 A3 F3_statusClass F3_subject F3_detail g_b3 (Or.inl rfl) (own_nn _) (own_le _) (own_nn _) (own_le _)) hZ (hw _ (List.mem_of_getElem? (i := 6) rfl)) (hw _ (List.mem_of_getElem? (i := 3) rfl)) (by decide) (by decide)) (g := (mkF m 57 #[.val (.int p1), .val (.int p2), .val (.int p3), .val (.int ((p1 &&& (2147483647 : Int32)) % (3 : Int32))), .val (.int (2 : Int32)), .val (.int ((p2 &&& (2147483647 : Int32)) % (1000 : Int32))), .val (.int ((p3 &&& (2147483647 : Int32)) % (1000 : Int32))), .unset, .unset, .unset, .unset] [(.int ((p3 &&& (2147483647 : Int32)) % (1000 : Int32))), (.int ((p2 &&& (2147483647 : Int32)) % (1000 : Int32))), (.int (2 : Int32)), (.ref b3), (.ref b3)])) rfl (by rw [hml]; rfl) (Steps.refl _) (a := b3) (argsL := [(.int (2 : Int32)), (.int ((p2 &&& (2147483647 : Int32)) % (1000 : Int32))), (.int ((p3 &&& (2147483647 : Int32)) % (1000 : Int32)))]) (rest := [(.ref b3)]) (lenOf pd_1 rfl) rfl (by show 2 * 0 + _ ≤ _; exact Nat.le_of_eq rfl) (hb hby at_57) (fun _ _ => ⟨rfl, e3, (by decide : 1 + 0 ≤ _), (by decide : 3 + 0 ≤ _)⟩)
    dsimp only [Pt.U, Pt.locs, Pt.cells, Pt.slots] at X4 l4 y4 z4 st4 hQ4
    subst l4 y4 z4
    obtain ⟨rfl, N4q, Kq4, Eq4, Fq4_statusClass, Fq4_subject, Fq4_detail⟩ := hQ4
    have N4 := Fr.app N0 N4q
    have c5 := A3.keep Kq4
    have Zs4 : n0 ≤ T4.heap.size := Nat.le_trans Zs3 Kq4.1
    obtain ⟨cq6, kq6, q6a, q6b, q6c⟩ := isOf hZ rfl c5
    obtain ⟨_, _, ⟨T6, L6, k6, n6⟩, -, X6, ⟨Lc6, hQ6, l6, y6, z6⟩, st6⟩ := X4.virtualBack hx (y := (⟨"com/example/mail_delivery_tracker/maildeliverytracker/mail/EnhancedStatusCode", "isPermanentFailure", "()Z"⟩ : MethodName)) (z := (⟨"com/example/mail_delivery_tracker/maildeliverytracker/mail/EnhancedStatusCode", "isPermanentFailure", "()Z"⟩ : MethodName)) hown (mvT hZ (hw _ (List.mem_of_getElem? (i := 21) rfl))) (mvT hZ (hw _ (List.mem_of_getElem? (i := 22) rfl))) (notFace_of_selects (args := #[]) (mvT hZ (hw _ (List.mem_of_getElem? (i := 24) rfl)))) (mvT hZ (hw _ (List.mem_of_getElem? (i := 24) rfl))) (mvT hZ (hw _ (List.mem_of_getElem? (i := 23) rfl))) (by decide) (backOf (W := 0) (rm4 l Z a0 hw [] b3 (2 : Int32) T4.heap n0 Zs4 c5 Fq4_statusClass) hZ (hw _ (List.mem_of_getElem? (i := 25) rfl)) (hw _ (List.mem_of_getElem? (i := 3) rfl)) (by decide) (by decide)) q6a q6c (g := (mkF m 64 #[.val (.int p1), .val (.int p2), .val (.int p3), .val (.int ((p1 &&& (2147483647 : Int32)) % (3 : Int32))), .val (.int (2 : Int32)), .val (.int ((p2 &&& (2147483647 : Int32)) % (1000 : Int32))), .val (.int ((p3 &&& (2147483647 : Int32)) % (1000 : Int32))), .val (.ref b3), .unset, .unset, .unset] [(.ref b3)])) rfl (by rw [hml]; rfl) (Steps.refl _) (argsL := []) (rest := []) (lenOf pd_2 rfl) rfl (by show 2 * 0 + _ ≤ _; exact Nat.le_of_eq rfl) (hb hby at_64) (fun _ _ => ⟨rfl, rfl, (by decide : 1 + 0 ≤ _), (by decide : 3 + 0 ≤ _)⟩)
    dsimp only [Pt.U, Pt.locs, Pt.cells, Pt.slots] at X6 l6 y6 z6 st6 hQ6
    subst l6 y6 z6
    have hv6 : own_is (2 : Int32) 5 = (0 : Int32) := by decide
    obtain ⟨rfl, N6q, e6⟩ := hQ6
    rw [hv6] at st6
    have N6 := Fr.app N4 N6q
    have hc71_7 : ¬ (((p1 &&& (2147483647 : Int32)) % (3 : Int32)) = (2 : Int32)) := by rw [hc8_1]; decide
    have hc85_8 : (0 : Int32) = (0 : Int32) := rfl
    obtain ⟨cq9, kq9, q9a, q9b, q9c⟩ := isOf hZ e6 c5
    obtain ⟨_, _, ⟨T9, L9, k9, n9⟩, -, X9, ⟨Lc9, hQ9, l9, y9, z9⟩, st9⟩ := X6.virtualBack hx (y := (⟨"com/example/mail_delivery_tracker/maildeliverytracker/mail/EnhancedStatusCode", "isSuccess", "()Z"⟩ : MethodName)) (z := (⟨"com/example/mail_delivery_tracker/maildeliverytracker/mail/EnhancedStatusCode", "isSuccess", "()Z"⟩ : MethodName)) hown (mvT hZ (hw _ (List.mem_of_getElem? (i := 26) rfl))) (mvT hZ (hw _ (List.mem_of_getElem? (i := 27) rfl))) (notFace_of_selects (args := #[]) (mvT hZ (hw _ (List.mem_of_getElem? (i := 29) rfl)))) (mvT hZ (hw _ (List.mem_of_getElem? (i := 29) rfl))) (mvT hZ (hw _ (List.mem_of_getElem? (i := 28) rfl))) (by decide) (backOf (W := 0) (rm5 l Z a0 hw [] b3 (2 : Int32) T4.heap n0 Zs4 c5 Fq4_statusClass) hZ (hw _ (List.mem_of_getElem? (i := 30) rfl)) (hw _ (List.mem_of_getElem? (i := 3) rfl)) (by decide) (by decide)) q9a q9c (g := (mkF m 95 #[.val (.int p1), .val (.int p2), .val (.int p3), .val (.int ((p1 &&& (2147483647 : Int32)) % (3 : Int32))), .val (.int (2 : Int32)), .val (.int ((p2 &&& (2147483647 : Int32)) % (1000 : Int32))), .val (.int ((p3 &&& (2147483647 : Int32)) % (1000 : Int32))), .val (.ref b3), .val (.int (0 : Int32)), .val (.int (0 : Int32)), .val (.int (0 : Int32))] [(.ref b3)])) rfl (by rw [hml]; rfl) (Steps.refl _) (argsL := []) (rest := []) (lenOf pd_2 rfl) rfl (by show 2 * 0 + _ ≤ _; exact Nat.le_of_eq rfl) (hb hby at_95) (fun _ _ => ⟨rfl, e6, (by decide : 1 + 0 ≤ _), (by decide : 3 + 0 ≤ _)⟩)
    dsimp only [Pt.U, Pt.locs, Pt.cells, Pt.slots] at X9 l9 y9 z9 st9 hQ9
    subst l9 y9 z9
    have hv9 : own_is (2 : Int32) 2 = (1 : Int32) := by decide
    obtain ⟨rfl, N9q, e9⟩ := hQ9
    rw [hv9] at st9
    have N9 := Fr.app N6 N9q
    have hc98_10 : ¬ ((1 : Int32) = (0 : Int32)) := by decide
    obtain ⟨cq11, kq11, q11a, q11b, q11c⟩ := isOf hZ e9 c5
    obtain ⟨_, _, ⟨T11, L11, k11, n11⟩, -, X11, ⟨Lc11, hQ11, l11, y11, z11⟩, st11⟩ := X9.virtualBack hx (y := (⟨"com/example/mail_delivery_tracker/maildeliverytracker/mail/EnhancedStatusCode", "isTransientFailure", "()Z"⟩ : MethodName)) (z := (⟨"com/example/mail_delivery_tracker/maildeliverytracker/mail/EnhancedStatusCode", "isTransientFailure", "()Z"⟩ : MethodName)) hown (mvT hZ (hw _ (List.mem_of_getElem? (i := 31) rfl))) (mvT hZ (hw _ (List.mem_of_getElem? (i := 32) rfl))) (notFace_of_selects (args := #[]) (mvT hZ (hw _ (List.mem_of_getElem? (i := 34) rfl)))) (mvT hZ (hw _ (List.mem_of_getElem? (i := 34) rfl))) (mvT hZ (hw _ (List.mem_of_getElem? (i := 33) rfl))) (by decide) (backOf (W := 0) (rm6 l Z a0 hw [] b3 (2 : Int32) T4.heap n0 Zs4 c5 Fq4_statusClass) hZ (hw _ (List.mem_of_getElem? (i := 35) rfl)) (hw _ (List.mem_of_getElem? (i := 3) rfl)) (by decide) (by decide)) q11a q11c (g := (mkF m 109 #[.val (.int p1), .val (.int p2), .val (.int p3), .val (.int ((p1 &&& (2147483647 : Int32)) % (3 : Int32))), .val (.int (2 : Int32)), .val (.int ((p2 &&& (2147483647 : Int32)) % (1000 : Int32))), .val (.int ((p3 &&& (2147483647 : Int32)) % (1000 : Int32))), .val (.ref b3), .val (.int (0 : Int32)), .val (.int (0 : Int32)), .val (.int ((0 : Int32) + (1 : Int32)))] [(.ref b3)])) rfl (by rw [hml]; rfl) (Steps.refl _) (argsL := []) (rest := []) (lenOf pd_2 rfl) rfl (by show 2 * 0 + _ ≤ _; exact Nat.le_of_eq rfl) (hb hby at_109) (fun _ _ => ⟨rfl, e9, (by decide : 1 + 0 ≤ _), (by decide : 3 + 0 ≤ _)⟩)
    dsimp only [Pt.U, Pt.locs, Pt.cells, Pt.slots] at X11 l11 y11 z11 st11 hQ11
    subst l11 y11 z11
    have hv11 : own_is (2 : Int32) 4 = (0 : Int32) := by decide
    obtain ⟨rfl, N11q, e11⟩ := hQ11
    rw [hv11] at st11
    have N11 := Fr.app N9 N11q
    have hc112_12 : (0 : Int32) = (0 : Int32) := rfl
    have hc123_13 : (0 : Int32) = (0 : Int32) := rfl
    have hc135_14 : ((0 : Int32) + (1 : Int32)) = (1 : Int32) := by decide
    have P15 : ∀ t, Steps p.tables e below (T11.setTop (mkF m 143 #[.val (.int p1), .val (.int p2), .val (.int p3), .val (.int ((p1 &&& (2147483647 : Int32)) % (3 : Int32))), .val (.int (2 : Int32)), .val (.int ((p2 &&& (2147483647 : Int32)) % (1000 : Int32))), .val (.int ((p3 &&& (2147483647 : Int32)) % (1000 : Int32))), .val (.ref b3), .val (.int (0 : Int32)), .val (.int (0 : Int32)), .val (.int ((0 : Int32) + (1 : Int32)))] [(.int (1 : Int32))])) t → Steps p.tables e below (s₁.setTop (entryFrame m #[(.int p1), (.int p2), (.int p3)] maxLocals)) t := fun t kt => P2 t (by
      show Steps p.tables e below (s₁.setTop (mkF m 8 #[.val (.int p1), .val (.int p2), .val (.int p3), .val (.int ((p1 &&& (2147483647 : Int32)) % (3 : Int32))), .unset, .unset, .unset, .unset, .unset, .unset, .unset] [(.int ((p1 &&& (2147483647 : Int32)) % (3 : Int32)))])) _
      refine XS.ifNo X0.here hx rfl (hb hby at_8) rfl (XT.i0_ne_f hc8_1) ?_
      show Steps p.tables e below (s₁.setTop (mkF m 11 #[.val (.int p1), .val (.int p2), .val (.int p3), .val (.int ((p1 &&& (2147483647 : Int32)) % (3 : Int32))), .unset, .unset, .unset, .unset, .unset, .unset, .unset] [])) _
      refine XS.iconst X0.here hx rfl (hb hby at_11) ?_
      show Steps p.tables e below (s₁.setTop (mkF m 12 #[.val (.int p1), .val (.int p2), .val (.int p3), .val (.int ((p1 &&& (2147483647 : Int32)) % (3 : Int32))), .unset, .unset, .unset, .unset, .unset, .unset, .unset] [(.int (2 : Int32))])) _
      refine XS.goto X0.here hx rfl (pc0 := 12) (pc' := 25) rfl (hb hby at_12) (by decide) (by decide) ?_
      show Steps p.tables e below (s₁.setTop (mkF m 25 #[.val (.int p1), .val (.int p2), .val (.int p3), .val (.int ((p1 &&& (2147483647 : Int32)) % (3 : Int32))), .unset, .unset, .unset, .unset, .unset, .unset, .unset] [(.int (2 : Int32))])) _
      refine XS.istore X0.here hx rfl (hb hby at_25) rfl (l' := #[.val (.int p1), .val (.int p2), .val (.int p3), .val (.int ((p1 &&& (2147483647 : Int32)) % (3 : Int32))), .val (.int (2 : Int32)), .unset, .unset, .unset, .unset, .unset, .unset]) rfl ?_
      show Steps p.tables e below (s₁.setTop (mkF m 27 #[.val (.int p1), .val (.int p2), .val (.int p3), .val (.int ((p1 &&& (2147483647 : Int32)) % (3 : Int32))), .val (.int (2 : Int32)), .unset, .unset, .unset, .unset, .unset, .unset] [])) _
      refine XS.iloadN X0.here hx rfl (hb hby at_27) rfl ?_
      show Steps p.tables e below (s₁.setTop (mkF m 28 #[.val (.int p1), .val (.int p2), .val (.int p3), .val (.int ((p1 &&& (2147483647 : Int32)) % (3 : Int32))), .val (.int (2 : Int32)), .unset, .unset, .unset, .unset, .unset, .unset] [(.int p2)])) _
      refine X0.ldcI hx hown (mvT hZ (hw _ (List.mem_of_getElem? (i := 0) rfl))) rfl (hb hby at_28) ?_
      show Steps p.tables e below (s₁.setTop (mkF m 30 #[.val (.int p1), .val (.int p2), .val (.int p3), .val (.int ((p1 &&& (2147483647 : Int32)) % (3 : Int32))), .val (.int (2 : Int32)), .unset, .unset, .unset, .unset, .unset, .unset] [(.int (2147483647 : Int32)), (.int p2)])) _
      refine XS.iand X0.here hx rfl (hb hby at_30) rfl ?_
      show Steps p.tables e below (s₁.setTop (mkF m 31 #[.val (.int p1), .val (.int p2), .val (.int p3), .val (.int ((p1 &&& (2147483647 : Int32)) % (3 : Int32))), .val (.int (2 : Int32)), .unset, .unset, .unset, .unset, .unset, .unset] [(.int (p2 &&& (2147483647 : Int32)))])) _
      refine XS.sipush X0.here hx rfl (hb hby at_31) ?_
      show Steps p.tables e below (s₁.setTop (mkF m 34 #[.val (.int p1), .val (.int p2), .val (.int p3), .val (.int ((p1 &&& (2147483647 : Int32)) % (3 : Int32))), .val (.int (2 : Int32)), .unset, .unset, .unset, .unset, .unset, .unset] [(.int (1000 : Int32)), (.int (p2 &&& (2147483647 : Int32)))])) _
      refine iremM X0 hx rfl (hb hby at_34) rfl (by decide) ?_
      show Steps p.tables e below (s₁.setTop (mkF m 35 #[.val (.int p1), .val (.int p2), .val (.int p3), .val (.int ((p1 &&& (2147483647 : Int32)) % (3 : Int32))), .val (.int (2 : Int32)), .unset, .unset, .unset, .unset, .unset, .unset] [(.int ((p2 &&& (2147483647 : Int32)) % (1000 : Int32)))])) _
      refine XS.istore X0.here hx rfl (hb hby at_35) rfl (l' := #[.val (.int p1), .val (.int p2), .val (.int p3), .val (.int ((p1 &&& (2147483647 : Int32)) % (3 : Int32))), .val (.int (2 : Int32)), .val (.int ((p2 &&& (2147483647 : Int32)) % (1000 : Int32))), .unset, .unset, .unset, .unset, .unset]) rfl ?_
      show Steps p.tables e below (s₁.setTop (mkF m 37 #[.val (.int p1), .val (.int p2), .val (.int p3), .val (.int ((p1 &&& (2147483647 : Int32)) % (3 : Int32))), .val (.int (2 : Int32)), .val (.int ((p2 &&& (2147483647 : Int32)) % (1000 : Int32))), .unset, .unset, .unset, .unset, .unset] [])) _
      refine XS.iloadN X0.here hx rfl (hb hby at_37) rfl ?_
      show Steps p.tables e below (s₁.setTop (mkF m 38 #[.val (.int p1), .val (.int p2), .val (.int p3), .val (.int ((p1 &&& (2147483647 : Int32)) % (3 : Int32))), .val (.int (2 : Int32)), .val (.int ((p2 &&& (2147483647 : Int32)) % (1000 : Int32))), .unset, .unset, .unset, .unset, .unset] [(.int p3)])) _
      refine X0.ldcI hx hown (mvT hZ (hw _ (List.mem_of_getElem? (i := 0) rfl))) rfl (hb hby at_38) ?_
      show Steps p.tables e below (s₁.setTop (mkF m 40 #[.val (.int p1), .val (.int p2), .val (.int p3), .val (.int ((p1 &&& (2147483647 : Int32)) % (3 : Int32))), .val (.int (2 : Int32)), .val (.int ((p2 &&& (2147483647 : Int32)) % (1000 : Int32))), .unset, .unset, .unset, .unset, .unset] [(.int (2147483647 : Int32)), (.int p3)])) _
      refine XS.iand X0.here hx rfl (hb hby at_40) rfl ?_
      show Steps p.tables e below (s₁.setTop (mkF m 41 #[.val (.int p1), .val (.int p2), .val (.int p3), .val (.int ((p1 &&& (2147483647 : Int32)) % (3 : Int32))), .val (.int (2 : Int32)), .val (.int ((p2 &&& (2147483647 : Int32)) % (1000 : Int32))), .unset, .unset, .unset, .unset, .unset] [(.int (p3 &&& (2147483647 : Int32)))])) _
      refine XS.sipush X0.here hx rfl (hb hby at_41) ?_
      show Steps p.tables e below (s₁.setTop (mkF m 44 #[.val (.int p1), .val (.int p2), .val (.int p3), .val (.int ((p1 &&& (2147483647 : Int32)) % (3 : Int32))), .val (.int (2 : Int32)), .val (.int ((p2 &&& (2147483647 : Int32)) % (1000 : Int32))), .unset, .unset, .unset, .unset, .unset] [(.int (1000 : Int32)), (.int (p3 &&& (2147483647 : Int32)))])) _
      refine iremM X0 hx rfl (hb hby at_44) rfl (by decide) ?_
      show Steps p.tables e below (s₁.setTop (mkF m 45 #[.val (.int p1), .val (.int p2), .val (.int p3), .val (.int ((p1 &&& (2147483647 : Int32)) % (3 : Int32))), .val (.int (2 : Int32)), .val (.int ((p2 &&& (2147483647 : Int32)) % (1000 : Int32))), .unset, .unset, .unset, .unset, .unset] [(.int ((p3 &&& (2147483647 : Int32)) % (1000 : Int32)))])) _
      refine XS.istore X0.here hx rfl (hb hby at_45) rfl (l' := #[.val (.int p1), .val (.int p2), .val (.int p3), .val (.int ((p1 &&& (2147483647 : Int32)) % (3 : Int32))), .val (.int (2 : Int32)), .val (.int ((p2 &&& (2147483647 : Int32)) % (1000 : Int32))), .val (.int ((p3 &&& (2147483647 : Int32)) % (1000 : Int32))), .unset, .unset, .unset, .unset]) rfl ?_
      show Steps p.tables e below (s₁.setTop (mkF m 47 #[.val (.int p1), .val (.int p2), .val (.int p3), .val (.int ((p1 &&& (2147483647 : Int32)) % (3 : Int32))), .val (.int (2 : Int32)), .val (.int ((p2 &&& (2147483647 : Int32)) % (1000 : Int32))), .val (.int ((p3 &&& (2147483647 : Int32)) % (1000 : Int32))), .unset, .unset, .unset, .unset] [])) _
      refine st3 _ ?_
      show Steps p.tables e below (T3.setTop (mkF m 50 #[.val (.int p1), .val (.int p2), .val (.int p3), .val (.int ((p1 &&& (2147483647 : Int32)) % (3 : Int32))), .val (.int (2 : Int32)), .val (.int ((p2 &&& (2147483647 : Int32)) % (1000 : Int32))), .val (.int ((p3 &&& (2147483647 : Int32)) % (1000 : Int32))), .unset, .unset, .unset, .unset] [(.ref b3)])) _
      refine XS.dup X3.here hx rfl (hb hby at_50) rfl rfl ?_
      show Steps p.tables e below (T3.setTop (mkF m 51 #[.val (.int p1), .val (.int p2), .val (.int p3), .val (.int ((p1 &&& (2147483647 : Int32)) % (3 : Int32))), .val (.int (2 : Int32)), .val (.int ((p2 &&& (2147483647 : Int32)) % (1000 : Int32))), .val (.int ((p3 &&& (2147483647 : Int32)) % (1000 : Int32))), .unset, .unset, .unset, .unset] [(.ref b3), (.ref b3)])) _
      refine XS.iload X3.here hx rfl (hb hby at_51) rfl ?_
      show Steps p.tables e below (T3.setTop (mkF m 53 #[.val (.int p1), .val (.int p2), .val (.int p3), .val (.int ((p1 &&& (2147483647 : Int32)) % (3 : Int32))), .val (.int (2 : Int32)), .val (.int ((p2 &&& (2147483647 : Int32)) % (1000 : Int32))), .val (.int ((p3 &&& (2147483647 : Int32)) % (1000 : Int32))), .unset, .unset, .unset, .unset] [(.int (2 : Int32)), (.ref b3), (.ref b3)])) _
      refine XS.iload X3.here hx rfl (hb hby at_53) rfl ?_
      show Steps p.tables e below (T3.setTop (mkF m 55 #[.val (.int p1), .val (.int p2), .val (.int p3), .val (.int ((p1 &&& (2147483647 : Int32)) % (3 : Int32))), .val (.int (2 : Int32)), .val (.int ((p2 &&& (2147483647 : Int32)) % (1000 : Int32))), .val (.int ((p3 &&& (2147483647 : Int32)) % (1000 : Int32))), .unset, .unset, .unset, .unset] [(.int ((p2 &&& (2147483647 : Int32)) % (1000 : Int32))), (.int (2 : Int32)), (.ref b3), (.ref b3)])) _
      refine XS.iload X3.here hx rfl (hb hby at_55) rfl ?_
      show Steps p.tables e below (T3.setTop (mkF m 57 #[.val (.int p1), .val (.int p2), .val (.int p3), .val (.int ((p1 &&& (2147483647 : Int32)) % (3 : Int32))), .val (.int (2 : Int32)), .val (.int ((p2 &&& (2147483647 : Int32)) % (1000 : Int32))), .val (.int ((p3 &&& (2147483647 : Int32)) % (1000 : Int32))), .unset, .unset, .unset, .unset] [(.int ((p3 &&& (2147483647 : Int32)) % (1000 : Int32))), (.int ((p2 &&& (2147483647 : Int32)) % (1000 : Int32))), (.int (2 : Int32)), (.ref b3), (.ref b3)])) _
      refine st4.trans ?_
      show Steps p.tables e below (T4.setTop (mkF m 60 #[.val (.int p1), .val (.int p2), .val (.int p3), .val (.int ((p1 &&& (2147483647 : Int32)) % (3 : Int32))), .val (.int (2 : Int32)), .val (.int ((p2 &&& (2147483647 : Int32)) % (1000 : Int32))), .val (.int ((p3 &&& (2147483647 : Int32)) % (1000 : Int32))), .unset, .unset, .unset, .unset] [(.ref b3)])) _
      refine XS.astore X4.here hx rfl (hb hby at_60) rfl rfl (l' := #[.val (.int p1), .val (.int p2), .val (.int p3), .val (.int ((p1 &&& (2147483647 : Int32)) % (3 : Int32))), .val (.int (2 : Int32)), .val (.int ((p2 &&& (2147483647 : Int32)) % (1000 : Int32))), .val (.int ((p3 &&& (2147483647 : Int32)) % (1000 : Int32))), .val (.ref b3), .unset, .unset, .unset]) rfl ?_
      show Steps p.tables e below (T4.setTop (mkF m 62 #[.val (.int p1), .val (.int p2), .val (.int p3), .val (.int ((p1 &&& (2147483647 : Int32)) % (3 : Int32))), .val (.int (2 : Int32)), .val (.int ((p2 &&& (2147483647 : Int32)) % (1000 : Int32))), .val (.int ((p3 &&& (2147483647 : Int32)) % (1000 : Int32))), .val (.ref b3), .unset, .unset, .unset] [])) _
      refine XS.aload X4.here hx rfl (hb hby at_62) rfl rfl ?_
      show Steps p.tables e below (T4.setTop (mkF m 64 #[.val (.int p1), .val (.int p2), .val (.int p3), .val (.int ((p1 &&& (2147483647 : Int32)) % (3 : Int32))), .val (.int (2 : Int32)), .val (.int ((p2 &&& (2147483647 : Int32)) % (1000 : Int32))), .val (.int ((p3 &&& (2147483647 : Int32)) % (1000 : Int32))), .val (.ref b3), .unset, .unset, .unset] [(.ref b3)])) _
      refine st6.trans ?_
      show Steps p.tables e below (T6.setTop (mkF m 67 #[.val (.int p1), .val (.int p2), .val (.int p3), .val (.int ((p1 &&& (2147483647 : Int32)) % (3 : Int32))), .val (.int (2 : Int32)), .val (.int ((p2 &&& (2147483647 : Int32)) % (1000 : Int32))), .val (.int ((p3 &&& (2147483647 : Int32)) % (1000 : Int32))), .val (.ref b3), .unset, .unset, .unset] [(.int (0 : Int32))])) _
      refine XS.istore X6.here hx rfl (hb hby at_67) rfl (l' := #[.val (.int p1), .val (.int p2), .val (.int p3), .val (.int ((p1 &&& (2147483647 : Int32)) % (3 : Int32))), .val (.int (2 : Int32)), .val (.int ((p2 &&& (2147483647 : Int32)) % (1000 : Int32))), .val (.int ((p3 &&& (2147483647 : Int32)) % (1000 : Int32))), .val (.ref b3), .val (.int (0 : Int32)), .unset, .unset]) rfl ?_
      show Steps p.tables e below (T6.setTop (mkF m 69 #[.val (.int p1), .val (.int p2), .val (.int p3), .val (.int ((p1 &&& (2147483647 : Int32)) % (3 : Int32))), .val (.int (2 : Int32)), .val (.int ((p2 &&& (2147483647 : Int32)) % (1000 : Int32))), .val (.int ((p3 &&& (2147483647 : Int32)) % (1000 : Int32))), .val (.ref b3), .val (.int (0 : Int32)), .unset, .unset] [])) _
      refine XS.iloadN X6.here hx rfl (hb hby at_69) rfl ?_
      show Steps p.tables e below (T6.setTop (mkF m 70 #[.val (.int p1), .val (.int p2), .val (.int p3), .val (.int ((p1 &&& (2147483647 : Int32)) % (3 : Int32))), .val (.int (2 : Int32)), .val (.int ((p2 &&& (2147483647 : Int32)) % (1000 : Int32))), .val (.int ((p3 &&& (2147483647 : Int32)) % (1000 : Int32))), .val (.ref b3), .val (.int (0 : Int32)), .unset, .unset] [(.int ((p1 &&& (2147483647 : Int32)) % (3 : Int32)))])) _
      refine XS.iconst X6.here hx rfl (hb hby at_70) ?_
      show Steps p.tables e below (T6.setTop (mkF m 71 #[.val (.int p1), .val (.int p2), .val (.int p3), .val (.int ((p1 &&& (2147483647 : Int32)) % (3 : Int32))), .val (.int (2 : Int32)), .val (.int ((p2 &&& (2147483647 : Int32)) % (1000 : Int32))), .val (.int ((p3 &&& (2147483647 : Int32)) % (1000 : Int32))), .val (.ref b3), .val (.int (0 : Int32)), .unset, .unset] [(.int (2 : Int32)), (.int ((p1 &&& (2147483647 : Int32)) % (3 : Int32)))])) _
      refine XS.icmpYes X6.here hx rfl (pc0 := 71) (pc' := 78) rfl (hb hby at_71) rfl (XT.ii_ne_t hc71_7) (by decide) (by decide) ?_
      show Steps p.tables e below (T6.setTop (mkF m 78 #[.val (.int p1), .val (.int p2), .val (.int p3), .val (.int ((p1 &&& (2147483647 : Int32)) % (3 : Int32))), .val (.int (2 : Int32)), .val (.int ((p2 &&& (2147483647 : Int32)) % (1000 : Int32))), .val (.int ((p3 &&& (2147483647 : Int32)) % (1000 : Int32))), .val (.ref b3), .val (.int (0 : Int32)), .unset, .unset] [])) _
      refine XS.iconst X6.here hx rfl (hb hby at_78) ?_
      show Steps p.tables e below (T6.setTop (mkF m 79 #[.val (.int p1), .val (.int p2), .val (.int p3), .val (.int ((p1 &&& (2147483647 : Int32)) % (3 : Int32))), .val (.int (2 : Int32)), .val (.int ((p2 &&& (2147483647 : Int32)) % (1000 : Int32))), .val (.int ((p3 &&& (2147483647 : Int32)) % (1000 : Int32))), .val (.ref b3), .val (.int (0 : Int32)), .unset, .unset] [(.int (0 : Int32))])) _
      refine XS.istore X6.here hx rfl (hb hby at_79) rfl (l' := #[.val (.int p1), .val (.int p2), .val (.int p3), .val (.int ((p1 &&& (2147483647 : Int32)) % (3 : Int32))), .val (.int (2 : Int32)), .val (.int ((p2 &&& (2147483647 : Int32)) % (1000 : Int32))), .val (.int ((p3 &&& (2147483647 : Int32)) % (1000 : Int32))), .val (.ref b3), .val (.int (0 : Int32)), .val (.int (0 : Int32)), .unset]) rfl ?_
      show Steps p.tables e below (T6.setTop (mkF m 81 #[.val (.int p1), .val (.int p2), .val (.int p3), .val (.int ((p1 &&& (2147483647 : Int32)) % (3 : Int32))), .val (.int (2 : Int32)), .val (.int ((p2 &&& (2147483647 : Int32)) % (1000 : Int32))), .val (.int ((p3 &&& (2147483647 : Int32)) % (1000 : Int32))), .val (.ref b3), .val (.int (0 : Int32)), .val (.int (0 : Int32)), .unset] [])) _
      refine XS.iload X6.here hx rfl (hb hby at_81) rfl ?_
      show Steps p.tables e below (T6.setTop (mkF m 83 #[.val (.int p1), .val (.int p2), .val (.int p3), .val (.int ((p1 &&& (2147483647 : Int32)) % (3 : Int32))), .val (.int (2 : Int32)), .val (.int ((p2 &&& (2147483647 : Int32)) % (1000 : Int32))), .val (.int ((p3 &&& (2147483647 : Int32)) % (1000 : Int32))), .val (.ref b3), .val (.int (0 : Int32)), .val (.int (0 : Int32)), .unset] [(.int (0 : Int32))])) _
      refine XS.iload X6.here hx rfl (hb hby at_83) rfl ?_
      show Steps p.tables e below (T6.setTop (mkF m 85 #[.val (.int p1), .val (.int p2), .val (.int p3), .val (.int ((p1 &&& (2147483647 : Int32)) % (3 : Int32))), .val (.int (2 : Int32)), .val (.int ((p2 &&& (2147483647 : Int32)) % (1000 : Int32))), .val (.int ((p3 &&& (2147483647 : Int32)) % (1000 : Int32))), .val (.ref b3), .val (.int (0 : Int32)), .val (.int (0 : Int32)), .unset] [(.int (0 : Int32)), (.int (0 : Int32))])) _
      refine XS.icmpYes X6.here hx rfl (pc0 := 85) (pc' := 90) rfl (hb hby at_85) rfl (XT.ii_eq_t hc85_8) (by decide) (by decide) ?_
      show Steps p.tables e below (T6.setTop (mkF m 90 #[.val (.int p1), .val (.int p2), .val (.int p3), .val (.int ((p1 &&& (2147483647 : Int32)) % (3 : Int32))), .val (.int (2 : Int32)), .val (.int ((p2 &&& (2147483647 : Int32)) % (1000 : Int32))), .val (.int ((p3 &&& (2147483647 : Int32)) % (1000 : Int32))), .val (.ref b3), .val (.int (0 : Int32)), .val (.int (0 : Int32)), .unset] [])) _
      refine XS.iconst X6.here hx rfl (hb hby at_90) ?_
      show Steps p.tables e below (T6.setTop (mkF m 91 #[.val (.int p1), .val (.int p2), .val (.int p3), .val (.int ((p1 &&& (2147483647 : Int32)) % (3 : Int32))), .val (.int (2 : Int32)), .val (.int ((p2 &&& (2147483647 : Int32)) % (1000 : Int32))), .val (.int ((p3 &&& (2147483647 : Int32)) % (1000 : Int32))), .val (.ref b3), .val (.int (0 : Int32)), .val (.int (0 : Int32)), .unset] [(.int (0 : Int32))])) _
      refine XS.istore X6.here hx rfl (hb hby at_91) rfl (l' := #[.val (.int p1), .val (.int p2), .val (.int p3), .val (.int ((p1 &&& (2147483647 : Int32)) % (3 : Int32))), .val (.int (2 : Int32)), .val (.int ((p2 &&& (2147483647 : Int32)) % (1000 : Int32))), .val (.int ((p3 &&& (2147483647 : Int32)) % (1000 : Int32))), .val (.ref b3), .val (.int (0 : Int32)), .val (.int (0 : Int32)), .val (.int (0 : Int32))]) rfl ?_
      show Steps p.tables e below (T6.setTop (mkF m 93 #[.val (.int p1), .val (.int p2), .val (.int p3), .val (.int ((p1 &&& (2147483647 : Int32)) % (3 : Int32))), .val (.int (2 : Int32)), .val (.int ((p2 &&& (2147483647 : Int32)) % (1000 : Int32))), .val (.int ((p3 &&& (2147483647 : Int32)) % (1000 : Int32))), .val (.ref b3), .val (.int (0 : Int32)), .val (.int (0 : Int32)), .val (.int (0 : Int32))] [])) _
      refine XS.aload X6.here hx rfl (hb hby at_93) rfl rfl ?_
      show Steps p.tables e below (T6.setTop (mkF m 95 #[.val (.int p1), .val (.int p2), .val (.int p3), .val (.int ((p1 &&& (2147483647 : Int32)) % (3 : Int32))), .val (.int (2 : Int32)), .val (.int ((p2 &&& (2147483647 : Int32)) % (1000 : Int32))), .val (.int ((p3 &&& (2147483647 : Int32)) % (1000 : Int32))), .val (.ref b3), .val (.int (0 : Int32)), .val (.int (0 : Int32)), .val (.int (0 : Int32))] [(.ref b3)])) _
      refine st9.trans ?_
      show Steps p.tables e below (T9.setTop (mkF m 98 #[.val (.int p1), .val (.int p2), .val (.int p3), .val (.int ((p1 &&& (2147483647 : Int32)) % (3 : Int32))), .val (.int (2 : Int32)), .val (.int ((p2 &&& (2147483647 : Int32)) % (1000 : Int32))), .val (.int ((p3 &&& (2147483647 : Int32)) % (1000 : Int32))), .val (.ref b3), .val (.int (0 : Int32)), .val (.int (0 : Int32)), .val (.int (0 : Int32))] [(.int (1 : Int32))])) _
      refine XS.ifNo X9.here hx rfl (hb hby at_98) rfl (XT.i0_eq_f hc98_10) ?_
      show Steps p.tables e below (T9.setTop (mkF m 101 #[.val (.int p1), .val (.int p2), .val (.int p3), .val (.int ((p1 &&& (2147483647 : Int32)) % (3 : Int32))), .val (.int (2 : Int32)), .val (.int ((p2 &&& (2147483647 : Int32)) % (1000 : Int32))), .val (.int ((p3 &&& (2147483647 : Int32)) % (1000 : Int32))), .val (.ref b3), .val (.int (0 : Int32)), .val (.int (0 : Int32)), .val (.int (0 : Int32))] [])) _
      refine XS.iload X9.here hx rfl (hb hby at_101) rfl ?_
      show Steps p.tables e below (T9.setTop (mkF m 103 #[.val (.int p1), .val (.int p2), .val (.int p3), .val (.int ((p1 &&& (2147483647 : Int32)) % (3 : Int32))), .val (.int (2 : Int32)), .val (.int ((p2 &&& (2147483647 : Int32)) % (1000 : Int32))), .val (.int ((p3 &&& (2147483647 : Int32)) % (1000 : Int32))), .val (.ref b3), .val (.int (0 : Int32)), .val (.int (0 : Int32)), .val (.int (0 : Int32))] [(.int (0 : Int32))])) _
      refine XS.iconst X9.here hx rfl (hb hby at_103) ?_
      show Steps p.tables e below (T9.setTop (mkF m 104 #[.val (.int p1), .val (.int p2), .val (.int p3), .val (.int ((p1 &&& (2147483647 : Int32)) % (3 : Int32))), .val (.int (2 : Int32)), .val (.int ((p2 &&& (2147483647 : Int32)) % (1000 : Int32))), .val (.int ((p3 &&& (2147483647 : Int32)) % (1000 : Int32))), .val (.ref b3), .val (.int (0 : Int32)), .val (.int (0 : Int32)), .val (.int (0 : Int32))] [(.int (1 : Int32)), (.int (0 : Int32))])) _
      refine XS.iadd X9.here hx rfl (hb hby at_104) rfl ?_
      show Steps p.tables e below (T9.setTop (mkF m 105 #[.val (.int p1), .val (.int p2), .val (.int p3), .val (.int ((p1 &&& (2147483647 : Int32)) % (3 : Int32))), .val (.int (2 : Int32)), .val (.int ((p2 &&& (2147483647 : Int32)) % (1000 : Int32))), .val (.int ((p3 &&& (2147483647 : Int32)) % (1000 : Int32))), .val (.ref b3), .val (.int (0 : Int32)), .val (.int (0 : Int32)), .val (.int (0 : Int32))] [(.int ((0 : Int32) + (1 : Int32)))])) _
      refine XS.istore X9.here hx rfl (hb hby at_105) rfl (l' := #[.val (.int p1), .val (.int p2), .val (.int p3), .val (.int ((p1 &&& (2147483647 : Int32)) % (3 : Int32))), .val (.int (2 : Int32)), .val (.int ((p2 &&& (2147483647 : Int32)) % (1000 : Int32))), .val (.int ((p3 &&& (2147483647 : Int32)) % (1000 : Int32))), .val (.ref b3), .val (.int (0 : Int32)), .val (.int (0 : Int32)), .val (.int ((0 : Int32) + (1 : Int32)))]) rfl ?_
      show Steps p.tables e below (T9.setTop (mkF m 107 #[.val (.int p1), .val (.int p2), .val (.int p3), .val (.int ((p1 &&& (2147483647 : Int32)) % (3 : Int32))), .val (.int (2 : Int32)), .val (.int ((p2 &&& (2147483647 : Int32)) % (1000 : Int32))), .val (.int ((p3 &&& (2147483647 : Int32)) % (1000 : Int32))), .val (.ref b3), .val (.int (0 : Int32)), .val (.int (0 : Int32)), .val (.int ((0 : Int32) + (1 : Int32)))] [])) _
      refine XS.aload X9.here hx rfl (hb hby at_107) rfl rfl ?_
      show Steps p.tables e below (T9.setTop (mkF m 109 #[.val (.int p1), .val (.int p2), .val (.int p3), .val (.int ((p1 &&& (2147483647 : Int32)) % (3 : Int32))), .val (.int (2 : Int32)), .val (.int ((p2 &&& (2147483647 : Int32)) % (1000 : Int32))), .val (.int ((p3 &&& (2147483647 : Int32)) % (1000 : Int32))), .val (.ref b3), .val (.int (0 : Int32)), .val (.int (0 : Int32)), .val (.int ((0 : Int32) + (1 : Int32)))] [(.ref b3)])) _
      refine st11.trans ?_
      show Steps p.tables e below (T11.setTop (mkF m 112 #[.val (.int p1), .val (.int p2), .val (.int p3), .val (.int ((p1 &&& (2147483647 : Int32)) % (3 : Int32))), .val (.int (2 : Int32)), .val (.int ((p2 &&& (2147483647 : Int32)) % (1000 : Int32))), .val (.int ((p3 &&& (2147483647 : Int32)) % (1000 : Int32))), .val (.ref b3), .val (.int (0 : Int32)), .val (.int (0 : Int32)), .val (.int ((0 : Int32) + (1 : Int32)))] [(.int (0 : Int32))])) _
      refine XS.ifYes X11.here hx rfl (pc0 := 112) (pc' := 121) rfl (hb hby at_112) rfl (XT.i0_eq_t hc112_12) (by decide) (by decide) ?_
      show Steps p.tables e below (T11.setTop (mkF m 121 #[.val (.int p1), .val (.int p2), .val (.int p3), .val (.int ((p1 &&& (2147483647 : Int32)) % (3 : Int32))), .val (.int (2 : Int32)), .val (.int ((p2 &&& (2147483647 : Int32)) % (1000 : Int32))), .val (.int ((p3 &&& (2147483647 : Int32)) % (1000 : Int32))), .val (.ref b3), .val (.int (0 : Int32)), .val (.int (0 : Int32)), .val (.int ((0 : Int32) + (1 : Int32)))] [])) _
      refine XS.iload X11.here hx rfl (hb hby at_121) rfl ?_
      show Steps p.tables e below (T11.setTop (mkF m 123 #[.val (.int p1), .val (.int p2), .val (.int p3), .val (.int ((p1 &&& (2147483647 : Int32)) % (3 : Int32))), .val (.int (2 : Int32)), .val (.int ((p2 &&& (2147483647 : Int32)) % (1000 : Int32))), .val (.int ((p3 &&& (2147483647 : Int32)) % (1000 : Int32))), .val (.ref b3), .val (.int (0 : Int32)), .val (.int (0 : Int32)), .val (.int ((0 : Int32) + (1 : Int32)))] [(.int (0 : Int32))])) _
      refine XS.ifYes X11.here hx rfl (pc0 := 123) (pc' := 132) rfl (hb hby at_123) rfl (XT.i0_eq_t hc123_13) (by decide) (by decide) ?_
      show Steps p.tables e below (T11.setTop (mkF m 132 #[.val (.int p1), .val (.int p2), .val (.int p3), .val (.int ((p1 &&& (2147483647 : Int32)) % (3 : Int32))), .val (.int (2 : Int32)), .val (.int ((p2 &&& (2147483647 : Int32)) % (1000 : Int32))), .val (.int ((p3 &&& (2147483647 : Int32)) % (1000 : Int32))), .val (.ref b3), .val (.int (0 : Int32)), .val (.int (0 : Int32)), .val (.int ((0 : Int32) + (1 : Int32)))] [])) _
      refine XS.iload X11.here hx rfl (hb hby at_132) rfl ?_
      show Steps p.tables e below (T11.setTop (mkF m 134 #[.val (.int p1), .val (.int p2), .val (.int p3), .val (.int ((p1 &&& (2147483647 : Int32)) % (3 : Int32))), .val (.int (2 : Int32)), .val (.int ((p2 &&& (2147483647 : Int32)) % (1000 : Int32))), .val (.int ((p3 &&& (2147483647 : Int32)) % (1000 : Int32))), .val (.ref b3), .val (.int (0 : Int32)), .val (.int (0 : Int32)), .val (.int ((0 : Int32) + (1 : Int32)))] [(.int ((0 : Int32) + (1 : Int32)))])) _
      refine XS.iconst X11.here hx rfl (hb hby at_134) ?_
      show Steps p.tables e below (T11.setTop (mkF m 135 #[.val (.int p1), .val (.int p2), .val (.int p3), .val (.int ((p1 &&& (2147483647 : Int32)) % (3 : Int32))), .val (.int (2 : Int32)), .val (.int ((p2 &&& (2147483647 : Int32)) % (1000 : Int32))), .val (.int ((p3 &&& (2147483647 : Int32)) % (1000 : Int32))), .val (.ref b3), .val (.int (0 : Int32)), .val (.int (0 : Int32)), .val (.int ((0 : Int32) + (1 : Int32)))] [(.int (1 : Int32)), (.int ((0 : Int32) + (1 : Int32)))])) _
      refine XS.icmpNo X11.here hx rfl (hb hby at_135) rfl (XT.ii_ne_f hc135_14) ?_
      show Steps p.tables e below (T11.setTop (mkF m 138 #[.val (.int p1), .val (.int p2), .val (.int p3), .val (.int ((p1 &&& (2147483647 : Int32)) % (3 : Int32))), .val (.int (2 : Int32)), .val (.int ((p2 &&& (2147483647 : Int32)) % (1000 : Int32))), .val (.int ((p3 &&& (2147483647 : Int32)) % (1000 : Int32))), .val (.ref b3), .val (.int (0 : Int32)), .val (.int (0 : Int32)), .val (.int ((0 : Int32) + (1 : Int32)))] [])) _
      refine XS.iconst X11.here hx rfl (hb hby at_138) ?_
      show Steps p.tables e below (T11.setTop (mkF m 139 #[.val (.int p1), .val (.int p2), .val (.int p3), .val (.int ((p1 &&& (2147483647 : Int32)) % (3 : Int32))), .val (.int (2 : Int32)), .val (.int ((p2 &&& (2147483647 : Int32)) % (1000 : Int32))), .val (.int ((p3 &&& (2147483647 : Int32)) % (1000 : Int32))), .val (.ref b3), .val (.int (0 : Int32)), .val (.int (0 : Int32)), .val (.int ((0 : Int32) + (1 : Int32)))] [(.int (1 : Int32))])) _
      refine XS.goto X11.here hx rfl (pc0 := 139) (pc' := 143) rfl (hb hby at_139) (by decide) (by decide) ?_
      exact kt)
    obtain ⟨fs, hr, hrun, hended, hW, hsame⟩ := X11.leave (v := some (.int (1 : Int32))) (fun h => by rw [Bd.returns] at h; cases h)
    refine ⟨_, _, P15 _ ?_, hrun, hended, _, _, rfl, ?_, ⟨_, rfl⟩, hW, hsame.mono (by decide) (by decide)⟩
    · exact retN X11 hx (t := .boolean) Bd.returns (by simp) (hb hby at_143) hr
    · show Q0 Z p1 p2 p3 h0 n0 _ T11.heap _
      rw [e11]
      exact ⟨rfl, N11⟩
  · skip
    have P17 : ∀ t, Steps p.tables e below (s₁.setTop (mkF m 17 #[.val (.int p1), .val (.int p2), .val (.int p3), .val (.int ((p1 &&& (2147483647 : Int32)) % (3 : Int32))), .unset, .unset, .unset, .unset, .unset, .unset, .unset] [(.int (1 : Int32)), (.int ((p1 &&& (2147483647 : Int32)) % (3 : Int32)))])) t → Steps p.tables e below (s₁.setTop (entryFrame m #[(.int p1), (.int p2), (.int p3)] maxLocals)) t := fun t kt => P2 t (by
      show Steps p.tables e below (s₁.setTop (mkF m 8 #[.val (.int p1), .val (.int p2), .val (.int p3), .val (.int ((p1 &&& (2147483647 : Int32)) % (3 : Int32))), .unset, .unset, .unset, .unset, .unset, .unset, .unset] [(.int ((p1 &&& (2147483647 : Int32)) % (3 : Int32)))])) _
      refine XS.ifYes X0.here hx rfl (pc0 := 8) (pc' := 15) rfl (hb hby at_8) rfl (XT.i0_ne_t hc8_1) (by decide) (by decide) ?_
      show Steps p.tables e below (s₁.setTop (mkF m 15 #[.val (.int p1), .val (.int p2), .val (.int p3), .val (.int ((p1 &&& (2147483647 : Int32)) % (3 : Int32))), .unset, .unset, .unset, .unset, .unset, .unset, .unset] [])) _
      refine XS.iloadN X0.here hx rfl (hb hby at_15) rfl ?_
      show Steps p.tables e below (s₁.setTop (mkF m 16 #[.val (.int p1), .val (.int p2), .val (.int p3), .val (.int ((p1 &&& (2147483647 : Int32)) % (3 : Int32))), .unset, .unset, .unset, .unset, .unset, .unset, .unset] [(.int ((p1 &&& (2147483647 : Int32)) % (3 : Int32)))])) _
      refine XS.iconst X0.here hx rfl (hb hby at_16) ?_
      exact kt)
    by_cases hc17_16 : ((p1 &&& (2147483647 : Int32)) % (3 : Int32)) = (1 : Int32)
    · skip
      obtain ⟨T18, h18, X18, e18, E18, A18, D18, -, st18⟩ := newO X0 hx hZ hown (hw _ (List.mem_of_getElem? (i := 1) rfl)) (hw _ (List.mem_of_getElem? (i := 2) rfl)) (hw _ (List.mem_of_getElem? (i := 3) rfl)) e0 (g := (mkF m 47 #[.val (.int p1), .val (.int p2), .val (.int p3), .val (.int ((p1 &&& (2147483647 : Int32)) % (3 : Int32))), .val (.int (4 : Int32)), .val (.int ((p2 &&& (2147483647 : Int32)) % (1000 : Int32))), .val (.int ((p3 &&& (2147483647 : Int32)) % (1000 : Int32))), .unset, .unset, .unset, .unset] [])) rfl (hb hby at_47) (by decide) (by decide)
      obtain ⟨b18, g18⟩ : ∃ z, z = h0.size := ⟨_, rfl⟩
      rw [← g18] at A18 D18 st18
      have g_b18 : n0 ≤ b18 := Nat.le_trans Z0 (Nat.le_of_eq g18.symm)
      have Zs18 : n0 ≤ h18.size := Nat.le_trans Z0 E18.1
      have F18_statusClass : Fld Z h18 b18 "com/example/mail_delivery_tracker/maildeliverytracker/mail/EnhancedStatusCode" "statusClass" "I" (.int (0 : Int32)) := D18 (Or.inr (hw _ (List.mem_of_getElem? (i := 16) rfl))) (ty := .int) (by decide)
      have F18_subject : Fld Z h18 b18 "com/example/mail_delivery_tracker/maildeliverytracker/mail/EnhancedStatusCode" "subject" "I" (.int (0 : Int32)) := D18 (Or.inr (hw _ (List.mem_of_getElem? (i := 18) rfl))) (ty := .int) (by decide)
      have F18_detail : Fld Z h18 b18 "com/example/mail_delivery_tracker/maildeliverytracker/mail/EnhancedStatusCode" "detail" "I" (.int (0 : Int32)) := D18 (Or.inr (hw _ (List.mem_of_getElem? (i := 20) rfl))) (ty := .int) (by decide)
      obtain ⟨_, _, ⟨T19, L19, k19, n19⟩, -, X19, ⟨Lc19, hQ19, l19, y19, z19⟩, st19⟩ := X18.specialBack hx (y := (⟨"com/example/mail_delivery_tracker/maildeliverytracker/mail/EnhancedStatusCode", "<init>", "(III)V"⟩ : MethodName)) rfl hown (mvT hZ (hw _ (List.mem_of_getElem? (i := 4) rfl))) (mvT hZ (hw _ (List.mem_of_getElem? (i := 5) rfl))) (mvT hZ (hw _ (List.mem_of_getElem? (i := 6) rfl))) (by decide) (backOf (W := 1) (rmE l Z a0 hw [] b18 (4 : Int32) ((p2 &&& (2147483647 : Int32)) % (1000 : Int32)) ((p3 &&& (2147483647 : Int32)) % (1000 : Int32)) h18 n0 Zs18 A18 F18_statusClass F18_subject F18_detail g_b18 (Or.inr (Or.inl rfl)) (own_nn _) (own_le _) (own_nn _) (own_le _)) hZ (hw _ (List.mem_of_getElem? (i := 6) rfl)) (hw _ (List.mem_of_getElem? (i := 3) rfl)) (by decide) (by decide)) (g := (mkF m 57 #[.val (.int p1), .val (.int p2), .val (.int p3), .val (.int ((p1 &&& (2147483647 : Int32)) % (3 : Int32))), .val (.int (4 : Int32)), .val (.int ((p2 &&& (2147483647 : Int32)) % (1000 : Int32))), .val (.int ((p3 &&& (2147483647 : Int32)) % (1000 : Int32))), .unset, .unset, .unset, .unset] [(.int ((p3 &&& (2147483647 : Int32)) % (1000 : Int32))), (.int ((p2 &&& (2147483647 : Int32)) % (1000 : Int32))), (.int (4 : Int32)), (.ref b18), (.ref b18)])) rfl (by rw [hml]; rfl) (Steps.refl _) (a := b18) (argsL := [(.int (4 : Int32)), (.int ((p2 &&& (2147483647 : Int32)) % (1000 : Int32))), (.int ((p3 &&& (2147483647 : Int32)) % (1000 : Int32)))]) (rest := [(.ref b18)]) (lenOf pd_1 rfl) rfl (by show 2 * 0 + _ ≤ _; exact Nat.le_of_eq rfl) (hb hby at_57) (fun _ _ => ⟨rfl, e18, (by decide : 1 + 0 ≤ _), (by decide : 3 + 0 ≤ _)⟩)
      dsimp only [Pt.U, Pt.locs, Pt.cells, Pt.slots] at X19 l19 y19 z19 st19 hQ19
      subst l19 y19 z19
      obtain ⟨rfl, N19q, Kq19, Eq19, Fq19_statusClass, Fq19_subject, Fq19_detail⟩ := hQ19
      have N19 := Fr.app N0 N19q
      have c20 := A18.keep Kq19
      have Zs19 : n0 ≤ T19.heap.size := Nat.le_trans Zs18 Kq19.1
      obtain ⟨cq21, kq21, q21a, q21b, q21c⟩ := isOf hZ rfl c20
      obtain ⟨_, _, ⟨T21, L21, k21, n21⟩, -, X21, ⟨Lc21, hQ21, l21, y21, z21⟩, st21⟩ := X19.virtualBack hx (y := (⟨"com/example/mail_delivery_tracker/maildeliverytracker/mail/EnhancedStatusCode", "isPermanentFailure", "()Z"⟩ : MethodName)) (z := (⟨"com/example/mail_delivery_tracker/maildeliverytracker/mail/EnhancedStatusCode", "isPermanentFailure", "()Z"⟩ : MethodName)) hown (mvT hZ (hw _ (List.mem_of_getElem? (i := 21) rfl))) (mvT hZ (hw _ (List.mem_of_getElem? (i := 22) rfl))) (notFace_of_selects (args := #[]) (mvT hZ (hw _ (List.mem_of_getElem? (i := 24) rfl)))) (mvT hZ (hw _ (List.mem_of_getElem? (i := 24) rfl))) (mvT hZ (hw _ (List.mem_of_getElem? (i := 23) rfl))) (by decide) (backOf (W := 0) (rm4 l Z a0 hw [] b18 (4 : Int32) T19.heap n0 Zs19 c20 Fq19_statusClass) hZ (hw _ (List.mem_of_getElem? (i := 25) rfl)) (hw _ (List.mem_of_getElem? (i := 3) rfl)) (by decide) (by decide)) q21a q21c (g := (mkF m 64 #[.val (.int p1), .val (.int p2), .val (.int p3), .val (.int ((p1 &&& (2147483647 : Int32)) % (3 : Int32))), .val (.int (4 : Int32)), .val (.int ((p2 &&& (2147483647 : Int32)) % (1000 : Int32))), .val (.int ((p3 &&& (2147483647 : Int32)) % (1000 : Int32))), .val (.ref b18), .unset, .unset, .unset] [(.ref b18)])) rfl (by rw [hml]; rfl) (Steps.refl _) (argsL := []) (rest := []) (lenOf pd_2 rfl) rfl (by show 2 * 0 + _ ≤ _; exact Nat.le_of_eq rfl) (hb hby at_64) (fun _ _ => ⟨rfl, rfl, (by decide : 1 + 0 ≤ _), (by decide : 3 + 0 ≤ _)⟩)
      dsimp only [Pt.U, Pt.locs, Pt.cells, Pt.slots] at X21 l21 y21 z21 st21 hQ21
      subst l21 y21 z21
      have hv21 : own_is (4 : Int32) 5 = (0 : Int32) := by decide
      obtain ⟨rfl, N21q, e21⟩ := hQ21
      rw [hv21] at st21
      have N21 := Fr.app N19 N21q
      have hc71_22 : ¬ (((p1 &&& (2147483647 : Int32)) % (3 : Int32)) = (2 : Int32)) := by rw [hc17_16]; decide
      have hc85_23 : (0 : Int32) = (0 : Int32) := rfl
      obtain ⟨cq24, kq24, q24a, q24b, q24c⟩ := isOf hZ e21 c20
      obtain ⟨_, _, ⟨T24, L24, k24, n24⟩, -, X24, ⟨Lc24, hQ24, l24, y24, z24⟩, st24⟩ := X21.virtualBack hx (y := (⟨"com/example/mail_delivery_tracker/maildeliverytracker/mail/EnhancedStatusCode", "isSuccess", "()Z"⟩ : MethodName)) (z := (⟨"com/example/mail_delivery_tracker/maildeliverytracker/mail/EnhancedStatusCode", "isSuccess", "()Z"⟩ : MethodName)) hown (mvT hZ (hw _ (List.mem_of_getElem? (i := 26) rfl))) (mvT hZ (hw _ (List.mem_of_getElem? (i := 27) rfl))) (notFace_of_selects (args := #[]) (mvT hZ (hw _ (List.mem_of_getElem? (i := 29) rfl)))) (mvT hZ (hw _ (List.mem_of_getElem? (i := 29) rfl))) (mvT hZ (hw _ (List.mem_of_getElem? (i := 28) rfl))) (by decide) (backOf (W := 0) (rm5 l Z a0 hw [] b18 (4 : Int32) T19.heap n0 Zs19 c20 Fq19_statusClass) hZ (hw _ (List.mem_of_getElem? (i := 30) rfl)) (hw _ (List.mem_of_getElem? (i := 3) rfl)) (by decide) (by decide)) q24a q24c (g := (mkF m 95 #[.val (.int p1), .val (.int p2), .val (.int p3), .val (.int ((p1 &&& (2147483647 : Int32)) % (3 : Int32))), .val (.int (4 : Int32)), .val (.int ((p2 &&& (2147483647 : Int32)) % (1000 : Int32))), .val (.int ((p3 &&& (2147483647 : Int32)) % (1000 : Int32))), .val (.ref b18), .val (.int (0 : Int32)), .val (.int (0 : Int32)), .val (.int (0 : Int32))] [(.ref b18)])) rfl (by rw [hml]; rfl) (Steps.refl _) (argsL := []) (rest := []) (lenOf pd_2 rfl) rfl (by show 2 * 0 + _ ≤ _; exact Nat.le_of_eq rfl) (hb hby at_95) (fun _ _ => ⟨rfl, e21, (by decide : 1 + 0 ≤ _), (by decide : 3 + 0 ≤ _)⟩)
      dsimp only [Pt.U, Pt.locs, Pt.cells, Pt.slots] at X24 l24 y24 z24 st24 hQ24
      subst l24 y24 z24
      have hv24 : own_is (4 : Int32) 2 = (0 : Int32) := by decide
      obtain ⟨rfl, N24q, e24⟩ := hQ24
      rw [hv24] at st24
      have N24 := Fr.app N21 N24q
      have hc98_25 : (0 : Int32) = (0 : Int32) := rfl
      obtain ⟨cq26, kq26, q26a, q26b, q26c⟩ := isOf hZ e24 c20
      obtain ⟨_, _, ⟨T26, L26, k26, n26⟩, -, X26, ⟨Lc26, hQ26, l26, y26, z26⟩, st26⟩ := X24.virtualBack hx (y := (⟨"com/example/mail_delivery_tracker/maildeliverytracker/mail/EnhancedStatusCode", "isTransientFailure", "()Z"⟩ : MethodName)) (z := (⟨"com/example/mail_delivery_tracker/maildeliverytracker/mail/EnhancedStatusCode", "isTransientFailure", "()Z"⟩ : MethodName)) hown (mvT hZ (hw _ (List.mem_of_getElem? (i := 31) rfl))) (mvT hZ (hw _ (List.mem_of_getElem? (i := 32) rfl))) (notFace_of_selects (args := #[]) (mvT hZ (hw _ (List.mem_of_getElem? (i := 34) rfl)))) (mvT hZ (hw _ (List.mem_of_getElem? (i := 34) rfl))) (mvT hZ (hw _ (List.mem_of_getElem? (i := 33) rfl))) (by decide) (backOf (W := 0) (rm6 l Z a0 hw [] b18 (4 : Int32) T19.heap n0 Zs19 c20 Fq19_statusClass) hZ (hw _ (List.mem_of_getElem? (i := 35) rfl)) (hw _ (List.mem_of_getElem? (i := 3) rfl)) (by decide) (by decide)) q26a q26c (g := (mkF m 109 #[.val (.int p1), .val (.int p2), .val (.int p3), .val (.int ((p1 &&& (2147483647 : Int32)) % (3 : Int32))), .val (.int (4 : Int32)), .val (.int ((p2 &&& (2147483647 : Int32)) % (1000 : Int32))), .val (.int ((p3 &&& (2147483647 : Int32)) % (1000 : Int32))), .val (.ref b18), .val (.int (0 : Int32)), .val (.int (0 : Int32)), .val (.int (0 : Int32))] [(.ref b18)])) rfl (by rw [hml]; rfl) (Steps.refl _) (argsL := []) (rest := []) (lenOf pd_2 rfl) rfl (by show 2 * 0 + _ ≤ _; exact Nat.le_of_eq rfl) (hb hby at_109) (fun _ _ => ⟨rfl, e24, (by decide : 1 + 0 ≤ _), (by decide : 3 + 0 ≤ _)⟩)
      dsimp only [Pt.U, Pt.locs, Pt.cells, Pt.slots] at X26 l26 y26 z26 st26 hQ26
      subst l26 y26 z26
      have hv26 : own_is (4 : Int32) 4 = (1 : Int32) := by decide
      obtain ⟨rfl, N26q, e26⟩ := hQ26
      rw [hv26] at st26
      have N26 := Fr.app N24 N26q
      have hc112_27 : ¬ ((1 : Int32) = (0 : Int32)) := by decide
      have hc123_28 : (0 : Int32) = (0 : Int32) := rfl
      have hc135_29 : ((0 : Int32) + (1 : Int32)) = (1 : Int32) := by decide
      have P30 : ∀ t, Steps p.tables e below (T26.setTop (mkF m 143 #[.val (.int p1), .val (.int p2), .val (.int p3), .val (.int ((p1 &&& (2147483647 : Int32)) % (3 : Int32))), .val (.int (4 : Int32)), .val (.int ((p2 &&& (2147483647 : Int32)) % (1000 : Int32))), .val (.int ((p3 &&& (2147483647 : Int32)) % (1000 : Int32))), .val (.ref b18), .val (.int (0 : Int32)), .val (.int (0 : Int32)), .val (.int ((0 : Int32) + (1 : Int32)))] [(.int (1 : Int32))])) t → Steps p.tables e below (s₁.setTop (entryFrame m #[(.int p1), (.int p2), (.int p3)] maxLocals)) t := fun t kt => P17 t (by
        show Steps p.tables e below (s₁.setTop (mkF m 17 #[.val (.int p1), .val (.int p2), .val (.int p3), .val (.int ((p1 &&& (2147483647 : Int32)) % (3 : Int32))), .unset, .unset, .unset, .unset, .unset, .unset, .unset] [(.int (1 : Int32)), (.int ((p1 &&& (2147483647 : Int32)) % (3 : Int32)))])) _
        refine XS.icmpNo X0.here hx rfl (hb hby at_17) rfl (XT.ii_ne_f hc17_16) ?_
        show Steps p.tables e below (s₁.setTop (mkF m 20 #[.val (.int p1), .val (.int p2), .val (.int p3), .val (.int ((p1 &&& (2147483647 : Int32)) % (3 : Int32))), .unset, .unset, .unset, .unset, .unset, .unset, .unset] [])) _
        refine XS.iconst X0.here hx rfl (hb hby at_20) ?_
        show Steps p.tables e below (s₁.setTop (mkF m 21 #[.val (.int p1), .val (.int p2), .val (.int p3), .val (.int ((p1 &&& (2147483647 : Int32)) % (3 : Int32))), .unset, .unset, .unset, .unset, .unset, .unset, .unset] [(.int (4 : Int32))])) _
        refine XS.goto X0.here hx rfl (pc0 := 21) (pc' := 25) rfl (hb hby at_21) (by decide) (by decide) ?_
        show Steps p.tables e below (s₁.setTop (mkF m 25 #[.val (.int p1), .val (.int p2), .val (.int p3), .val (.int ((p1 &&& (2147483647 : Int32)) % (3 : Int32))), .unset, .unset, .unset, .unset, .unset, .unset, .unset] [(.int (4 : Int32))])) _
        refine XS.istore X0.here hx rfl (hb hby at_25) rfl (l' := #[.val (.int p1), .val (.int p2), .val (.int p3), .val (.int ((p1 &&& (2147483647 : Int32)) % (3 : Int32))), .val (.int (4 : Int32)), .unset, .unset, .unset, .unset, .unset, .unset]) rfl ?_
        show Steps p.tables e below (s₁.setTop (mkF m 27 #[.val (.int p1), .val (.int p2), .val (.int p3), .val (.int ((p1 &&& (2147483647 : Int32)) % (3 : Int32))), .val (.int (4 : Int32)), .unset, .unset, .unset, .unset, .unset, .unset] [])) _
        refine XS.iloadN X0.here hx rfl (hb hby at_27) rfl ?_
        show Steps p.tables e below (s₁.setTop (mkF m 28 #[.val (.int p1), .val (.int p2), .val (.int p3), .val (.int ((p1 &&& (2147483647 : Int32)) % (3 : Int32))), .val (.int (4 : Int32)), .unset, .unset, .unset, .unset, .unset, .unset] [(.int p2)])) _
        refine X0.ldcI hx hown (mvT hZ (hw _ (List.mem_of_getElem? (i := 0) rfl))) rfl (hb hby at_28) ?_
        show Steps p.tables e below (s₁.setTop (mkF m 30 #[.val (.int p1), .val (.int p2), .val (.int p3), .val (.int ((p1 &&& (2147483647 : Int32)) % (3 : Int32))), .val (.int (4 : Int32)), .unset, .unset, .unset, .unset, .unset, .unset] [(.int (2147483647 : Int32)), (.int p2)])) _
        refine XS.iand X0.here hx rfl (hb hby at_30) rfl ?_
        show Steps p.tables e below (s₁.setTop (mkF m 31 #[.val (.int p1), .val (.int p2), .val (.int p3), .val (.int ((p1 &&& (2147483647 : Int32)) % (3 : Int32))), .val (.int (4 : Int32)), .unset, .unset, .unset, .unset, .unset, .unset] [(.int (p2 &&& (2147483647 : Int32)))])) _
        refine XS.sipush X0.here hx rfl (hb hby at_31) ?_
        show Steps p.tables e below (s₁.setTop (mkF m 34 #[.val (.int p1), .val (.int p2), .val (.int p3), .val (.int ((p1 &&& (2147483647 : Int32)) % (3 : Int32))), .val (.int (4 : Int32)), .unset, .unset, .unset, .unset, .unset, .unset] [(.int (1000 : Int32)), (.int (p2 &&& (2147483647 : Int32)))])) _
        refine iremM X0 hx rfl (hb hby at_34) rfl (by decide) ?_
        show Steps p.tables e below (s₁.setTop (mkF m 35 #[.val (.int p1), .val (.int p2), .val (.int p3), .val (.int ((p1 &&& (2147483647 : Int32)) % (3 : Int32))), .val (.int (4 : Int32)), .unset, .unset, .unset, .unset, .unset, .unset] [(.int ((p2 &&& (2147483647 : Int32)) % (1000 : Int32)))])) _
        refine XS.istore X0.here hx rfl (hb hby at_35) rfl (l' := #[.val (.int p1), .val (.int p2), .val (.int p3), .val (.int ((p1 &&& (2147483647 : Int32)) % (3 : Int32))), .val (.int (4 : Int32)), .val (.int ((p2 &&& (2147483647 : Int32)) % (1000 : Int32))), .unset, .unset, .unset, .unset, .unset]) rfl ?_
        show Steps p.tables e below (s₁.setTop (mkF m 37 #[.val (.int p1), .val (.int p2), .val (.int p3), .val (.int ((p1 &&& (2147483647 : Int32)) % (3 : Int32))), .val (.int (4 : Int32)), .val (.int ((p2 &&& (2147483647 : Int32)) % (1000 : Int32))), .unset, .unset, .unset, .unset, .unset] [])) _
        refine XS.iloadN X0.here hx rfl (hb hby at_37) rfl ?_
        show Steps p.tables e below (s₁.setTop (mkF m 38 #[.val (.int p1), .val (.int p2), .val (.int p3), .val (.int ((p1 &&& (2147483647 : Int32)) % (3 : Int32))), .val (.int (4 : Int32)), .val (.int ((p2 &&& (2147483647 : Int32)) % (1000 : Int32))), .unset, .unset, .unset, .unset, .unset] [(.int p3)])) _
        refine X0.ldcI hx hown (mvT hZ (hw _ (List.mem_of_getElem? (i := 0) rfl))) rfl (hb hby at_38) ?_
        show Steps p.tables e below (s₁.setTop (mkF m 40 #[.val (.int p1), .val (.int p2), .val (.int p3), .val (.int ((p1 &&& (2147483647 : Int32)) % (3 : Int32))), .val (.int (4 : Int32)), .val (.int ((p2 &&& (2147483647 : Int32)) % (1000 : Int32))), .unset, .unset, .unset, .unset, .unset] [(.int (2147483647 : Int32)), (.int p3)])) _
        refine XS.iand X0.here hx rfl (hb hby at_40) rfl ?_
        show Steps p.tables e below (s₁.setTop (mkF m 41 #[.val (.int p1), .val (.int p2), .val (.int p3), .val (.int ((p1 &&& (2147483647 : Int32)) % (3 : Int32))), .val (.int (4 : Int32)), .val (.int ((p2 &&& (2147483647 : Int32)) % (1000 : Int32))), .unset, .unset, .unset, .unset, .unset] [(.int (p3 &&& (2147483647 : Int32)))])) _
        refine XS.sipush X0.here hx rfl (hb hby at_41) ?_
        show Steps p.tables e below (s₁.setTop (mkF m 44 #[.val (.int p1), .val (.int p2), .val (.int p3), .val (.int ((p1 &&& (2147483647 : Int32)) % (3 : Int32))), .val (.int (4 : Int32)), .val (.int ((p2 &&& (2147483647 : Int32)) % (1000 : Int32))), .unset, .unset, .unset, .unset, .unset] [(.int (1000 : Int32)), (.int (p3 &&& (2147483647 : Int32)))])) _
        refine iremM X0 hx rfl (hb hby at_44) rfl (by decide) ?_
        show Steps p.tables e below (s₁.setTop (mkF m 45 #[.val (.int p1), .val (.int p2), .val (.int p3), .val (.int ((p1 &&& (2147483647 : Int32)) % (3 : Int32))), .val (.int (4 : Int32)), .val (.int ((p2 &&& (2147483647 : Int32)) % (1000 : Int32))), .unset, .unset, .unset, .unset, .unset] [(.int ((p3 &&& (2147483647 : Int32)) % (1000 : Int32)))])) _
        refine XS.istore X0.here hx rfl (hb hby at_45) rfl (l' := #[.val (.int p1), .val (.int p2), .val (.int p3), .val (.int ((p1 &&& (2147483647 : Int32)) % (3 : Int32))), .val (.int (4 : Int32)), .val (.int ((p2 &&& (2147483647 : Int32)) % (1000 : Int32))), .val (.int ((p3 &&& (2147483647 : Int32)) % (1000 : Int32))), .unset, .unset, .unset, .unset]) rfl ?_
        show Steps p.tables e below (s₁.setTop (mkF m 47 #[.val (.int p1), .val (.int p2), .val (.int p3), .val (.int ((p1 &&& (2147483647 : Int32)) % (3 : Int32))), .val (.int (4 : Int32)), .val (.int ((p2 &&& (2147483647 : Int32)) % (1000 : Int32))), .val (.int ((p3 &&& (2147483647 : Int32)) % (1000 : Int32))), .unset, .unset, .unset, .unset] [])) _
        refine st18 _ ?_
        show Steps p.tables e below (T18.setTop (mkF m 50 #[.val (.int p1), .val (.int p2), .val (.int p3), .val (.int ((p1 &&& (2147483647 : Int32)) % (3 : Int32))), .val (.int (4 : Int32)), .val (.int ((p2 &&& (2147483647 : Int32)) % (1000 : Int32))), .val (.int ((p3 &&& (2147483647 : Int32)) % (1000 : Int32))), .unset, .unset, .unset, .unset] [(.ref b18)])) _
        refine XS.dup X18.here hx rfl (hb hby at_50) rfl rfl ?_
        show Steps p.tables e below (T18.setTop (mkF m 51 #[.val (.int p1), .val (.int p2), .val (.int p3), .val (.int ((p1 &&& (2147483647 : Int32)) % (3 : Int32))), .val (.int (4 : Int32)), .val (.int ((p2 &&& (2147483647 : Int32)) % (1000 : Int32))), .val (.int ((p3 &&& (2147483647 : Int32)) % (1000 : Int32))), .unset, .unset, .unset, .unset] [(.ref b18), (.ref b18)])) _
        refine XS.iload X18.here hx rfl (hb hby at_51) rfl ?_
        show Steps p.tables e below (T18.setTop (mkF m 53 #[.val (.int p1), .val (.int p2), .val (.int p3), .val (.int ((p1 &&& (2147483647 : Int32)) % (3 : Int32))), .val (.int (4 : Int32)), .val (.int ((p2 &&& (2147483647 : Int32)) % (1000 : Int32))), .val (.int ((p3 &&& (2147483647 : Int32)) % (1000 : Int32))), .unset, .unset, .unset, .unset] [(.int (4 : Int32)), (.ref b18), (.ref b18)])) _
        refine XS.iload X18.here hx rfl (hb hby at_53) rfl ?_
        show Steps p.tables e below (T18.setTop (mkF m 55 #[.val (.int p1), .val (.int p2), .val (.int p3), .val (.int ((p1 &&& (2147483647 : Int32)) % (3 : Int32))), .val (.int (4 : Int32)), .val (.int ((p2 &&& (2147483647 : Int32)) % (1000 : Int32))), .val (.int ((p3 &&& (2147483647 : Int32)) % (1000 : Int32))), .unset, .unset, .unset, .unset] [(.int ((p2 &&& (2147483647 : Int32)) % (1000 : Int32))), (.int (4 : Int32)), (.ref b18), (.ref b18)])) _
        refine XS.iload X18.here hx rfl (hb hby at_55) rfl ?_
        show Steps p.tables e below (T18.setTop (mkF m 57 #[.val (.int p1), .val (.int p2), .val (.int p3), .val (.int ((p1 &&& (2147483647 : Int32)) % (3 : Int32))), .val (.int (4 : Int32)), .val (.int ((p2 &&& (2147483647 : Int32)) % (1000 : Int32))), .val (.int ((p3 &&& (2147483647 : Int32)) % (1000 : Int32))), .unset, .unset, .unset, .unset] [(.int ((p3 &&& (2147483647 : Int32)) % (1000 : Int32))), (.int ((p2 &&& (2147483647 : Int32)) % (1000 : Int32))), (.int (4 : Int32)), (.ref b18), (.ref b18)])) _
        refine st19.trans ?_
        show Steps p.tables e below (T19.setTop (mkF m 60 #[.val (.int p1), .val (.int p2), .val (.int p3), .val (.int ((p1 &&& (2147483647 : Int32)) % (3 : Int32))), .val (.int (4 : Int32)), .val (.int ((p2 &&& (2147483647 : Int32)) % (1000 : Int32))), .val (.int ((p3 &&& (2147483647 : Int32)) % (1000 : Int32))), .unset, .unset, .unset, .unset] [(.ref b18)])) _
        refine XS.astore X19.here hx rfl (hb hby at_60) rfl rfl (l' := #[.val (.int p1), .val (.int p2), .val (.int p3), .val (.int ((p1 &&& (2147483647 : Int32)) % (3 : Int32))), .val (.int (4 : Int32)), .val (.int ((p2 &&& (2147483647 : Int32)) % (1000 : Int32))), .val (.int ((p3 &&& (2147483647 : Int32)) % (1000 : Int32))), .val (.ref b18), .unset, .unset, .unset]) rfl ?_
        show Steps p.tables e below (T19.setTop (mkF m 62 #[.val (.int p1), .val (.int p2), .val (.int p3), .val (.int ((p1 &&& (2147483647 : Int32)) % (3 : Int32))), .val (.int (4 : Int32)), .val (.int ((p2 &&& (2147483647 : Int32)) % (1000 : Int32))), .val (.int ((p3 &&& (2147483647 : Int32)) % (1000 : Int32))), .val (.ref b18), .unset, .unset, .unset] [])) _
        refine XS.aload X19.here hx rfl (hb hby at_62) rfl rfl ?_
        show Steps p.tables e below (T19.setTop (mkF m 64 #[.val (.int p1), .val (.int p2), .val (.int p3), .val (.int ((p1 &&& (2147483647 : Int32)) % (3 : Int32))), .val (.int (4 : Int32)), .val (.int ((p2 &&& (2147483647 : Int32)) % (1000 : Int32))), .val (.int ((p3 &&& (2147483647 : Int32)) % (1000 : Int32))), .val (.ref b18), .unset, .unset, .unset] [(.ref b18)])) _
        refine st21.trans ?_
        show Steps p.tables e below (T21.setTop (mkF m 67 #[.val (.int p1), .val (.int p2), .val (.int p3), .val (.int ((p1 &&& (2147483647 : Int32)) % (3 : Int32))), .val (.int (4 : Int32)), .val (.int ((p2 &&& (2147483647 : Int32)) % (1000 : Int32))), .val (.int ((p3 &&& (2147483647 : Int32)) % (1000 : Int32))), .val (.ref b18), .unset, .unset, .unset] [(.int (0 : Int32))])) _
        refine XS.istore X21.here hx rfl (hb hby at_67) rfl (l' := #[.val (.int p1), .val (.int p2), .val (.int p3), .val (.int ((p1 &&& (2147483647 : Int32)) % (3 : Int32))), .val (.int (4 : Int32)), .val (.int ((p2 &&& (2147483647 : Int32)) % (1000 : Int32))), .val (.int ((p3 &&& (2147483647 : Int32)) % (1000 : Int32))), .val (.ref b18), .val (.int (0 : Int32)), .unset, .unset]) rfl ?_
        show Steps p.tables e below (T21.setTop (mkF m 69 #[.val (.int p1), .val (.int p2), .val (.int p3), .val (.int ((p1 &&& (2147483647 : Int32)) % (3 : Int32))), .val (.int (4 : Int32)), .val (.int ((p2 &&& (2147483647 : Int32)) % (1000 : Int32))), .val (.int ((p3 &&& (2147483647 : Int32)) % (1000 : Int32))), .val (.ref b18), .val (.int (0 : Int32)), .unset, .unset] [])) _
        refine XS.iloadN X21.here hx rfl (hb hby at_69) rfl ?_
        show Steps p.tables e below (T21.setTop (mkF m 70 #[.val (.int p1), .val (.int p2), .val (.int p3), .val (.int ((p1 &&& (2147483647 : Int32)) % (3 : Int32))), .val (.int (4 : Int32)), .val (.int ((p2 &&& (2147483647 : Int32)) % (1000 : Int32))), .val (.int ((p3 &&& (2147483647 : Int32)) % (1000 : Int32))), .val (.ref b18), .val (.int (0 : Int32)), .unset, .unset] [(.int ((p1 &&& (2147483647 : Int32)) % (3 : Int32)))])) _
        refine XS.iconst X21.here hx rfl (hb hby at_70) ?_
        show Steps p.tables e below (T21.setTop (mkF m 71 #[.val (.int p1), .val (.int p2), .val (.int p3), .val (.int ((p1 &&& (2147483647 : Int32)) % (3 : Int32))), .val (.int (4 : Int32)), .val (.int ((p2 &&& (2147483647 : Int32)) % (1000 : Int32))), .val (.int ((p3 &&& (2147483647 : Int32)) % (1000 : Int32))), .val (.ref b18), .val (.int (0 : Int32)), .unset, .unset] [(.int (2 : Int32)), (.int ((p1 &&& (2147483647 : Int32)) % (3 : Int32)))])) _
        refine XS.icmpYes X21.here hx rfl (pc0 := 71) (pc' := 78) rfl (hb hby at_71) rfl (XT.ii_ne_t hc71_22) (by decide) (by decide) ?_
        show Steps p.tables e below (T21.setTop (mkF m 78 #[.val (.int p1), .val (.int p2), .val (.int p3), .val (.int ((p1 &&& (2147483647 : Int32)) % (3 : Int32))), .val (.int (4 : Int32)), .val (.int ((p2 &&& (2147483647 : Int32)) % (1000 : Int32))), .val (.int ((p3 &&& (2147483647 : Int32)) % (1000 : Int32))), .val (.ref b18), .val (.int (0 : Int32)), .unset, .unset] [])) _
        refine XS.iconst X21.here hx rfl (hb hby at_78) ?_
        show Steps p.tables e below (T21.setTop (mkF m 79 #[.val (.int p1), .val (.int p2), .val (.int p3), .val (.int ((p1 &&& (2147483647 : Int32)) % (3 : Int32))), .val (.int (4 : Int32)), .val (.int ((p2 &&& (2147483647 : Int32)) % (1000 : Int32))), .val (.int ((p3 &&& (2147483647 : Int32)) % (1000 : Int32))), .val (.ref b18), .val (.int (0 : Int32)), .unset, .unset] [(.int (0 : Int32))])) _
        refine XS.istore X21.here hx rfl (hb hby at_79) rfl (l' := #[.val (.int p1), .val (.int p2), .val (.int p3), .val (.int ((p1 &&& (2147483647 : Int32)) % (3 : Int32))), .val (.int (4 : Int32)), .val (.int ((p2 &&& (2147483647 : Int32)) % (1000 : Int32))), .val (.int ((p3 &&& (2147483647 : Int32)) % (1000 : Int32))), .val (.ref b18), .val (.int (0 : Int32)), .val (.int (0 : Int32)), .unset]) rfl ?_
        show Steps p.tables e below (T21.setTop (mkF m 81 #[.val (.int p1), .val (.int p2), .val (.int p3), .val (.int ((p1 &&& (2147483647 : Int32)) % (3 : Int32))), .val (.int (4 : Int32)), .val (.int ((p2 &&& (2147483647 : Int32)) % (1000 : Int32))), .val (.int ((p3 &&& (2147483647 : Int32)) % (1000 : Int32))), .val (.ref b18), .val (.int (0 : Int32)), .val (.int (0 : Int32)), .unset] [])) _
        refine XS.iload X21.here hx rfl (hb hby at_81) rfl ?_
        show Steps p.tables e below (T21.setTop (mkF m 83 #[.val (.int p1), .val (.int p2), .val (.int p3), .val (.int ((p1 &&& (2147483647 : Int32)) % (3 : Int32))), .val (.int (4 : Int32)), .val (.int ((p2 &&& (2147483647 : Int32)) % (1000 : Int32))), .val (.int ((p3 &&& (2147483647 : Int32)) % (1000 : Int32))), .val (.ref b18), .val (.int (0 : Int32)), .val (.int (0 : Int32)), .unset] [(.int (0 : Int32))])) _
        refine XS.iload X21.here hx rfl (hb hby at_83) rfl ?_
        show Steps p.tables e below (T21.setTop (mkF m 85 #[.val (.int p1), .val (.int p2), .val (.int p3), .val (.int ((p1 &&& (2147483647 : Int32)) % (3 : Int32))), .val (.int (4 : Int32)), .val (.int ((p2 &&& (2147483647 : Int32)) % (1000 : Int32))), .val (.int ((p3 &&& (2147483647 : Int32)) % (1000 : Int32))), .val (.ref b18), .val (.int (0 : Int32)), .val (.int (0 : Int32)), .unset] [(.int (0 : Int32)), (.int (0 : Int32))])) _
        refine XS.icmpYes X21.here hx rfl (pc0 := 85) (pc' := 90) rfl (hb hby at_85) rfl (XT.ii_eq_t hc85_23) (by decide) (by decide) ?_
        show Steps p.tables e below (T21.setTop (mkF m 90 #[.val (.int p1), .val (.int p2), .val (.int p3), .val (.int ((p1 &&& (2147483647 : Int32)) % (3 : Int32))), .val (.int (4 : Int32)), .val (.int ((p2 &&& (2147483647 : Int32)) % (1000 : Int32))), .val (.int ((p3 &&& (2147483647 : Int32)) % (1000 : Int32))), .val (.ref b18), .val (.int (0 : Int32)), .val (.int (0 : Int32)), .unset] [])) _
        refine XS.iconst X21.here hx rfl (hb hby at_90) ?_
        show Steps p.tables e below (T21.setTop (mkF m 91 #[.val (.int p1), .val (.int p2), .val (.int p3), .val (.int ((p1 &&& (2147483647 : Int32)) % (3 : Int32))), .val (.int (4 : Int32)), .val (.int ((p2 &&& (2147483647 : Int32)) % (1000 : Int32))), .val (.int ((p3 &&& (2147483647 : Int32)) % (1000 : Int32))), .val (.ref b18), .val (.int (0 : Int32)), .val (.int (0 : Int32)), .unset] [(.int (0 : Int32))])) _
        refine XS.istore X21.here hx rfl (hb hby at_91) rfl (l' := #[.val (.int p1), .val (.int p2), .val (.int p3), .val (.int ((p1 &&& (2147483647 : Int32)) % (3 : Int32))), .val (.int (4 : Int32)), .val (.int ((p2 &&& (2147483647 : Int32)) % (1000 : Int32))), .val (.int ((p3 &&& (2147483647 : Int32)) % (1000 : Int32))), .val (.ref b18), .val (.int (0 : Int32)), .val (.int (0 : Int32)), .val (.int (0 : Int32))]) rfl ?_
        show Steps p.tables e below (T21.setTop (mkF m 93 #[.val (.int p1), .val (.int p2), .val (.int p3), .val (.int ((p1 &&& (2147483647 : Int32)) % (3 : Int32))), .val (.int (4 : Int32)), .val (.int ((p2 &&& (2147483647 : Int32)) % (1000 : Int32))), .val (.int ((p3 &&& (2147483647 : Int32)) % (1000 : Int32))), .val (.ref b18), .val (.int (0 : Int32)), .val (.int (0 : Int32)), .val (.int (0 : Int32))] [])) _
        refine XS.aload X21.here hx rfl (hb hby at_93) rfl rfl ?_
        show Steps p.tables e below (T21.setTop (mkF m 95 #[.val (.int p1), .val (.int p2), .val (.int p3), .val (.int ((p1 &&& (2147483647 : Int32)) % (3 : Int32))), .val (.int (4 : Int32)), .val (.int ((p2 &&& (2147483647 : Int32)) % (1000 : Int32))), .val (.int ((p3 &&& (2147483647 : Int32)) % (1000 : Int32))), .val (.ref b18), .val (.int (0 : Int32)), .val (.int (0 : Int32)), .val (.int (0 : Int32))] [(.ref b18)])) _
        refine st24.trans ?_
        show Steps p.tables e below (T24.setTop (mkF m 98 #[.val (.int p1), .val (.int p2), .val (.int p3), .val (.int ((p1 &&& (2147483647 : Int32)) % (3 : Int32))), .val (.int (4 : Int32)), .val (.int ((p2 &&& (2147483647 : Int32)) % (1000 : Int32))), .val (.int ((p3 &&& (2147483647 : Int32)) % (1000 : Int32))), .val (.ref b18), .val (.int (0 : Int32)), .val (.int (0 : Int32)), .val (.int (0 : Int32))] [(.int (0 : Int32))])) _
        refine XS.ifYes X24.here hx rfl (pc0 := 98) (pc' := 107) rfl (hb hby at_98) rfl (XT.i0_eq_t hc98_25) (by decide) (by decide) ?_
        show Steps p.tables e below (T24.setTop (mkF m 107 #[.val (.int p1), .val (.int p2), .val (.int p3), .val (.int ((p1 &&& (2147483647 : Int32)) % (3 : Int32))), .val (.int (4 : Int32)), .val (.int ((p2 &&& (2147483647 : Int32)) % (1000 : Int32))), .val (.int ((p3 &&& (2147483647 : Int32)) % (1000 : Int32))), .val (.ref b18), .val (.int (0 : Int32)), .val (.int (0 : Int32)), .val (.int (0 : Int32))] [])) _
        refine XS.aload X24.here hx rfl (hb hby at_107) rfl rfl ?_
        show Steps p.tables e below (T24.setTop (mkF m 109 #[.val (.int p1), .val (.int p2), .val (.int p3), .val (.int ((p1 &&& (2147483647 : Int32)) % (3 : Int32))), .val (.int (4 : Int32)), .val (.int ((p2 &&& (2147483647 : Int32)) % (1000 : Int32))), .val (.int ((p3 &&& (2147483647 : Int32)) % (1000 : Int32))), .val (.ref b18), .val (.int (0 : Int32)), .val (.int (0 : Int32)), .val (.int (0 : Int32))] [(.ref b18)])) _
        refine st26.trans ?_
        show Steps p.tables e below (T26.setTop (mkF m 112 #[.val (.int p1), .val (.int p2), .val (.int p3), .val (.int ((p1 &&& (2147483647 : Int32)) % (3 : Int32))), .val (.int (4 : Int32)), .val (.int ((p2 &&& (2147483647 : Int32)) % (1000 : Int32))), .val (.int ((p3 &&& (2147483647 : Int32)) % (1000 : Int32))), .val (.ref b18), .val (.int (0 : Int32)), .val (.int (0 : Int32)), .val (.int (0 : Int32))] [(.int (1 : Int32))])) _
        refine XS.ifNo X26.here hx rfl (hb hby at_112) rfl (XT.i0_eq_f hc112_27) ?_
        show Steps p.tables e below (T26.setTop (mkF m 115 #[.val (.int p1), .val (.int p2), .val (.int p3), .val (.int ((p1 &&& (2147483647 : Int32)) % (3 : Int32))), .val (.int (4 : Int32)), .val (.int ((p2 &&& (2147483647 : Int32)) % (1000 : Int32))), .val (.int ((p3 &&& (2147483647 : Int32)) % (1000 : Int32))), .val (.ref b18), .val (.int (0 : Int32)), .val (.int (0 : Int32)), .val (.int (0 : Int32))] [])) _
        refine XS.iload X26.here hx rfl (hb hby at_115) rfl ?_
        show Steps p.tables e below (T26.setTop (mkF m 117 #[.val (.int p1), .val (.int p2), .val (.int p3), .val (.int ((p1 &&& (2147483647 : Int32)) % (3 : Int32))), .val (.int (4 : Int32)), .val (.int ((p2 &&& (2147483647 : Int32)) % (1000 : Int32))), .val (.int ((p3 &&& (2147483647 : Int32)) % (1000 : Int32))), .val (.ref b18), .val (.int (0 : Int32)), .val (.int (0 : Int32)), .val (.int (0 : Int32))] [(.int (0 : Int32))])) _
        refine XS.iconst X26.here hx rfl (hb hby at_117) ?_
        show Steps p.tables e below (T26.setTop (mkF m 118 #[.val (.int p1), .val (.int p2), .val (.int p3), .val (.int ((p1 &&& (2147483647 : Int32)) % (3 : Int32))), .val (.int (4 : Int32)), .val (.int ((p2 &&& (2147483647 : Int32)) % (1000 : Int32))), .val (.int ((p3 &&& (2147483647 : Int32)) % (1000 : Int32))), .val (.ref b18), .val (.int (0 : Int32)), .val (.int (0 : Int32)), .val (.int (0 : Int32))] [(.int (1 : Int32)), (.int (0 : Int32))])) _
        refine XS.iadd X26.here hx rfl (hb hby at_118) rfl ?_
        show Steps p.tables e below (T26.setTop (mkF m 119 #[.val (.int p1), .val (.int p2), .val (.int p3), .val (.int ((p1 &&& (2147483647 : Int32)) % (3 : Int32))), .val (.int (4 : Int32)), .val (.int ((p2 &&& (2147483647 : Int32)) % (1000 : Int32))), .val (.int ((p3 &&& (2147483647 : Int32)) % (1000 : Int32))), .val (.ref b18), .val (.int (0 : Int32)), .val (.int (0 : Int32)), .val (.int (0 : Int32))] [(.int ((0 : Int32) + (1 : Int32)))])) _
        refine XS.istore X26.here hx rfl (hb hby at_119) rfl (l' := #[.val (.int p1), .val (.int p2), .val (.int p3), .val (.int ((p1 &&& (2147483647 : Int32)) % (3 : Int32))), .val (.int (4 : Int32)), .val (.int ((p2 &&& (2147483647 : Int32)) % (1000 : Int32))), .val (.int ((p3 &&& (2147483647 : Int32)) % (1000 : Int32))), .val (.ref b18), .val (.int (0 : Int32)), .val (.int (0 : Int32)), .val (.int ((0 : Int32) + (1 : Int32)))]) rfl ?_
        show Steps p.tables e below (T26.setTop (mkF m 121 #[.val (.int p1), .val (.int p2), .val (.int p3), .val (.int ((p1 &&& (2147483647 : Int32)) % (3 : Int32))), .val (.int (4 : Int32)), .val (.int ((p2 &&& (2147483647 : Int32)) % (1000 : Int32))), .val (.int ((p3 &&& (2147483647 : Int32)) % (1000 : Int32))), .val (.ref b18), .val (.int (0 : Int32)), .val (.int (0 : Int32)), .val (.int ((0 : Int32) + (1 : Int32)))] [])) _
        refine XS.iload X26.here hx rfl (hb hby at_121) rfl ?_
        show Steps p.tables e below (T26.setTop (mkF m 123 #[.val (.int p1), .val (.int p2), .val (.int p3), .val (.int ((p1 &&& (2147483647 : Int32)) % (3 : Int32))), .val (.int (4 : Int32)), .val (.int ((p2 &&& (2147483647 : Int32)) % (1000 : Int32))), .val (.int ((p3 &&& (2147483647 : Int32)) % (1000 : Int32))), .val (.ref b18), .val (.int (0 : Int32)), .val (.int (0 : Int32)), .val (.int ((0 : Int32) + (1 : Int32)))] [(.int (0 : Int32))])) _
        refine XS.ifYes X26.here hx rfl (pc0 := 123) (pc' := 132) rfl (hb hby at_123) rfl (XT.i0_eq_t hc123_28) (by decide) (by decide) ?_
        show Steps p.tables e below (T26.setTop (mkF m 132 #[.val (.int p1), .val (.int p2), .val (.int p3), .val (.int ((p1 &&& (2147483647 : Int32)) % (3 : Int32))), .val (.int (4 : Int32)), .val (.int ((p2 &&& (2147483647 : Int32)) % (1000 : Int32))), .val (.int ((p3 &&& (2147483647 : Int32)) % (1000 : Int32))), .val (.ref b18), .val (.int (0 : Int32)), .val (.int (0 : Int32)), .val (.int ((0 : Int32) + (1 : Int32)))] [])) _
        refine XS.iload X26.here hx rfl (hb hby at_132) rfl ?_
        show Steps p.tables e below (T26.setTop (mkF m 134 #[.val (.int p1), .val (.int p2), .val (.int p3), .val (.int ((p1 &&& (2147483647 : Int32)) % (3 : Int32))), .val (.int (4 : Int32)), .val (.int ((p2 &&& (2147483647 : Int32)) % (1000 : Int32))), .val (.int ((p3 &&& (2147483647 : Int32)) % (1000 : Int32))), .val (.ref b18), .val (.int (0 : Int32)), .val (.int (0 : Int32)), .val (.int ((0 : Int32) + (1 : Int32)))] [(.int ((0 : Int32) + (1 : Int32)))])) _
        refine XS.iconst X26.here hx rfl (hb hby at_134) ?_
        show Steps p.tables e below (T26.setTop (mkF m 135 #[.val (.int p1), .val (.int p2), .val (.int p3), .val (.int ((p1 &&& (2147483647 : Int32)) % (3 : Int32))), .val (.int (4 : Int32)), .val (.int ((p2 &&& (2147483647 : Int32)) % (1000 : Int32))), .val (.int ((p3 &&& (2147483647 : Int32)) % (1000 : Int32))), .val (.ref b18), .val (.int (0 : Int32)), .val (.int (0 : Int32)), .val (.int ((0 : Int32) + (1 : Int32)))] [(.int (1 : Int32)), (.int ((0 : Int32) + (1 : Int32)))])) _
        refine XS.icmpNo X26.here hx rfl (hb hby at_135) rfl (XT.ii_ne_f hc135_29) ?_
        show Steps p.tables e below (T26.setTop (mkF m 138 #[.val (.int p1), .val (.int p2), .val (.int p3), .val (.int ((p1 &&& (2147483647 : Int32)) % (3 : Int32))), .val (.int (4 : Int32)), .val (.int ((p2 &&& (2147483647 : Int32)) % (1000 : Int32))), .val (.int ((p3 &&& (2147483647 : Int32)) % (1000 : Int32))), .val (.ref b18), .val (.int (0 : Int32)), .val (.int (0 : Int32)), .val (.int ((0 : Int32) + (1 : Int32)))] [])) _
        refine XS.iconst X26.here hx rfl (hb hby at_138) ?_
        show Steps p.tables e below (T26.setTop (mkF m 139 #[.val (.int p1), .val (.int p2), .val (.int p3), .val (.int ((p1 &&& (2147483647 : Int32)) % (3 : Int32))), .val (.int (4 : Int32)), .val (.int ((p2 &&& (2147483647 : Int32)) % (1000 : Int32))), .val (.int ((p3 &&& (2147483647 : Int32)) % (1000 : Int32))), .val (.ref b18), .val (.int (0 : Int32)), .val (.int (0 : Int32)), .val (.int ((0 : Int32) + (1 : Int32)))] [(.int (1 : Int32))])) _
        refine XS.goto X26.here hx rfl (pc0 := 139) (pc' := 143) rfl (hb hby at_139) (by decide) (by decide) ?_
        exact kt)
      obtain ⟨fs, hr, hrun, hended, hW, hsame⟩ := X26.leave (v := some (.int (1 : Int32))) (fun h => by rw [Bd.returns] at h; cases h)
      refine ⟨_, _, P30 _ ?_, hrun, hended, _, _, rfl, ?_, ⟨_, rfl⟩, hW, hsame.mono (by decide) (by decide)⟩
      · exact retN X26 hx (t := .boolean) Bd.returns (by simp) (hb hby at_143) hr
      · show Q0 Z p1 p2 p3 h0 n0 _ T26.heap _
        rw [e26]
        exact ⟨rfl, N26⟩
    · skip
      obtain ⟨T31, h31, X31, e31, E31, A31, D31, -, st31⟩ := newO X0 hx hZ hown (hw _ (List.mem_of_getElem? (i := 1) rfl)) (hw _ (List.mem_of_getElem? (i := 2) rfl)) (hw _ (List.mem_of_getElem? (i := 3) rfl)) e0 (g := (mkF m 47 #[.val (.int p1), .val (.int p2), .val (.int p3), .val (.int ((p1 &&& (2147483647 : Int32)) % (3 : Int32))), .val (.int (5 : Int32)), .val (.int ((p2 &&& (2147483647 : Int32)) % (1000 : Int32))), .val (.int ((p3 &&& (2147483647 : Int32)) % (1000 : Int32))), .unset, .unset, .unset, .unset] [])) rfl (hb hby at_47) (by decide) (by decide)
      obtain ⟨b31, g31⟩ : ∃ z, z = h0.size := ⟨_, rfl⟩
      rw [← g31] at A31 D31 st31
      have g_b31 : n0 ≤ b31 := Nat.le_trans Z0 (Nat.le_of_eq g31.symm)
      have Zs31 : n0 ≤ h31.size := Nat.le_trans Z0 E31.1
      have F31_statusClass : Fld Z h31 b31 "com/example/mail_delivery_tracker/maildeliverytracker/mail/EnhancedStatusCode" "statusClass" "I" (.int (0 : Int32)) := D31 (Or.inr (hw _ (List.mem_of_getElem? (i := 16) rfl))) (ty := .int) (by decide)
      have F31_subject : Fld Z h31 b31 "com/example/mail_delivery_tracker/maildeliverytracker/mail/EnhancedStatusCode" "subject" "I" (.int (0 : Int32)) := D31 (Or.inr (hw _ (List.mem_of_getElem? (i := 18) rfl))) (ty := .int) (by decide)
      have F31_detail : Fld Z h31 b31 "com/example/mail_delivery_tracker/maildeliverytracker/mail/EnhancedStatusCode" "detail" "I" (.int (0 : Int32)) := D31 (Or.inr (hw _ (List.mem_of_getElem? (i := 20) rfl))) (ty := .int) (by decide)
      obtain ⟨_, _, ⟨T32, L32, k32, n32⟩, -, X32, ⟨Lc32, hQ32, l32, y32, z32⟩, st32⟩ := X31.specialBack hx (y := (⟨"com/example/mail_delivery_tracker/maildeliverytracker/mail/EnhancedStatusCode", "<init>", "(III)V"⟩ : MethodName)) rfl hown (mvT hZ (hw _ (List.mem_of_getElem? (i := 4) rfl))) (mvT hZ (hw _ (List.mem_of_getElem? (i := 5) rfl))) (mvT hZ (hw _ (List.mem_of_getElem? (i := 6) rfl))) (by decide) (backOf (W := 1) (rmE l Z a0 hw [] b31 (5 : Int32) ((p2 &&& (2147483647 : Int32)) % (1000 : Int32)) ((p3 &&& (2147483647 : Int32)) % (1000 : Int32)) h31 n0 Zs31 A31 F31_statusClass F31_subject F31_detail g_b31 (Or.inr (Or.inr rfl)) (own_nn _) (own_le _) (own_nn _) (own_le _)) hZ (hw _ (List.mem_of_getElem? (i := 6) rfl)) (hw _ (List.mem_of_getElem? (i := 3) rfl)) (by decide) (by decide)) (g := (mkF m 57 #[.val (.int p1), .val (.int p2), .val (.int p3), .val (.int ((p1 &&& (2147483647 : Int32)) % (3 : Int32))), .val (.int (5 : Int32)), .val (.int ((p2 &&& (2147483647 : Int32)) % (1000 : Int32))), .val (.int ((p3 &&& (2147483647 : Int32)) % (1000 : Int32))), .unset, .unset, .unset, .unset] [(.int ((p3 &&& (2147483647 : Int32)) % (1000 : Int32))), (.int ((p2 &&& (2147483647 : Int32)) % (1000 : Int32))), (.int (5 : Int32)), (.ref b31), (.ref b31)])) rfl (by rw [hml]; rfl) (Steps.refl _) (a := b31) (argsL := [(.int (5 : Int32)), (.int ((p2 &&& (2147483647 : Int32)) % (1000 : Int32))), (.int ((p3 &&& (2147483647 : Int32)) % (1000 : Int32)))]) (rest := [(.ref b31)]) (lenOf pd_1 rfl) rfl (by show 2 * 0 + _ ≤ _; exact Nat.le_of_eq rfl) (hb hby at_57) (fun _ _ => ⟨rfl, e31, (by decide : 1 + 0 ≤ _), (by decide : 3 + 0 ≤ _)⟩)
      dsimp only [Pt.U, Pt.locs, Pt.cells, Pt.slots] at X32 l32 y32 z32 st32 hQ32
      subst l32 y32 z32
      obtain ⟨rfl, N32q, Kq32, Eq32, Fq32_statusClass, Fq32_subject, Fq32_detail⟩ := hQ32
      have N32 := Fr.app N0 N32q
      have c33 := A31.keep Kq32
      have Zs32 : n0 ≤ T32.heap.size := Nat.le_trans Zs31 Kq32.1
      obtain ⟨cq34, kq34, q34a, q34b, q34c⟩ := isOf hZ rfl c33
      obtain ⟨_, _, ⟨T34, L34, k34, n34⟩, -, X34, ⟨Lc34, hQ34, l34, y34, z34⟩, st34⟩ := X32.virtualBack hx (y := (⟨"com/example/mail_delivery_tracker/maildeliverytracker/mail/EnhancedStatusCode", "isPermanentFailure", "()Z"⟩ : MethodName)) (z := (⟨"com/example/mail_delivery_tracker/maildeliverytracker/mail/EnhancedStatusCode", "isPermanentFailure", "()Z"⟩ : MethodName)) hown (mvT hZ (hw _ (List.mem_of_getElem? (i := 21) rfl))) (mvT hZ (hw _ (List.mem_of_getElem? (i := 22) rfl))) (notFace_of_selects (args := #[]) (mvT hZ (hw _ (List.mem_of_getElem? (i := 24) rfl)))) (mvT hZ (hw _ (List.mem_of_getElem? (i := 24) rfl))) (mvT hZ (hw _ (List.mem_of_getElem? (i := 23) rfl))) (by decide) (backOf (W := 0) (rm4 l Z a0 hw [] b31 (5 : Int32) T32.heap n0 Zs32 c33 Fq32_statusClass) hZ (hw _ (List.mem_of_getElem? (i := 25) rfl)) (hw _ (List.mem_of_getElem? (i := 3) rfl)) (by decide) (by decide)) q34a q34c (g := (mkF m 64 #[.val (.int p1), .val (.int p2), .val (.int p3), .val (.int ((p1 &&& (2147483647 : Int32)) % (3 : Int32))), .val (.int (5 : Int32)), .val (.int ((p2 &&& (2147483647 : Int32)) % (1000 : Int32))), .val (.int ((p3 &&& (2147483647 : Int32)) % (1000 : Int32))), .val (.ref b31), .unset, .unset, .unset] [(.ref b31)])) rfl (by rw [hml]; rfl) (Steps.refl _) (argsL := []) (rest := []) (lenOf pd_2 rfl) rfl (by show 2 * 0 + _ ≤ _; exact Nat.le_of_eq rfl) (hb hby at_64) (fun _ _ => ⟨rfl, rfl, (by decide : 1 + 0 ≤ _), (by decide : 3 + 0 ≤ _)⟩)
      dsimp only [Pt.U, Pt.locs, Pt.cells, Pt.slots] at X34 l34 y34 z34 st34 hQ34
      subst l34 y34 z34
      have hv34 : own_is (5 : Int32) 5 = (1 : Int32) := by decide
      obtain ⟨rfl, N34q, e34⟩ := hQ34
      rw [hv34] at st34
      have N34 := Fr.app N32 N34q
      have hc71_35 : ((p1 &&& (2147483647 : Int32)) % (3 : Int32)) = (2 : Int32) := own_two hc8_1 hc17_16
      have hc85_36 : (1 : Int32) = (1 : Int32) := rfl
      obtain ⟨cq37, kq37, q37a, q37b, q37c⟩ := isOf hZ e34 c33
      obtain ⟨_, _, ⟨T37, L37, k37, n37⟩, -, X37, ⟨Lc37, hQ37, l37, y37, z37⟩, st37⟩ := X34.virtualBack hx (y := (⟨"com/example/mail_delivery_tracker/maildeliverytracker/mail/EnhancedStatusCode", "isSuccess", "()Z"⟩ : MethodName)) (z := (⟨"com/example/mail_delivery_tracker/maildeliverytracker/mail/EnhancedStatusCode", "isSuccess", "()Z"⟩ : MethodName)) hown (mvT hZ (hw _ (List.mem_of_getElem? (i := 26) rfl))) (mvT hZ (hw _ (List.mem_of_getElem? (i := 27) rfl))) (notFace_of_selects (args := #[]) (mvT hZ (hw _ (List.mem_of_getElem? (i := 29) rfl)))) (mvT hZ (hw _ (List.mem_of_getElem? (i := 29) rfl))) (mvT hZ (hw _ (List.mem_of_getElem? (i := 28) rfl))) (by decide) (backOf (W := 0) (rm5 l Z a0 hw [] b31 (5 : Int32) T32.heap n0 Zs32 c33 Fq32_statusClass) hZ (hw _ (List.mem_of_getElem? (i := 30) rfl)) (hw _ (List.mem_of_getElem? (i := 3) rfl)) (by decide) (by decide)) q37a q37c (g := (mkF m 95 #[.val (.int p1), .val (.int p2), .val (.int p3), .val (.int ((p1 &&& (2147483647 : Int32)) % (3 : Int32))), .val (.int (5 : Int32)), .val (.int ((p2 &&& (2147483647 : Int32)) % (1000 : Int32))), .val (.int ((p3 &&& (2147483647 : Int32)) % (1000 : Int32))), .val (.ref b31), .val (.int (1 : Int32)), .val (.int (1 : Int32)), .val (.int (0 : Int32))] [(.ref b31)])) rfl (by rw [hml]; rfl) (Steps.refl _) (argsL := []) (rest := []) (lenOf pd_2 rfl) rfl (by show 2 * 0 + _ ≤ _; exact Nat.le_of_eq rfl) (hb hby at_95) (fun _ _ => ⟨rfl, e34, (by decide : 1 + 0 ≤ _), (by decide : 3 + 0 ≤ _)⟩)
      dsimp only [Pt.U, Pt.locs, Pt.cells, Pt.slots] at X37 l37 y37 z37 st37 hQ37
      subst l37 y37 z37
      have hv37 : own_is (5 : Int32) 2 = (0 : Int32) := by decide
      obtain ⟨rfl, N37q, e37⟩ := hQ37
      rw [hv37] at st37
      have N37 := Fr.app N34 N37q
      have hc98_38 : (0 : Int32) = (0 : Int32) := rfl
      obtain ⟨cq39, kq39, q39a, q39b, q39c⟩ := isOf hZ e37 c33
      obtain ⟨_, _, ⟨T39, L39, k39, n39⟩, -, X39, ⟨Lc39, hQ39, l39, y39, z39⟩, st39⟩ := X37.virtualBack hx (y := (⟨"com/example/mail_delivery_tracker/maildeliverytracker/mail/EnhancedStatusCode", "isTransientFailure", "()Z"⟩ : MethodName)) (z := (⟨"com/example/mail_delivery_tracker/maildeliverytracker/mail/EnhancedStatusCode", "isTransientFailure", "()Z"⟩ : MethodName)) hown (mvT hZ (hw _ (List.mem_of_getElem? (i := 31) rfl))) (mvT hZ (hw _ (List.mem_of_getElem? (i := 32) rfl))) (notFace_of_selects (args := #[]) (mvT hZ (hw _ (List.mem_of_getElem? (i := 34) rfl)))) (mvT hZ (hw _ (List.mem_of_getElem? (i := 34) rfl))) (mvT hZ (hw _ (List.mem_of_getElem? (i := 33) rfl))) (by decide) (backOf (W := 0) (rm6 l Z a0 hw [] b31 (5 : Int32) T32.heap n0 Zs32 c33 Fq32_statusClass) hZ (hw _ (List.mem_of_getElem? (i := 35) rfl)) (hw _ (List.mem_of_getElem? (i := 3) rfl)) (by decide) (by decide)) q39a q39c (g := (mkF m 109 #[.val (.int p1), .val (.int p2), .val (.int p3), .val (.int ((p1 &&& (2147483647 : Int32)) % (3 : Int32))), .val (.int (5 : Int32)), .val (.int ((p2 &&& (2147483647 : Int32)) % (1000 : Int32))), .val (.int ((p3 &&& (2147483647 : Int32)) % (1000 : Int32))), .val (.ref b31), .val (.int (1 : Int32)), .val (.int (1 : Int32)), .val (.int (0 : Int32))] [(.ref b31)])) rfl (by rw [hml]; rfl) (Steps.refl _) (argsL := []) (rest := []) (lenOf pd_2 rfl) rfl (by show 2 * 0 + _ ≤ _; exact Nat.le_of_eq rfl) (hb hby at_109) (fun _ _ => ⟨rfl, e37, (by decide : 1 + 0 ≤ _), (by decide : 3 + 0 ≤ _)⟩)
      dsimp only [Pt.U, Pt.locs, Pt.cells, Pt.slots] at X39 l39 y39 z39 st39 hQ39
      subst l39 y39 z39
      have hv39 : own_is (5 : Int32) 4 = (0 : Int32) := by decide
      obtain ⟨rfl, N39q, e39⟩ := hQ39
      rw [hv39] at st39
      have N39 := Fr.app N37 N39q
      have hc112_40 : (0 : Int32) = (0 : Int32) := rfl
      have hc123_41 : ¬ ((1 : Int32) = (0 : Int32)) := by decide
      have hc135_42 : ((0 : Int32) + (1 : Int32)) = (1 : Int32) := by decide
      have P43 : ∀ t, Steps p.tables e below (T39.setTop (mkF m 143 #[.val (.int p1), .val (.int p2), .val (.int p3), .val (.int ((p1 &&& (2147483647 : Int32)) % (3 : Int32))), .val (.int (5 : Int32)), .val (.int ((p2 &&& (2147483647 : Int32)) % (1000 : Int32))), .val (.int ((p3 &&& (2147483647 : Int32)) % (1000 : Int32))), .val (.ref b31), .val (.int (1 : Int32)), .val (.int (1 : Int32)), .val (.int ((0 : Int32) + (1 : Int32)))] [(.int (1 : Int32))])) t → Steps p.tables e below (s₁.setTop (entryFrame m #[(.int p1), (.int p2), (.int p3)] maxLocals)) t := fun t kt => P17 t (by
        show Steps p.tables e below (s₁.setTop (mkF m 17 #[.val (.int p1), .val (.int p2), .val (.int p3), .val (.int ((p1 &&& (2147483647 : Int32)) % (3 : Int32))), .unset, .unset, .unset, .unset, .unset, .unset, .unset] [(.int (1 : Int32)), (.int ((p1 &&& (2147483647 : Int32)) % (3 : Int32)))])) _
        refine XS.icmpYes X0.here hx rfl (pc0 := 17) (pc' := 24) rfl (hb hby at_17) rfl (XT.ii_ne_t hc17_16) (by decide) (by decide) ?_
        show Steps p.tables e below (s₁.setTop (mkF m 24 #[.val (.int p1), .val (.int p2), .val (.int p3), .val (.int ((p1 &&& (2147483647 : Int32)) % (3 : Int32))), .unset, .unset, .unset, .unset, .unset, .unset, .unset] [])) _
        refine XS.iconst X0.here hx rfl (hb hby at_24) ?_
        show Steps p.tables e below (s₁.setTop (mkF m 25 #[.val (.int p1), .val (.int p2), .val (.int p3), .val (.int ((p1 &&& (2147483647 : Int32)) % (3 : Int32))), .unset, .unset, .unset, .unset, .unset, .unset, .unset] [(.int (5 : Int32))])) _
        refine XS.istore X0.here hx rfl (hb hby at_25) rfl (l' := #[.val (.int p1), .val (.int p2), .val (.int p3), .val (.int ((p1 &&& (2147483647 : Int32)) % (3 : Int32))), .val (.int (5 : Int32)), .unset, .unset, .unset, .unset, .unset, .unset]) rfl ?_
        show Steps p.tables e below (s₁.setTop (mkF m 27 #[.val (.int p1), .val (.int p2), .val (.int p3), .val (.int ((p1 &&& (2147483647 : Int32)) % (3 : Int32))), .val (.int (5 : Int32)), .unset, .unset, .unset, .unset, .unset, .unset] [])) _
        refine XS.iloadN X0.here hx rfl (hb hby at_27) rfl ?_
        show Steps p.tables e below (s₁.setTop (mkF m 28 #[.val (.int p1), .val (.int p2), .val (.int p3), .val (.int ((p1 &&& (2147483647 : Int32)) % (3 : Int32))), .val (.int (5 : Int32)), .unset, .unset, .unset, .unset, .unset, .unset] [(.int p2)])) _
        refine X0.ldcI hx hown (mvT hZ (hw _ (List.mem_of_getElem? (i := 0) rfl))) rfl (hb hby at_28) ?_
        show Steps p.tables e below (s₁.setTop (mkF m 30 #[.val (.int p1), .val (.int p2), .val (.int p3), .val (.int ((p1 &&& (2147483647 : Int32)) % (3 : Int32))), .val (.int (5 : Int32)), .unset, .unset, .unset, .unset, .unset, .unset] [(.int (2147483647 : Int32)), (.int p2)])) _
        refine XS.iand X0.here hx rfl (hb hby at_30) rfl ?_
        show Steps p.tables e below (s₁.setTop (mkF m 31 #[.val (.int p1), .val (.int p2), .val (.int p3), .val (.int ((p1 &&& (2147483647 : Int32)) % (3 : Int32))), .val (.int (5 : Int32)), .unset, .unset, .unset, .unset, .unset, .unset] [(.int (p2 &&& (2147483647 : Int32)))])) _
        refine XS.sipush X0.here hx rfl (hb hby at_31) ?_
        show Steps p.tables e below (s₁.setTop (mkF m 34 #[.val (.int p1), .val (.int p2), .val (.int p3), .val (.int ((p1 &&& (2147483647 : Int32)) % (3 : Int32))), .val (.int (5 : Int32)), .unset, .unset, .unset, .unset, .unset, .unset] [(.int (1000 : Int32)), (.int (p2 &&& (2147483647 : Int32)))])) _
        refine iremM X0 hx rfl (hb hby at_34) rfl (by decide) ?_
        show Steps p.tables e below (s₁.setTop (mkF m 35 #[.val (.int p1), .val (.int p2), .val (.int p3), .val (.int ((p1 &&& (2147483647 : Int32)) % (3 : Int32))), .val (.int (5 : Int32)), .unset, .unset, .unset, .unset, .unset, .unset] [(.int ((p2 &&& (2147483647 : Int32)) % (1000 : Int32)))])) _
        refine XS.istore X0.here hx rfl (hb hby at_35) rfl (l' := #[.val (.int p1), .val (.int p2), .val (.int p3), .val (.int ((p1 &&& (2147483647 : Int32)) % (3 : Int32))), .val (.int (5 : Int32)), .val (.int ((p2 &&& (2147483647 : Int32)) % (1000 : Int32))), .unset, .unset, .unset, .unset, .unset]) rfl ?_
        show Steps p.tables e below (s₁.setTop (mkF m 37 #[.val (.int p1), .val (.int p2), .val (.int p3), .val (.int ((p1 &&& (2147483647 : Int32)) % (3 : Int32))), .val (.int (5 : Int32)), .val (.int ((p2 &&& (2147483647 : Int32)) % (1000 : Int32))), .unset, .unset, .unset, .unset, .unset] [])) _
        refine XS.iloadN X0.here hx rfl (hb hby at_37) rfl ?_
        show Steps p.tables e below (s₁.setTop (mkF m 38 #[.val (.int p1), .val (.int p2), .val (.int p3), .val (.int ((p1 &&& (2147483647 : Int32)) % (3 : Int32))), .val (.int (5 : Int32)), .val (.int ((p2 &&& (2147483647 : Int32)) % (1000 : Int32))), .unset, .unset, .unset, .unset, .unset] [(.int p3)])) _
        refine X0.ldcI hx hown (mvT hZ (hw _ (List.mem_of_getElem? (i := 0) rfl))) rfl (hb hby at_38) ?_
        show Steps p.tables e below (s₁.setTop (mkF m 40 #[.val (.int p1), .val (.int p2), .val (.int p3), .val (.int ((p1 &&& (2147483647 : Int32)) % (3 : Int32))), .val (.int (5 : Int32)), .val (.int ((p2 &&& (2147483647 : Int32)) % (1000 : Int32))), .unset, .unset, .unset, .unset, .unset] [(.int (2147483647 : Int32)), (.int p3)])) _
        refine XS.iand X0.here hx rfl (hb hby at_40) rfl ?_
        show Steps p.tables e below (s₁.setTop (mkF m 41 #[.val (.int p1), .val (.int p2), .val (.int p3), .val (.int ((p1 &&& (2147483647 : Int32)) % (3 : Int32))), .val (.int (5 : Int32)), .val (.int ((p2 &&& (2147483647 : Int32)) % (1000 : Int32))), .unset, .unset, .unset, .unset, .unset] [(.int (p3 &&& (2147483647 : Int32)))])) _
        refine XS.sipush X0.here hx rfl (hb hby at_41) ?_
        show Steps p.tables e below (s₁.setTop (mkF m 44 #[.val (.int p1), .val (.int p2), .val (.int p3), .val (.int ((p1 &&& (2147483647 : Int32)) % (3 : Int32))), .val (.int (5 : Int32)), .val (.int ((p2 &&& (2147483647 : Int32)) % (1000 : Int32))), .unset, .unset, .unset, .unset, .unset] [(.int (1000 : Int32)), (.int (p3 &&& (2147483647 : Int32)))])) _
        refine iremM X0 hx rfl (hb hby at_44) rfl (by decide) ?_
        show Steps p.tables e below (s₁.setTop (mkF m 45 #[.val (.int p1), .val (.int p2), .val (.int p3), .val (.int ((p1 &&& (2147483647 : Int32)) % (3 : Int32))), .val (.int (5 : Int32)), .val (.int ((p2 &&& (2147483647 : Int32)) % (1000 : Int32))), .unset, .unset, .unset, .unset, .unset] [(.int ((p3 &&& (2147483647 : Int32)) % (1000 : Int32)))])) _
        refine XS.istore X0.here hx rfl (hb hby at_45) rfl (l' := #[.val (.int p1), .val (.int p2), .val (.int p3), .val (.int ((p1 &&& (2147483647 : Int32)) % (3 : Int32))), .val (.int (5 : Int32)), .val (.int ((p2 &&& (2147483647 : Int32)) % (1000 : Int32))), .val (.int ((p3 &&& (2147483647 : Int32)) % (1000 : Int32))), .unset, .unset, .unset, .unset]) rfl ?_
        show Steps p.tables e below (s₁.setTop (mkF m 47 #[.val (.int p1), .val (.int p2), .val (.int p3), .val (.int ((p1 &&& (2147483647 : Int32)) % (3 : Int32))), .val (.int (5 : Int32)), .val (.int ((p2 &&& (2147483647 : Int32)) % (1000 : Int32))), .val (.int ((p3 &&& (2147483647 : Int32)) % (1000 : Int32))), .unset, .unset, .unset, .unset] [])) _
        refine st31 _ ?_
        show Steps p.tables e below (T31.setTop (mkF m 50 #[.val (.int p1), .val (.int p2), .val (.int p3), .val (.int ((p1 &&& (2147483647 : Int32)) % (3 : Int32))), .val (.int (5 : Int32)), .val (.int ((p2 &&& (2147483647 : Int32)) % (1000 : Int32))), .val (.int ((p3 &&& (2147483647 : Int32)) % (1000 : Int32))), .unset, .unset, .unset, .unset] [(.ref b31)])) _
        refine XS.dup X31.here hx rfl (hb hby at_50) rfl rfl ?_
        show Steps p.tables e below (T31.setTop (mkF m 51 #[.val (.int p1), .val (.int p2), .val (.int p3), .val (.int ((p1 &&& (2147483647 : Int32)) % (3 : Int32))), .val (.int (5 : Int32)), .val (.int ((p2 &&& (2147483647 : Int32)) % (1000 : Int32))), .val (.int ((p3 &&& (2147483647 : Int32)) % (1000 : Int32))), .unset, .unset, .unset, .unset] [(.ref b31), (.ref b31)])) _
        refine XS.iload X31.here hx rfl (hb hby at_51) rfl ?_
        show Steps p.tables e below (T31.setTop (mkF m 53 #[.val (.int p1), .val (.int p2), .val (.int p3), .val (.int ((p1 &&& (2147483647 : Int32)) % (3 : Int32))), .val (.int (5 : Int32)), .val (.int ((p2 &&& (2147483647 : Int32)) % (1000 : Int32))), .val (.int ((p3 &&& (2147483647 : Int32)) % (1000 : Int32))), .unset, .unset, .unset, .unset] [(.int (5 : Int32)), (.ref b31), (.ref b31)])) _
        refine XS.iload X31.here hx rfl (hb hby at_53) rfl ?_
        show Steps p.tables e below (T31.setTop (mkF m 55 #[.val (.int p1), .val (.int p2), .val (.int p3), .val (.int ((p1 &&& (2147483647 : Int32)) % (3 : Int32))), .val (.int (5 : Int32)), .val (.int ((p2 &&& (2147483647 : Int32)) % (1000 : Int32))), .val (.int ((p3 &&& (2147483647 : Int32)) % (1000 : Int32))), .unset, .unset, .unset, .unset] [(.int ((p2 &&& (2147483647 : Int32)) % (1000 : Int32))), (.int (5 : Int32)), (.ref b31), (.ref b31)])) _
        refine XS.iload X31.here hx rfl (hb hby at_55) rfl ?_
        show Steps p.tables e below (T31.setTop (mkF m 57 #[.val (.int p1), .val (.int p2), .val (.int p3), .val (.int ((p1 &&& (2147483647 : Int32)) % (3 : Int32))), .val (.int (5 : Int32)), .val (.int ((p2 &&& (2147483647 : Int32)) % (1000 : Int32))), .val (.int ((p3 &&& (2147483647 : Int32)) % (1000 : Int32))), .unset, .unset, .unset, .unset] [(.int ((p3 &&& (2147483647 : Int32)) % (1000 : Int32))), (.int ((p2 &&& (2147483647 : Int32)) % (1000 : Int32))), (.int (5 : Int32)), (.ref b31), (.ref b31)])) _
        refine st32.trans ?_
        show Steps p.tables e below (T32.setTop (mkF m 60 #[.val (.int p1), .val (.int p2), .val (.int p3), .val (.int ((p1 &&& (2147483647 : Int32)) % (3 : Int32))), .val (.int (5 : Int32)), .val (.int ((p2 &&& (2147483647 : Int32)) % (1000 : Int32))), .val (.int ((p3 &&& (2147483647 : Int32)) % (1000 : Int32))), .unset, .unset, .unset, .unset] [(.ref b31)])) _
        refine XS.astore X32.here hx rfl (hb hby at_60) rfl rfl (l' := #[.val (.int p1), .val (.int p2), .val (.int p3), .val (.int ((p1 &&& (2147483647 : Int32)) % (3 : Int32))), .val (.int (5 : Int32)), .val (.int ((p2 &&& (2147483647 : Int32)) % (1000 : Int32))), .val (.int ((p3 &&& (2147483647 : Int32)) % (1000 : Int32))), .val (.ref b31), .unset, .unset, .unset]) rfl ?_
        show Steps p.tables e below (T32.setTop (mkF m 62 #[.val (.int p1), .val (.int p2), .val (.int p3), .val (.int ((p1 &&& (2147483647 : Int32)) % (3 : Int32))), .val (.int (5 : Int32)), .val (.int ((p2 &&& (2147483647 : Int32)) % (1000 : Int32))), .val (.int ((p3 &&& (2147483647 : Int32)) % (1000 : Int32))), .val (.ref b31), .unset, .unset, .unset] [])) _
        refine XS.aload X32.here hx rfl (hb hby at_62) rfl rfl ?_
        show Steps p.tables e below (T32.setTop (mkF m 64 #[.val (.int p1), .val (.int p2), .val (.int p3), .val (.int ((p1 &&& (2147483647 : Int32)) % (3 : Int32))), .val (.int (5 : Int32)), .val (.int ((p2 &&& (2147483647 : Int32)) % (1000 : Int32))), .val (.int ((p3 &&& (2147483647 : Int32)) % (1000 : Int32))), .val (.ref b31), .unset, .unset, .unset] [(.ref b31)])) _
        refine st34.trans ?_
        show Steps p.tables e below (T34.setTop (mkF m 67 #[.val (.int p1), .val (.int p2), .val (.int p3), .val (.int ((p1 &&& (2147483647 : Int32)) % (3 : Int32))), .val (.int (5 : Int32)), .val (.int ((p2 &&& (2147483647 : Int32)) % (1000 : Int32))), .val (.int ((p3 &&& (2147483647 : Int32)) % (1000 : Int32))), .val (.ref b31), .unset, .unset, .unset] [(.int (1 : Int32))])) _
        refine XS.istore X34.here hx rfl (hb hby at_67) rfl (l' := #[.val (.int p1), .val (.int p2), .val (.int p3), .val (.int ((p1 &&& (2147483647 : Int32)) % (3 : Int32))), .val (.int (5 : Int32)), .val (.int ((p2 &&& (2147483647 : Int32)) % (1000 : Int32))), .val (.int ((p3 &&& (2147483647 : Int32)) % (1000 : Int32))), .val (.ref b31), .val (.int (1 : Int32)), .unset, .unset]) rfl ?_
        show Steps p.tables e below (T34.setTop (mkF m 69 #[.val (.int p1), .val (.int p2), .val (.int p3), .val (.int ((p1 &&& (2147483647 : Int32)) % (3 : Int32))), .val (.int (5 : Int32)), .val (.int ((p2 &&& (2147483647 : Int32)) % (1000 : Int32))), .val (.int ((p3 &&& (2147483647 : Int32)) % (1000 : Int32))), .val (.ref b31), .val (.int (1 : Int32)), .unset, .unset] [])) _
        refine XS.iloadN X34.here hx rfl (hb hby at_69) rfl ?_
        show Steps p.tables e below (T34.setTop (mkF m 70 #[.val (.int p1), .val (.int p2), .val (.int p3), .val (.int ((p1 &&& (2147483647 : Int32)) % (3 : Int32))), .val (.int (5 : Int32)), .val (.int ((p2 &&& (2147483647 : Int32)) % (1000 : Int32))), .val (.int ((p3 &&& (2147483647 : Int32)) % (1000 : Int32))), .val (.ref b31), .val (.int (1 : Int32)), .unset, .unset] [(.int ((p1 &&& (2147483647 : Int32)) % (3 : Int32)))])) _
        refine XS.iconst X34.here hx rfl (hb hby at_70) ?_
        show Steps p.tables e below (T34.setTop (mkF m 71 #[.val (.int p1), .val (.int p2), .val (.int p3), .val (.int ((p1 &&& (2147483647 : Int32)) % (3 : Int32))), .val (.int (5 : Int32)), .val (.int ((p2 &&& (2147483647 : Int32)) % (1000 : Int32))), .val (.int ((p3 &&& (2147483647 : Int32)) % (1000 : Int32))), .val (.ref b31), .val (.int (1 : Int32)), .unset, .unset] [(.int (2 : Int32)), (.int ((p1 &&& (2147483647 : Int32)) % (3 : Int32)))])) _
        refine XS.icmpNo X34.here hx rfl (hb hby at_71) rfl (XT.ii_ne_f hc71_35) ?_
        show Steps p.tables e below (T34.setTop (mkF m 74 #[.val (.int p1), .val (.int p2), .val (.int p3), .val (.int ((p1 &&& (2147483647 : Int32)) % (3 : Int32))), .val (.int (5 : Int32)), .val (.int ((p2 &&& (2147483647 : Int32)) % (1000 : Int32))), .val (.int ((p3 &&& (2147483647 : Int32)) % (1000 : Int32))), .val (.ref b31), .val (.int (1 : Int32)), .unset, .unset] [])) _
        refine XS.iconst X34.here hx rfl (hb hby at_74) ?_
        show Steps p.tables e below (T34.setTop (mkF m 75 #[.val (.int p1), .val (.int p2), .val (.int p3), .val (.int ((p1 &&& (2147483647 : Int32)) % (3 : Int32))), .val (.int (5 : Int32)), .val (.int ((p2 &&& (2147483647 : Int32)) % (1000 : Int32))), .val (.int ((p3 &&& (2147483647 : Int32)) % (1000 : Int32))), .val (.ref b31), .val (.int (1 : Int32)), .unset, .unset] [(.int (1 : Int32))])) _
        refine XS.goto X34.here hx rfl (pc0 := 75) (pc' := 79) rfl (hb hby at_75) (by decide) (by decide) ?_
        show Steps p.tables e below (T34.setTop (mkF m 79 #[.val (.int p1), .val (.int p2), .val (.int p3), .val (.int ((p1 &&& (2147483647 : Int32)) % (3 : Int32))), .val (.int (5 : Int32)), .val (.int ((p2 &&& (2147483647 : Int32)) % (1000 : Int32))), .val (.int ((p3 &&& (2147483647 : Int32)) % (1000 : Int32))), .val (.ref b31), .val (.int (1 : Int32)), .unset, .unset] [(.int (1 : Int32))])) _
        refine XS.istore X34.here hx rfl (hb hby at_79) rfl (l' := #[.val (.int p1), .val (.int p2), .val (.int p3), .val (.int ((p1 &&& (2147483647 : Int32)) % (3 : Int32))), .val (.int (5 : Int32)), .val (.int ((p2 &&& (2147483647 : Int32)) % (1000 : Int32))), .val (.int ((p3 &&& (2147483647 : Int32)) % (1000 : Int32))), .val (.ref b31), .val (.int (1 : Int32)), .val (.int (1 : Int32)), .unset]) rfl ?_
        show Steps p.tables e below (T34.setTop (mkF m 81 #[.val (.int p1), .val (.int p2), .val (.int p3), .val (.int ((p1 &&& (2147483647 : Int32)) % (3 : Int32))), .val (.int (5 : Int32)), .val (.int ((p2 &&& (2147483647 : Int32)) % (1000 : Int32))), .val (.int ((p3 &&& (2147483647 : Int32)) % (1000 : Int32))), .val (.ref b31), .val (.int (1 : Int32)), .val (.int (1 : Int32)), .unset] [])) _
        refine XS.iload X34.here hx rfl (hb hby at_81) rfl ?_
        show Steps p.tables e below (T34.setTop (mkF m 83 #[.val (.int p1), .val (.int p2), .val (.int p3), .val (.int ((p1 &&& (2147483647 : Int32)) % (3 : Int32))), .val (.int (5 : Int32)), .val (.int ((p2 &&& (2147483647 : Int32)) % (1000 : Int32))), .val (.int ((p3 &&& (2147483647 : Int32)) % (1000 : Int32))), .val (.ref b31), .val (.int (1 : Int32)), .val (.int (1 : Int32)), .unset] [(.int (1 : Int32))])) _
        refine XS.iload X34.here hx rfl (hb hby at_83) rfl ?_
        show Steps p.tables e below (T34.setTop (mkF m 85 #[.val (.int p1), .val (.int p2), .val (.int p3), .val (.int ((p1 &&& (2147483647 : Int32)) % (3 : Int32))), .val (.int (5 : Int32)), .val (.int ((p2 &&& (2147483647 : Int32)) % (1000 : Int32))), .val (.int ((p3 &&& (2147483647 : Int32)) % (1000 : Int32))), .val (.ref b31), .val (.int (1 : Int32)), .val (.int (1 : Int32)), .unset] [(.int (1 : Int32)), (.int (1 : Int32))])) _
        refine XS.icmpYes X34.here hx rfl (pc0 := 85) (pc' := 90) rfl (hb hby at_85) rfl (XT.ii_eq_t hc85_36) (by decide) (by decide) ?_
        show Steps p.tables e below (T34.setTop (mkF m 90 #[.val (.int p1), .val (.int p2), .val (.int p3), .val (.int ((p1 &&& (2147483647 : Int32)) % (3 : Int32))), .val (.int (5 : Int32)), .val (.int ((p2 &&& (2147483647 : Int32)) % (1000 : Int32))), .val (.int ((p3 &&& (2147483647 : Int32)) % (1000 : Int32))), .val (.ref b31), .val (.int (1 : Int32)), .val (.int (1 : Int32)), .unset] [])) _
        refine XS.iconst X34.here hx rfl (hb hby at_90) ?_
        show Steps p.tables e below (T34.setTop (mkF m 91 #[.val (.int p1), .val (.int p2), .val (.int p3), .val (.int ((p1 &&& (2147483647 : Int32)) % (3 : Int32))), .val (.int (5 : Int32)), .val (.int ((p2 &&& (2147483647 : Int32)) % (1000 : Int32))), .val (.int ((p3 &&& (2147483647 : Int32)) % (1000 : Int32))), .val (.ref b31), .val (.int (1 : Int32)), .val (.int (1 : Int32)), .unset] [(.int (0 : Int32))])) _
        refine XS.istore X34.here hx rfl (hb hby at_91) rfl (l' := #[.val (.int p1), .val (.int p2), .val (.int p3), .val (.int ((p1 &&& (2147483647 : Int32)) % (3 : Int32))), .val (.int (5 : Int32)), .val (.int ((p2 &&& (2147483647 : Int32)) % (1000 : Int32))), .val (.int ((p3 &&& (2147483647 : Int32)) % (1000 : Int32))), .val (.ref b31), .val (.int (1 : Int32)), .val (.int (1 : Int32)), .val (.int (0 : Int32))]) rfl ?_
        show Steps p.tables e below (T34.setTop (mkF m 93 #[.val (.int p1), .val (.int p2), .val (.int p3), .val (.int ((p1 &&& (2147483647 : Int32)) % (3 : Int32))), .val (.int (5 : Int32)), .val (.int ((p2 &&& (2147483647 : Int32)) % (1000 : Int32))), .val (.int ((p3 &&& (2147483647 : Int32)) % (1000 : Int32))), .val (.ref b31), .val (.int (1 : Int32)), .val (.int (1 : Int32)), .val (.int (0 : Int32))] [])) _
        refine XS.aload X34.here hx rfl (hb hby at_93) rfl rfl ?_
        show Steps p.tables e below (T34.setTop (mkF m 95 #[.val (.int p1), .val (.int p2), .val (.int p3), .val (.int ((p1 &&& (2147483647 : Int32)) % (3 : Int32))), .val (.int (5 : Int32)), .val (.int ((p2 &&& (2147483647 : Int32)) % (1000 : Int32))), .val (.int ((p3 &&& (2147483647 : Int32)) % (1000 : Int32))), .val (.ref b31), .val (.int (1 : Int32)), .val (.int (1 : Int32)), .val (.int (0 : Int32))] [(.ref b31)])) _
        refine st37.trans ?_
        show Steps p.tables e below (T37.setTop (mkF m 98 #[.val (.int p1), .val (.int p2), .val (.int p3), .val (.int ((p1 &&& (2147483647 : Int32)) % (3 : Int32))), .val (.int (5 : Int32)), .val (.int ((p2 &&& (2147483647 : Int32)) % (1000 : Int32))), .val (.int ((p3 &&& (2147483647 : Int32)) % (1000 : Int32))), .val (.ref b31), .val (.int (1 : Int32)), .val (.int (1 : Int32)), .val (.int (0 : Int32))] [(.int (0 : Int32))])) _
        refine XS.ifYes X37.here hx rfl (pc0 := 98) (pc' := 107) rfl (hb hby at_98) rfl (XT.i0_eq_t hc98_38) (by decide) (by decide) ?_
        show Steps p.tables e below (T37.setTop (mkF m 107 #[.val (.int p1), .val (.int p2), .val (.int p3), .val (.int ((p1 &&& (2147483647 : Int32)) % (3 : Int32))), .val (.int (5 : Int32)), .val (.int ((p2 &&& (2147483647 : Int32)) % (1000 : Int32))), .val (.int ((p3 &&& (2147483647 : Int32)) % (1000 : Int32))), .val (.ref b31), .val (.int (1 : Int32)), .val (.int (1 : Int32)), .val (.int (0 : Int32))] [])) _
        refine XS.aload X37.here hx rfl (hb hby at_107) rfl rfl ?_
        show Steps p.tables e below (T37.setTop (mkF m 109 #[.val (.int p1), .val (.int p2), .val (.int p3), .val (.int ((p1 &&& (2147483647 : Int32)) % (3 : Int32))), .val (.int (5 : Int32)), .val (.int ((p2 &&& (2147483647 : Int32)) % (1000 : Int32))), .val (.int ((p3 &&& (2147483647 : Int32)) % (1000 : Int32))), .val (.ref b31), .val (.int (1 : Int32)), .val (.int (1 : Int32)), .val (.int (0 : Int32))] [(.ref b31)])) _
        refine st39.trans ?_
        show Steps p.tables e below (T39.setTop (mkF m 112 #[.val (.int p1), .val (.int p2), .val (.int p3), .val (.int ((p1 &&& (2147483647 : Int32)) % (3 : Int32))), .val (.int (5 : Int32)), .val (.int ((p2 &&& (2147483647 : Int32)) % (1000 : Int32))), .val (.int ((p3 &&& (2147483647 : Int32)) % (1000 : Int32))), .val (.ref b31), .val (.int (1 : Int32)), .val (.int (1 : Int32)), .val (.int (0 : Int32))] [(.int (0 : Int32))])) _
        refine XS.ifYes X39.here hx rfl (pc0 := 112) (pc' := 121) rfl (hb hby at_112) rfl (XT.i0_eq_t hc112_40) (by decide) (by decide) ?_
        show Steps p.tables e below (T39.setTop (mkF m 121 #[.val (.int p1), .val (.int p2), .val (.int p3), .val (.int ((p1 &&& (2147483647 : Int32)) % (3 : Int32))), .val (.int (5 : Int32)), .val (.int ((p2 &&& (2147483647 : Int32)) % (1000 : Int32))), .val (.int ((p3 &&& (2147483647 : Int32)) % (1000 : Int32))), .val (.ref b31), .val (.int (1 : Int32)), .val (.int (1 : Int32)), .val (.int (0 : Int32))] [])) _
        refine XS.iload X39.here hx rfl (hb hby at_121) rfl ?_
        show Steps p.tables e below (T39.setTop (mkF m 123 #[.val (.int p1), .val (.int p2), .val (.int p3), .val (.int ((p1 &&& (2147483647 : Int32)) % (3 : Int32))), .val (.int (5 : Int32)), .val (.int ((p2 &&& (2147483647 : Int32)) % (1000 : Int32))), .val (.int ((p3 &&& (2147483647 : Int32)) % (1000 : Int32))), .val (.ref b31), .val (.int (1 : Int32)), .val (.int (1 : Int32)), .val (.int (0 : Int32))] [(.int (1 : Int32))])) _
        refine XS.ifNo X39.here hx rfl (hb hby at_123) rfl (XT.i0_eq_f hc123_41) ?_
        show Steps p.tables e below (T39.setTop (mkF m 126 #[.val (.int p1), .val (.int p2), .val (.int p3), .val (.int ((p1 &&& (2147483647 : Int32)) % (3 : Int32))), .val (.int (5 : Int32)), .val (.int ((p2 &&& (2147483647 : Int32)) % (1000 : Int32))), .val (.int ((p3 &&& (2147483647 : Int32)) % (1000 : Int32))), .val (.ref b31), .val (.int (1 : Int32)), .val (.int (1 : Int32)), .val (.int (0 : Int32))] [])) _
        refine XS.iload X39.here hx rfl (hb hby at_126) rfl ?_
        show Steps p.tables e below (T39.setTop (mkF m 128 #[.val (.int p1), .val (.int p2), .val (.int p3), .val (.int ((p1 &&& (2147483647 : Int32)) % (3 : Int32))), .val (.int (5 : Int32)), .val (.int ((p2 &&& (2147483647 : Int32)) % (1000 : Int32))), .val (.int ((p3 &&& (2147483647 : Int32)) % (1000 : Int32))), .val (.ref b31), .val (.int (1 : Int32)), .val (.int (1 : Int32)), .val (.int (0 : Int32))] [(.int (0 : Int32))])) _
        refine XS.iconst X39.here hx rfl (hb hby at_128) ?_
        show Steps p.tables e below (T39.setTop (mkF m 129 #[.val (.int p1), .val (.int p2), .val (.int p3), .val (.int ((p1 &&& (2147483647 : Int32)) % (3 : Int32))), .val (.int (5 : Int32)), .val (.int ((p2 &&& (2147483647 : Int32)) % (1000 : Int32))), .val (.int ((p3 &&& (2147483647 : Int32)) % (1000 : Int32))), .val (.ref b31), .val (.int (1 : Int32)), .val (.int (1 : Int32)), .val (.int (0 : Int32))] [(.int (1 : Int32)), (.int (0 : Int32))])) _
        refine XS.iadd X39.here hx rfl (hb hby at_129) rfl ?_
        show Steps p.tables e below (T39.setTop (mkF m 130 #[.val (.int p1), .val (.int p2), .val (.int p3), .val (.int ((p1 &&& (2147483647 : Int32)) % (3 : Int32))), .val (.int (5 : Int32)), .val (.int ((p2 &&& (2147483647 : Int32)) % (1000 : Int32))), .val (.int ((p3 &&& (2147483647 : Int32)) % (1000 : Int32))), .val (.ref b31), .val (.int (1 : Int32)), .val (.int (1 : Int32)), .val (.int (0 : Int32))] [(.int ((0 : Int32) + (1 : Int32)))])) _
        refine XS.istore X39.here hx rfl (hb hby at_130) rfl (l' := #[.val (.int p1), .val (.int p2), .val (.int p3), .val (.int ((p1 &&& (2147483647 : Int32)) % (3 : Int32))), .val (.int (5 : Int32)), .val (.int ((p2 &&& (2147483647 : Int32)) % (1000 : Int32))), .val (.int ((p3 &&& (2147483647 : Int32)) % (1000 : Int32))), .val (.ref b31), .val (.int (1 : Int32)), .val (.int (1 : Int32)), .val (.int ((0 : Int32) + (1 : Int32)))]) rfl ?_
        show Steps p.tables e below (T39.setTop (mkF m 132 #[.val (.int p1), .val (.int p2), .val (.int p3), .val (.int ((p1 &&& (2147483647 : Int32)) % (3 : Int32))), .val (.int (5 : Int32)), .val (.int ((p2 &&& (2147483647 : Int32)) % (1000 : Int32))), .val (.int ((p3 &&& (2147483647 : Int32)) % (1000 : Int32))), .val (.ref b31), .val (.int (1 : Int32)), .val (.int (1 : Int32)), .val (.int ((0 : Int32) + (1 : Int32)))] [])) _
        refine XS.iload X39.here hx rfl (hb hby at_132) rfl ?_
        show Steps p.tables e below (T39.setTop (mkF m 134 #[.val (.int p1), .val (.int p2), .val (.int p3), .val (.int ((p1 &&& (2147483647 : Int32)) % (3 : Int32))), .val (.int (5 : Int32)), .val (.int ((p2 &&& (2147483647 : Int32)) % (1000 : Int32))), .val (.int ((p3 &&& (2147483647 : Int32)) % (1000 : Int32))), .val (.ref b31), .val (.int (1 : Int32)), .val (.int (1 : Int32)), .val (.int ((0 : Int32) + (1 : Int32)))] [(.int ((0 : Int32) + (1 : Int32)))])) _
        refine XS.iconst X39.here hx rfl (hb hby at_134) ?_
        show Steps p.tables e below (T39.setTop (mkF m 135 #[.val (.int p1), .val (.int p2), .val (.int p3), .val (.int ((p1 &&& (2147483647 : Int32)) % (3 : Int32))), .val (.int (5 : Int32)), .val (.int ((p2 &&& (2147483647 : Int32)) % (1000 : Int32))), .val (.int ((p3 &&& (2147483647 : Int32)) % (1000 : Int32))), .val (.ref b31), .val (.int (1 : Int32)), .val (.int (1 : Int32)), .val (.int ((0 : Int32) + (1 : Int32)))] [(.int (1 : Int32)), (.int ((0 : Int32) + (1 : Int32)))])) _
        refine XS.icmpNo X39.here hx rfl (hb hby at_135) rfl (XT.ii_ne_f hc135_42) ?_
        show Steps p.tables e below (T39.setTop (mkF m 138 #[.val (.int p1), .val (.int p2), .val (.int p3), .val (.int ((p1 &&& (2147483647 : Int32)) % (3 : Int32))), .val (.int (5 : Int32)), .val (.int ((p2 &&& (2147483647 : Int32)) % (1000 : Int32))), .val (.int ((p3 &&& (2147483647 : Int32)) % (1000 : Int32))), .val (.ref b31), .val (.int (1 : Int32)), .val (.int (1 : Int32)), .val (.int ((0 : Int32) + (1 : Int32)))] [])) _
        refine XS.iconst X39.here hx rfl (hb hby at_138) ?_
        show Steps p.tables e below (T39.setTop (mkF m 139 #[.val (.int p1), .val (.int p2), .val (.int p3), .val (.int ((p1 &&& (2147483647 : Int32)) % (3 : Int32))), .val (.int (5 : Int32)), .val (.int ((p2 &&& (2147483647 : Int32)) % (1000 : Int32))), .val (.int ((p3 &&& (2147483647 : Int32)) % (1000 : Int32))), .val (.ref b31), .val (.int (1 : Int32)), .val (.int (1 : Int32)), .val (.int ((0 : Int32) + (1 : Int32)))] [(.int (1 : Int32))])) _
        refine XS.goto X39.here hx rfl (pc0 := 139) (pc' := 143) rfl (hb hby at_139) (by decide) (by decide) ?_
        exact kt)
      obtain ⟨fs, hr, hrun, hended, hW, hsame⟩ := X39.leave (v := some (.int (1 : Int32))) (fun h => by rw [Bd.returns] at h; cases h)
      refine ⟨_, _, P43 _ ?_, hrun, hended, _, _, rfl, ?_, ⟨_, rfl⟩, hW, hsame.mono (by decide) (by decide)⟩
      · exact retN X39 hx (t := .boolean) Bd.returns (by simp) (hb hby at_143) hr
      · show Q0 Z p1 p2 p3 h0 n0 _ T39.heap _
        rw [e39]
        exact ⟨rfl, N39⟩
set_option maxRecDepth 65536 in
set_option maxHeartbeats 40000000 in
theorem comes_1 {Post : Tables → Env → Array Value → State → Outcome → State → Prop} (hpost : ∀ tb e args s v u, (limb_1_1.after args s (.returned v) u = true ∧ limb_1_2.after args s (.returned v) u = true ∧ True) → FrameEnd s (.returned v) u (Jvm.fieldLocs frame_1_writes args s ++ Jvm.arrayLocs frame_1_arrays args s ++ Jvm.staticLocs frame_1_statics s) 16 128 → Post tb e args s (.returned v) u) :
    ArmFor flags0 classFile x code maxLocals ret World_1 tables_1 room_1 Calls_1 rest_1 Pre_1 Post := by
  intro l hfl _ _ p e ha hc hk s m args below hf hA hF happ hP
  obtain ⟨hcalls, hrest, hpre⟩ := hP
  obtain ⟨-, -, -, hnamed, -, -, -, hat⟩ := (Spec.applies_iff hf).mp happ
  obtain ⟨hg, hn⟩ := and_e (Cond.before_iff.mp (show (Jvm.Cond.and given_1 narrow_1).before args s = true from hpre))
  obtain ⟨g1, g2⟩ := and_e hg
  obtain ⟨g3, g4⟩ := and_e g2
  obtain ⟨g5, g6⟩ := and_e g4
  obtain ⟨w0, w1, w2, rfl⟩ : ∃ w0 w1 w2 : Value, args = #[w0, w1, w2] := by
    have hs : args.size = 3 := by simpa [Cond.value, given_1] using g1
    obtain ⟨L⟩ := args
    match L, hs with
    | [w0, w1, w2], _ => exact ⟨w0, w1, w2, rfl⟩
  have hw := fun d (hd : d ∈ tables_1) => atoms_spec (ws := Jvm.Cond.code x code maxLocals ret :: tables_1) hat d (List.mem_cons_of_mem _ hd)
  obtain ⟨i0, ei0⟩ := is_v g3
  obtain rfl : w0 = (.int i0) := Option.some.inj ei0
  obtain ⟨i1, ei1⟩ := is_v g5
  obtain rfl : w1 = (.int i1) := Option.some.inj ei1
  obtain ⟨i2, ei2⟩ := is_v g6
  obtain rfl : w2 = (.int i2) := Option.some.inj ei2
  obtain ⟨n, o, h1, h2, h3, _, L, rfl, ⟨rfl, N⟩, hq⟩ := rm0 l s _ hw tables_1 i0 i1 i2 s.heap s.heap.size (Nat.le_refl _) p e ha hc hk s m _ below hf ((Spec.applies_iff_loose hf).mp happ).1 ⟨rfl, State.Warmed39.refl s, rfl⟩ trivial
  refine ⟨n, _, h1, h2, h3, hpost _ _ _ _ _ _ ⟨Cond.after_iff.mpr rfl, Cond.after_iff.mpr (eq_i res_at (Term.int_eval (1)) rfl), trivial⟩ ⟨hq.1, hq.2.1, (hq.2.2.sift fun y hy => Or.inr (N y hy)).mono (by decide) (by decide)⟩⟩
theorem main_1_1 : Claimed_1_1 := comes_1 fun _ _ _ _ _ _ h hF => ⟨h.1, hF⟩
theorem main_1_2 : Claimed_1_2 := comes_1 fun _ _ _ _ _ _ h hF => ⟨h.2.1, hF⟩
end Jvm.Pilot.@@N@@
namespace Jvm.Pilot.@@N@@
open Jvm Jvm.ClassFile Sem Op Lib Jvm.Free Jvm.Stand Jvm.Pilot.@@N@@.Jvm.D
/-! MADE BY PROGRAM (witnessworld.py) out of the Statement's table words and the real class files: 10 classes; the members and pool entries that the words name. The judged class is class 1, her method 1. -/
namespace start1
open Jvm.ClassFile
def u (s : String) : CpInfo := .utf8 (stringToUtf16 s)
/-- a pool by its gaps: so many unusable entries, then the entry; so many at the end -/
def gap : Nat → List CpInfo → List CpInfo
  | 0, r => r
  | n + 1, r => .unusable :: gap n r
def poolList (es : List (Nat × CpInfo)) (last : Nat) : List CpInfo := es.foldr (fun e r => gap e.1 (e.2 :: r)) (gap last [])
def pool (es : List (Nat × CpInfo)) (last : Nat) : Array CpInfo := ⟨poolList es last⟩
def fileOf (pool : Array CpInfo) (this : Nat) (attrs : Array Attribute := #[]) (ms : Array MethodInfo := #[]) (fl : Nat := 33) (sup : Nat := 0) (ifs : Array Nat := #[]) (fds : Array FieldInfo := #[]) : ClassFile where
  minorVersion := 0
  majorVersion := 65
  constantPool := pool
  accessFlags := fl
  thisClass := this
  superClass := sup
  interfaces := ifs
  fields := fds
  methods := ms
  attributes := attrs
def plain (name : String) (sup : Option ClassId) : Class where
  name := name
  kind := .ordinary
  loader := none
  accessFlags := 33
  super := sup
  interfaces := #[]
  cf := none
  fields := #[]
  methods := #[]
  instanceTypes := #[]
  staticTypes := #[]
  resolved := #[]
  callSites := []
  init := .initialized
  statics := none
  mirror := none

def pool0 : Array CpInfo := pool [(5, u "<init>"), (0, u "()V"), (1, .class_ 10), (1, u "java/lang/Object")] 113

def k0c0 : Code := { maxStack := 0, maxLocals := 1, code := object_method_1_code, exceptionTable := #[], attributes := #[] }
def k0m0 : Method := { name := "<init>", desc := "()V", sig := { parameters := [], returnType := none }, accessFlags := 1, code := some k0c0 }
/-- java/lang/Object -/
def k0 : Class := { plain "java/lang/Object" none with
  accessFlags := 33
  interfaces := #[]
  cf := some (fileOf pool0 8 #[] #[{ accessFlags := 1, nameIndex := 5, descriptorIndex := 6, attributes := #[] }] 33 0 #[] #[])
  fields := #[]
  methods := #[k0m0]
  instanceTypes := #[]
  staticTypes := #[]
  resolved := Array.replicate 124 none
  statics := none }

def pool1 : Array CpInfo := pool [(2, .class_ 4), (1, u "java/lang/Object"), (0, u "<init>"), (0, u "()V"), (0, .integer 2147483647), (0, .class_ 9), (0, u "com/example/mail_delivery_tracker/maildeliverytracker/mail/EnhancedStatusCode"), (0, .methodref 8 11), (0, .nameAndType 5 12), (0, u "(III)V"), (0, .methodref 8 14), (0, .nameAndType 15 16), (0, u "isPermanentFailure"), (0, u "()Z"), (0, .methodref 8 18), (0, .nameAndType 19 16), (0, u "isSuccess"), (0, .methodref 8 21), (0, .nameAndType 22 16), (0, u "isTransientFailure"), (0, .class_ 24), (0, u "com/example/mail_delivery_tracker/maildeliverytracker/mail/EnhancedStatusCodeIsPermanentFailurePinLaw"), (2, u "law"), (0, u "(III)Z")] 3

def k1m0 : Method := { name := "<init>", desc := "()V", sig := { parameters := [], returnType := none }, accessFlags := 2, code := none }
def k1c1 : Code := { maxStack := 5, maxLocals := 11, code := code, exceptionTable := #[], attributes := #[] }
def k1m1 : Method := { name := "law", desc := "(III)Z", sig := { parameters := [.int, .int, .int], returnType := some .boolean }, accessFlags := 9, code := some k1c1 }
/-- com/example/mail_delivery_tracker/maildeliverytracker/mail/EnhancedStatusCodeIsPermanentFailurePinLaw -/
def k1 : Class := { plain "com/example/mail_delivery_tracker/maildeliverytracker/mail/EnhancedStatusCodeIsPermanentFailurePinLaw" (some 0) with
  accessFlags := 49
  interfaces := #[]
  cf := some (fileOf pool1 23 #[] #[{ accessFlags := 2, nameIndex := 5, descriptorIndex := 6, attributes := #[] }, { accessFlags := 9, nameIndex := 27, descriptorIndex := 28, attributes := #[] }] 49 2 #[] #[])
  fields := #[]
  methods := #[k1m0, k1m1]
  instanceTypes := #[]
  staticTypes := #[]
  resolved := Array.replicate 32 none
  statics := none }

def pool2 : Array CpInfo := pool [(1, .methodref 2 3), (0, .class_ 4), (0, .nameAndType 5 6), (0, u "java/lang/Object"), (0, u "<init>"), (0, u "()V"), (0, .class_ 8), (0, u "java/lang/Record")] 13

def k2c0 : Code := { maxStack := 1, maxLocals := 1, code := jdk_30_method_1_code, exceptionTable := #[], attributes := #[] }
def k2m0 : Method := { name := "<init>", desc := "()V", sig := { parameters := [], returnType := none }, accessFlags := 4, code := some k2c0 }
/-- java/lang/Record -/
def k2 : Class := { plain "java/lang/Record" (some 0) with
  accessFlags := 1057
  interfaces := #[]
  cf := some (fileOf pool2 7 #[] #[{ accessFlags := 4, nameIndex := 5, descriptorIndex := 6, attributes := #[] }] 1057 2 #[] #[])
  fields := #[]
  methods := #[k2m0]
  instanceTypes := #[]
  staticTypes := #[]
  resolved := Array.replicate 22 none
  statics := none }

def pool3 : Array CpInfo := pool [(1, .methodref 2 3), (0, .class_ 4), (0, .nameAndType 5 6), (0, u "java/lang/Record"), (0, u "<init>"), (0, u "()V"), (0, .class_ 8), (0, u "com/example/mail_delivery_tracker/maildeliverytracker/mail/EnhancedStatusCode"), (11, .fieldref 7 21), (0, .nameAndType 22 23), (0, u "statusClass"), (0, u "I"), (0, .fieldref 7 25), (0, .nameAndType 26 23), (0, u "subject"), (0, .fieldref 7 28), (0, .nameAndType 29 23), (0, u "detail"), (10, u "SYNTAX"), (0, u "Ljava/util/regex/Pattern;"), (11, u "()Z"), (17, u "IN_TEXT"), (20, u "(III)V"), (19, u "SUCCESS"), (2, u "TRANSIENT_FAILURE"), (1, u "PERMANENT_FAILURE"), (1, u "MAX_SUB_CODE"), (1, u "FORM"), (0, u "Ljava/lang/String;"), (10, u "isSuccess"), (0, u "isTransientFailure"), (0, u "isPermanentFailure")] 42

def k3c0 : Code := { maxStack := 3, maxLocals := 4, code := prog_14_method_1_code, exceptionTable := #[], attributes := #[] }
def k3m0 : Method := { name := "<init>", desc := "(III)V", sig := { parameters := [.int, .int, .int], returnType := none }, accessFlags := 1, code := some k3c0 }
def k3c1 : Code := { maxStack := 2, maxLocals := 1, code := prog_14_method_5_code, exceptionTable := #[], attributes := #[] }
def k3m1 : Method := { name := "isSuccess", desc := "()Z", sig := { parameters := [], returnType := some .boolean }, accessFlags := 1, code := some k3c1 }
def k3c2 : Code := { maxStack := 2, maxLocals := 1, code := prog_14_method_6_code, exceptionTable := #[], attributes := #[] }
def k3m2 : Method := { name := "isTransientFailure", desc := "()Z", sig := { parameters := [], returnType := some .boolean }, accessFlags := 1, code := some k3c2 }
def k3c3 : Code := { maxStack := 2, maxLocals := 1, code := prog_14_method_7_code, exceptionTable := #[], attributes := #[] }
def k3m3 : Method := { name := "isPermanentFailure", desc := "()Z", sig := { parameters := [], returnType := some .boolean }, accessFlags := 1, code := some k3c3 }
/-- com/example/mail_delivery_tracker/maildeliverytracker/mail/EnhancedStatusCode -/
def k3 : Class := { plain "com/example/mail_delivery_tracker/maildeliverytracker/mail/EnhancedStatusCode" (some 2) with
  accessFlags := 49
  interfaces := #[]
  cf := some (fileOf pool3 7 #[] #[{ accessFlags := 1, nameIndex := 5, descriptorIndex := 92, attributes := #[] }, { accessFlags := 1, nameIndex := 133, descriptorIndex := 53, attributes := #[] }, { accessFlags := 1, nameIndex := 134, descriptorIndex := 53, attributes := #[] }, { accessFlags := 1, nameIndex := 135, descriptorIndex := 53, attributes := #[] }] 49 2 #[] #[{ accessFlags := 18, nameIndex := 22, descriptorIndex := 23, attributes := #[] }, { accessFlags := 18, nameIndex := 26, descriptorIndex := 23, attributes := #[] }, { accessFlags := 18, nameIndex := 29, descriptorIndex := 23, attributes := #[] }, { accessFlags := 26, nameIndex := 112, descriptorIndex := 23, attributes := #[] }, { accessFlags := 26, nameIndex := 115, descriptorIndex := 23, attributes := #[] }, { accessFlags := 26, nameIndex := 117, descriptorIndex := 23, attributes := #[] }, { accessFlags := 26, nameIndex := 119, descriptorIndex := 23, attributes := #[] }, { accessFlags := 26, nameIndex := 121, descriptorIndex := 122, attributes := #[] }, { accessFlags := 26, nameIndex := 40, descriptorIndex := 41, attributes := #[] }, { accessFlags := 26, nameIndex := 71, descriptorIndex := 41, attributes := #[] }])
  fields := #[{ name := "statusClass", type := .int, accessFlags := 18, slot := 0, constantValue := 0 }, { name := "subject", type := .int, accessFlags := 18, slot := 1, constantValue := 0 }, { name := "detail", type := .int, accessFlags := 18, slot := 2, constantValue := 0 }, { name := "SUCCESS", type := .int, accessFlags := 26, slot := 0, constantValue := 0 }, { name := "TRANSIENT_FAILURE", type := .int, accessFlags := 26, slot := 1, constantValue := 0 }, { name := "PERMANENT_FAILURE", type := .int, accessFlags := 26, slot := 2, constantValue := 0 }, { name := "MAX_SUB_CODE", type := .int, accessFlags := 26, slot := 3, constantValue := 0 }, { name := "FORM", type := (.object "java/lang/String"), accessFlags := 26, slot := 4, constantValue := 0 }, { name := "SYNTAX", type := (.object "java/util/regex/Pattern"), accessFlags := 26, slot := 5, constantValue := 0 }, { name := "IN_TEXT", type := (.object "java/util/regex/Pattern"), accessFlags := 26, slot := 6, constantValue := 0 }]
  methods := #[k3m0, k3m1, k3m2, k3m3]
  instanceTypes := #[.int, .int, .int]
  staticTypes := #[.int, .int, .int, .int, (.object "java/lang/String"), (.object "java/util/regex/Pattern"), (.object "java/util/regex/Pattern")]
  resolved := Array.replicate 178 none
  statics := none }

def pool4 : Array CpInfo := pool [(1, u "java/lang/Cloneable"), (0, .class_ 1), (0, u "java/lang/Object"), (0, .class_ 3)] 3

/-- java/lang/Cloneable -/
def k4 : Class := { plain "java/lang/Cloneable" (some 0) with
  accessFlags := 1537
  interfaces := #[]
  cf := some (fileOf pool4 2 #[] #[] 1537 4 #[] #[])
  fields := #[]
  methods := #[]
  instanceTypes := #[]
  staticTypes := #[]
  resolved := Array.replicate 8 none
  statics := none }

def pool5 : Array CpInfo := pool [(1, u "java/io/Serializable"), (0, .class_ 1), (0, u "java/lang/Object"), (0, .class_ 3)] 3

/-- java/io/Serializable -/
def k5 : Class := { plain "java/io/Serializable" (some 0) with
  accessFlags := 1537
  interfaces := #[]
  cf := some (fileOf pool5 2 #[] #[] 1537 4 #[] #[])
  fields := #[]
  methods := #[]
  instanceTypes := #[]
  staticTypes := #[]
  resolved := Array.replicate 8 none
  statics := none }

/-- the primitive byte -/
def k6 : Class := { plain "byte" none with kind := .primitive 'B', accessFlags := 0x411 }
/-- [B -/
def k7 : Class := { plain "[B" (some 0) with kind := .array 6 .byte, interfaces := #[4, 5], accessFlags := 1041 }

/-- the primitive int -/
def k8 : Class := { plain "int" none with kind := .primitive 'I', accessFlags := 0x411 }
/-- [I -/
def k9 : Class := { plain "[I" (some 0) with kind := .array 8 .int, interfaces := #[4, 5], accessFlags := 1041 }

def heap : Heap := #[]
def classes : Array Class := #[k0, k1, k2, k3, k4, k5, k6, k7, k8, k9]
def interned : List (Array UInt16 × Addr) := []
def slotsUsed : Nat := 0
def theMethod : MethodId := ⟨1, 1⟩
def args0 : Array Value := #[.int 5, .int 7, .int 5]
def aboutOver (below : List Frame) : State where
  vm := { classes := classes, interned := interned.toArray }
  heap := heap
  slotsUsed := slotsUsed
  threads := #[{ frames := .invoking theMethod args0 :: below }]
def below0 : List Frame := [.native { method := ⟨0, 0⟩, args := #[] }]
def about1 : State := aboutOver below0
def p0 : Program := .bare "" "" ""
def e0 : Env := launch0.env 0 0 0
theorem w_frames : about1.frames = Frame.invoking theMethod args0 :: below0 := rfl
set_option maxRecDepth 65536 in
theorem w_args : argsFit about1.vm theMethod args0 = true := by decide +kernel
set_option maxRecDepth 65536 in
theorem w_heap : heapFits about1 = true := by decide +kernel
set_option maxRecDepth 65536 in
theorem w_runnable : about1.curStatus? = some .runnable := by decide +kernel
set_option maxRecDepth 65536 in
theorem w_alone : about1.alone = true := by decide +kernel
set_option maxRecDepth 65536 in
theorem w_named : about1.methodNamed? x = some theMethod := by decide +kernel
set_option maxRecDepth 65536 in
theorem w_hears : about1.hears theMethod below0 = true := by decide +kernel
set_option maxRecDepth 65536 in
theorem w_ripe : about1.ripe theMethod args0 below0 = true := by decide +kernel
theorem w_running : about1.status = .running := rfl
set_option maxRecDepth 65536 in
theorem w_room : about1.hasRoom e0.platform room_1 = true :=
  launch0.hasRoom_least _ room_1 (by decide +kernel) (by decide +kernel) (by decide +kernel) (by decide +kernel) (by decide +kernel) (by decide +kernel)
theorem allAtoms_all (ts : List Jvm.Cond) (a : Array Jvm.Value) (st : Jvm.State) : (allAtoms ts).before a st = ts.all (fun c => c.before a st) := by
  induction ts with
  | nil => rfl
  | cons c t ih =>
    show (Jvm.Cond.and c (allAtoms t)).before a st = _
    rw [Jvm.Cond.before_and, ih, List.all_cons]
def words1 : List Jvm.Cond := Jvm.Cond.code x code maxLocals ret :: tables_1
/-- a 'code' word, met by the world's own term for the bytes: nothing is compared byte by byte -/
theorem code_word {y : MethodName} {bytes : ByteArray} {mx : Nat} {rt : Option FieldType} {a : Array Value} {s : State} {m : MethodId} {meth : Method} {c : Code} (h1 : s.methodNamed? y = some m) (h2 : s.vm.method? m = some meth) (h3 : meth.code = some c) (h4 : c.code = bytes)
    (h5 : (c.maxLocals == mx && c.exceptionTable.isEmpty && decide (c.maxStack ≤ mostOperands) && decide (meth.sig.returnType = rt) && !meth.locks && decide (parseMethodDescriptor y.desc = some meth.sig)) = true) : (Jvm.Cond.code y bytes mx rt).before a s = true := by
  simp only [Bool.and_eq_true, beq_iff_eq, Bool.not_eq_true', decide_eq_true_eq] at h5
  obtain ⟨⟨⟨⟨⟨g1, g2⟩, g3⟩, g4⟩, g5⟩, g6⟩ := h5
  simp [Cond.before, Cond.holds, Cond.value, h1, h2, h3, h4, g1, g2, g3, g4, g5, g6]
def isCode : Jvm.Cond → Bool
  | .code _ _ _ _ => true
  | _ => false
theorem all_split {L : List Jvm.Cond} {P : Jvm.Cond → Bool} (h1 : L.all (fun c => isCode c || P c) = true) (h2 : ∀ c ∈ L.filter isCode, P c = true) : L.all P = true := by
  refine List.all_eq_true.mpr fun c hc => ?_
  have h := List.all_eq_true.mp h1 c hc
  rcases Bool.eq_false_or_eq_true (isCode c) with hi | hi
  · exact h2 c (List.mem_filter.mpr ⟨hc, hi⟩)
  · simpa [hi] using h
set_option maxRecDepth 65536 in
theorem w_c0 : (Jvm.Cond.code x code maxLocals ret).before args0 about1 = true := code_word (m := ⟨1, 1⟩) (meth := k1m1) (c := k1c1) (by decide +kernel) rfl rfl rfl (by decide +kernel)
set_option maxRecDepth 65536 in
theorem w_c1 : (Jvm.Cond.code ({ cls := "com/example/mail_delivery_tracker/maildeliverytracker/mail/EnhancedStatusCode", name := "<init>", desc := "(III)V" } : Jvm.MethodName) prog_14_method_1_code (4 : Nat) (Option.none : Option Jvm.ClassFile.FieldType)).before args0 about1 = true := code_word (m := ⟨3, 0⟩) (meth := k3m0) (c := k3c0) (by decide +kernel) rfl rfl rfl (by decide +kernel)
set_option maxRecDepth 65536 in
theorem w_c2 : (Jvm.Cond.code ({ cls := "java/lang/Record", name := "<init>", desc := "()V" } : Jvm.MethodName) jdk_30_method_1_code (1 : Nat) (Option.none : Option Jvm.ClassFile.FieldType)).before args0 about1 = true := code_word (m := ⟨2, 0⟩) (meth := k2m0) (c := k2c0) (by decide +kernel) rfl rfl rfl (by decide +kernel)
set_option maxRecDepth 65536 in
theorem w_c3 : (Jvm.Cond.code ({ cls := "java/lang/Object", name := "<init>", desc := "()V" } : Jvm.MethodName) object_method_1_code (1 : Nat) (Option.none : Option Jvm.ClassFile.FieldType)).before args0 about1 = true := code_word (m := ⟨0, 0⟩) (meth := k0m0) (c := k0c0) (by decide +kernel) rfl rfl rfl (by decide +kernel)
set_option maxRecDepth 65536 in
theorem w_c4 : (Jvm.Cond.code ({ cls := "com/example/mail_delivery_tracker/maildeliverytracker/mail/EnhancedStatusCode", name := "isPermanentFailure", desc := "()Z" } : Jvm.MethodName) prog_14_method_7_code (1 : Nat) (Option.some Jvm.ClassFile.FieldType.boolean)).before args0 about1 = true := code_word (m := ⟨3, 3⟩) (meth := k3m3) (c := k3c3) (by decide +kernel) rfl rfl rfl (by decide +kernel)
set_option maxRecDepth 65536 in
theorem w_c5 : (Jvm.Cond.code ({ cls := "com/example/mail_delivery_tracker/maildeliverytracker/mail/EnhancedStatusCode", name := "isSuccess", desc := "()Z" } : Jvm.MethodName) prog_14_method_5_code (1 : Nat) (Option.some Jvm.ClassFile.FieldType.boolean)).before args0 about1 = true := code_word (m := ⟨3, 1⟩) (meth := k3m1) (c := k3c1) (by decide +kernel) rfl rfl rfl (by decide +kernel)
set_option maxRecDepth 65536 in
theorem w_c6 : (Jvm.Cond.code ({ cls := "com/example/mail_delivery_tracker/maildeliverytracker/mail/EnhancedStatusCode", name := "isTransientFailure", desc := "()Z" } : Jvm.MethodName) prog_14_method_6_code (1 : Nat) (Option.some Jvm.ClassFile.FieldType.boolean)).before args0 about1 = true := code_word (m := ⟨3, 2⟩) (meth := k3m2) (c := k3c2) (by decide +kernel) rfl rfl rfl (by decide +kernel)
def codes1 : List Jvm.Cond := [Jvm.Cond.code x code maxLocals ret, Jvm.Cond.code ({ cls := "com/example/mail_delivery_tracker/maildeliverytracker/mail/EnhancedStatusCode", name := "<init>", desc := "(III)V" } : Jvm.MethodName) prog_14_method_1_code (4 : Nat) (Option.none : Option Jvm.ClassFile.FieldType), Jvm.Cond.code ({ cls := "java/lang/Record", name := "<init>", desc := "()V" } : Jvm.MethodName) jdk_30_method_1_code (1 : Nat) (Option.none : Option Jvm.ClassFile.FieldType), Jvm.Cond.code ({ cls := "java/lang/Object", name := "<init>", desc := "()V" } : Jvm.MethodName) object_method_1_code (1 : Nat) (Option.none : Option Jvm.ClassFile.FieldType), Jvm.Cond.code ({ cls := "com/example/mail_delivery_tracker/maildeliverytracker/mail/EnhancedStatusCode", name := "isPermanentFailure", desc := "()Z" } : Jvm.MethodName) prog_14_method_7_code (1 : Nat) (Option.some Jvm.ClassFile.FieldType.boolean), Jvm.Cond.code ({ cls := "com/example/mail_delivery_tracker/maildeliverytracker/mail/EnhancedStatusCode", name := "isSuccess", desc := "()Z" } : Jvm.MethodName) prog_14_method_5_code (1 : Nat) (Option.some Jvm.ClassFile.FieldType.boolean), Jvm.Cond.code ({ cls := "com/example/mail_delivery_tracker/maildeliverytracker/mail/EnhancedStatusCode", name := "isTransientFailure", desc := "()Z" } : Jvm.MethodName) prog_14_method_6_code (1 : Nat) (Option.some Jvm.ClassFile.FieldType.boolean)]
set_option maxRecDepth 65536 in
theorem codes_eq : words1.filter isCode = codes1 := rfl
theorem w_codes : ∀ c ∈ words1.filter isCode, c.before args0 about1 = true := by
  rw [codes_eq]
  intro c hc
  simp only [codes1, List.mem_cons, List.not_mem_nil, or_false] at hc
  rcases hc with rfl | rfl | rfl | rfl | rfl | rfl | rfl
  · exact w_c0
  · exact w_c1
  · exact w_c2
  · exact w_c3
  · exact w_c4
  · exact w_c5
  · exact w_c6
set_option maxRecDepth 65536 in
theorem w_t1 : (words1.take 24).all (fun c => isCode c || c.before args0 about1) = true := by decide +kernel
set_option maxRecDepth 65536 in
theorem w_t2 : (words1.drop 24).all (fun c => isCode c || c.before args0 about1) = true := by decide +kernel
theorem w_tables : (allAtoms (Jvm.Cond.code x code maxLocals ret :: tables_1)).before args0 about1 = true := by
  rw [allAtoms_all]
  show words1.all (fun c => c.before args0 about1) = true
  refine all_split ?_ w_codes
  rw [← List.take_append_drop 24 words1, List.all_append, w_t1, w_t2]
  rfl
set_option maxRecDepth 65536 in
theorem w_case : (Jvm.Cond.and given_1 narrow_1).before args0 about1 = true := by decide +kernel
theorem w_applies : (headSpec (Jvm.Cond.code x code maxLocals ret :: tables_1) room_1).applies x e0.platform about1 = true :=
  (Spec.applies_iff w_frames).mpr ⟨w_running, w_runnable, w_alone, w_named, w_hears, w_ripe, w_room, w_tables⟩
theorem atStart : AtStart classFile x code maxLocals ret World_1 tables_1 room_1 Calls_1 rest_1 Pre_1 launch0 p0 e0 about1 theMethod args0 below0 :=
  ⟨lists_1, trivial, launch0.admits_env _ _ _, launch0.least_env, fairChoices_fair.cas, fairChoices_fair.clock, w_frames, w_args, w_heap, w_applies, trivial, trivial, w_case⟩
end start1
theorem witness_1 : WitnessClaimed_1 := ⟨start1.p0, start1.e0, start1.about1, start1.theMethod, start1.args0, start1.below0, start1.atStart⟩
end Jvm.Pilot.@@N@@
