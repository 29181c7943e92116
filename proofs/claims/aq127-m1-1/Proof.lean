import JvmDerived
import JvmDerived.Pilot.@@N@@Statement
import JvmDerived.Pilot.@@N@@Code
set_option linter.unusedVariables false
set_option linter.unusedSimpArgs false
@@BLOCK:NumsL.lean.txt@@
namespace Jvm.RoadKit
open Sem ClassFile Op Lib Jvm.Stand Jvm.Free Jvm.LawKit
section New
variable {p : Program} {l : Launch} {e : Env} {R : Room} {s : State} {m : MethodId} {args : Array Value} {below : List Frame} {meth : Method} {c : Code} {T : State} {locs : List Loc} {cells slots : Nat}
theorem retI (X : Stand p l e R s m args below meth c T locs cells slots) (hx : p.tables.exec = Jvm.exec) {pc : Nat} {Ls : Array Slot} {z : Int32} {rest : List Value} (hret : meth.sig.returnType = some .int) (hd : decode c.code pc = .ok (.ireturn, 1)) {fs : List Frame}
    (hl : ∀ (f : JFrame) (acts : List Action), f.method = m → f.locked = none → f.entered = [] → (doReturn e (T.setTop f) acts (some (.int z))).1 = T.setFrames fs) : Steps p.tables e below (T.setTop (mkF m pc Ls (.int z :: rest))) (T.setFrames fs) := by
  have hm' : T.vm.method? m = some meth := X.method'
  have hn : narrow .int (.int z) = .int z := rfl
  show Steps p.tables e below (T.setTop { method := m, pc := pc, locals := Ls, stack := _ :: rest, locked := none }) _
  jvm_step X.here [X.here.top, hx, hd, hm', hret, hn]
  first | (intro acts; rw [hl _ acts rfl rfl rfl]) | rw [hl _ _ rfl rfl rfl]
  exact Steps.refl _
end New
end Jvm.RoadKit
namespace Jvm.Pilot.@@N@@
open Jvm Jvm.ClassFile Sem Op Lib Jvm.Free Jvm.Stand Jvm.LawKit Jvm.RoadKit Bundle Jvm.Pilot.@@N@@.Jvm.D
def own_max (x y : Int64) : Int64 := if x < y then y else x
theorem own_e0 : (0 : Int64).toInt = 0 := by decide
theorem own_e1 : (1 : Int64).toInt = 1 := by decide
theorem own_eM : (9223372036854775807 : Int64).toInt = 9223372036854775807 := by decide
theorem own_eT : (9223372036854775805 : Int64).toInt = 9223372036854775805 := by decide
theorem own_max0 {x : Int64} (h : ¬ x < (0 : Int64)) : own_max (0 : Int64) x = x := by
  unfold own_max
  by_cases q : (0 : Int64) < x
  · rw [if_pos q]
  · rw [if_neg q]
    rw [Int64.lt_iff_toInt_lt, own_e0] at h q
    rw [← Int64.toInt_inj, own_e0]; omega
theorem own_pos (x : Int64) : ¬ (x &&& (9223372036854775807 : Int64)) < (0 : Int64) := by
  have h1 : (x &&& (9223372036854775807 : Int64)).toInt = x.toInt % 2 ^ 63 := Jvm.Kit.i64_mask x (9223372036854775807 : Int64) (k := 63) (by decide) (by decide)
  rw [Int64.lt_iff_toInt_lt, own_e0, h1]; omega
theorem own_nm {x : Int64} (h : ¬ (9223372036854775805 : Int64) < x) : ¬ x = (9223372036854775807 : Int64) := by
  rw [Int64.lt_iff_toInt_lt, own_eT] at h
  rw [← Int64.toInt_inj, own_eM]; omega
theorem own_nm1 {x : Int64} (h : ¬ (9223372036854775805 : Int64) < x) (h0 : ¬ x < (0 : Int64)) : ¬ x + (1 : Int64) = (9223372036854775807 : Int64) := by
  rw [Int64.lt_iff_toInt_lt, own_eT] at h
  rw [Int64.lt_iff_toInt_lt, own_e0] at h0
  rw [← Int64.toInt_inj, own_eM, Jvm.Kit.i64_add (by rw [own_e1]; omega) (by rw [own_e1]; omega), own_e1]; omega
theorem d1_0 : decode prog_6_method_1_code 0 = .ok (.aload_n 0, 1) := by decide +kernel
theorem d1_1 : decode prog_6_method_1_code 1 = .ok (.invokespecial 1, 3) := by decide +kernel
theorem d1_4 : decode prog_6_method_1_code 4 = .ok (.return_, 1) := by decide +kernel
theorem pn_0 : plainName "com/example/anchovy/anchovy/clock/LamportClock" = true := by first | (simp [plainName, overriddenIn]; done) | decide +kernel
theorem ef_rmN (m : MethodId) (x0 : Addr) : entryFrame m #[(.ref x0)] 1 = mkF m 0 #[.val (.ref x0)] [] := by first | (simp [entryFrame, mkF, argsToLocals, Value.category]; done) | rfl
def QN (Z : State) (a1 : Addr) (h0 : Heap) (n0 : Nat) (v : Option Value) (h : Heap) (L : List Loc) : Prop := v = none ∧ Fr n0 L ∧ h = h0
set_option maxRecDepth 65536 in
set_option maxHeartbeats 40000000 in
theorem rmN (l : Launch) (Z : State) (a0 : Array Value) (hw : ∀ d ∈ tables_1, d.before a0 Z = true) (ws : List Jvm.Cond) (a1 : Addr) (h0 : Heap) (n0 : Nat) (Z0 : n0 ≤ h0.size) :
    MetFree l (⟨"com/example/anchovy/anchovy/clock/LamportClock", "<init>", "()V"⟩ : MethodName) (head1 (Jvm.Cond.code (⟨"com/example/anchovy/anchovy/clock/LamportClock", "<init>", "()V"⟩ : MethodName) prog_6_method_1_code 1 none :: ws) ({ frames := 1, cells := 0, slots := 0, locals := 12 } : Room)) (fun a U => a = #[(.ref a1)] ∧ Z.Warmed39 U.vm ∧ U.heap = h0) (fun _ _ _ _ _ => True) (fun _ U o U' => ∃ v L, o = .returned v ∧ QN Z a1 h0 n0 v U'.heap L ∧ FrameEnd U o U' L ({ frames := 1, cells := 0, slots := 0, locals := 12 } : Room).cells ({ frames := 1, cells := 0, slots := 0, locals := 12 } : Room).slots) := by
  refine MetFree.of_bodySF (plainFor_of_name pn_0) hisR ?_
  intro p e s m args below meth c s₁ Bd hml0 hP hK
  obtain ⟨rfl, hZ, hh⟩ := hP
  have hx := Bd.exec
  have hby := Bd.bytes
  have hml : c.maxLocals = 1 := hml0
  have hown : s.vm.findClass "com/example/anchovy/anchovy/clock/LamportClock" = some m.cls := findClass_of_methodNamed Bd.named
  have hnm := (name_of_methodNamed Bd.named Bd.method).1
  have X0 : Stand p l e ({ frames := 1, cells := 0, slots := 0, locals := 12 } : Room) s m #[(.ref a1)] below meth c s₁ [] 0 0 := Stand.of_body Bd
  have e0 : s₁.heap = h0 := by rw [← hh, Bd.state]; rfl
  have N0 := Fr.nil n0
  have pre0 : ∀ t, Steps p.tables e below (s₁.setTop (mkF m 0 #[.val (.ref a1)] [])) t → Steps p.tables e below (s₁.setTop (entryFrame m #[(.ref a1)] 1)) t := fun t k => castTop (ef_rmN m a1) k
  obtain ⟨T1, X1, e1, st1⟩ := initO X0 hx hZ hown (hw _ (List.mem_of_getElem? (i := 6) rfl)) (hw _ (List.mem_of_getElem? (i := 7) rfl)) (hw _ (List.mem_of_getElem? (i := 8) rfl)) e0 (g := (mkF m 1 #[.val (.ref a1)] [(.ref a1)])) rfl (by rw [hml]; rfl) rfl (hb hby d1_1) (by decide) (W := 0) (by show 2 * 0 + _ ≤ _; exact Nat.le_of_eq rfl) (by decide)
  have P2 : ∀ t, Steps p.tables e below (T1.setTop (mkF m 4 #[.val (.ref a1)] [])) t → Steps p.tables e below (s₁.setTop (entryFrame m #[(.ref a1)] 1)) t := fun t kt => pre0 t (by
    show Steps p.tables e below (s₁.setTop (mkF m 0 #[.val (.ref a1)] [])) _
    refine XS.aloadN X0.here hx rfl (hb hby d1_0) rfl rfl ?_
    show Steps p.tables e below (s₁.setTop (mkF m 1 #[.val (.ref a1)] [(.ref a1)])) _
    refine st1 _ ?_
    exact kt)
  obtain ⟨fs, hr, hrun, hended, hW, hsame⟩ := X1.leave (v := none) (fun _ => rfl)
  refine ⟨_, _, P2 _ ?_, hrun, hended, _, _, rfl, ?_, ⟨_, rfl⟩, hW, hsame.mono (by decide) (by decide)⟩
  · exact X1.returnOut hx Bd.returns (hb hby d1_4) hr
  · show QN Z a1 h0 n0 _ T1.heap _
    rw [e1]
    exact ⟨rfl, N0, rfl⟩
theorem d4_0 : decode jdk_29_method_66_code 0 = .ok (.lload_n 0, 1) := by decide +kernel
theorem d4_1 : decode jdk_29_method_66_code 1 = .ok (.lload_n 2, 1) := by decide +kernel
theorem d4_2 : decode jdk_29_method_66_code 2 = .ok (.lcmp, 1) := by decide +kernel
theorem d4_3 : decode jdk_29_method_66_code 3 = .ok (.ifCond .lt 7, 3) := by decide +kernel
theorem d4_6 : decode jdk_29_method_66_code 6 = .ok (.lload_n 0, 1) := by decide +kernel
theorem d4_7 : decode jdk_29_method_66_code 7 = .ok (.goto 4, 3) := by decide +kernel
theorem d4_10 : decode jdk_29_method_66_code 10 = .ok (.lload_n 2, 1) := by decide +kernel
theorem d4_11 : decode jdk_29_method_66_code 11 = .ok (.lreturn, 1) := by decide +kernel
theorem ef_rmM (m : MethodId) (x0 : Int64) (x1 : Int64) : entryFrame m #[(.long x0), (.long x1)] 4 = mkF m 0 #[.val (.long x0), .second, .val (.long x1), .second] [] := by first | (simp [entryFrame, mkF, argsToLocals, Value.category]; done) | rfl
def QM (Z : State) (p1 : Int64) (p2 : Int64) (h0 : Heap) (n0 : Nat) (v : Option Value) (h : Heap) (L : List Loc) : Prop := v = some (.long (own_max p1 p2)) ∧ Fr n0 L ∧ h = h0
set_option maxRecDepth 65536 in
set_option maxHeartbeats 40000000 in
theorem rmM (l : Launch) (Z : State) (a0 : Array Value) (hw : ∀ d ∈ tables_1, d.before a0 Z = true) (ws : List Jvm.Cond) (p1 : Int64) (p2 : Int64) (h0 : Heap) (n0 : Nat) (Z0 : n0 ≤ h0.size) :
    MetFree l (⟨"java/lang/Math", "max", "(JJ)J"⟩ : MethodName) (head1 (Jvm.Cond.code (⟨"java/lang/Math", "max", "(JJ)J"⟩ : MethodName) jdk_29_method_66_code 4 (some .long) :: ws) ({ frames := 0, cells := 0, slots := 0, locals := 0 } : Room)) (fun a U => a = #[(.long p1), (.long p2)] ∧ Z.Warmed39 U.vm ∧ U.heap = h0) (fun _ _ _ _ _ => True) (fun _ U o U' => ∃ v L, o = .returned v ∧ QM Z p1 p2 h0 n0 v U'.heap L ∧ FrameEnd U o U' L ({ frames := 0, cells := 0, slots := 0, locals := 0 } : Room).cells ({ frames := 0, cells := 0, slots := 0, locals := 0 } : Room).slots) := by
  refine MetFree.of_bodySF (Jvm.Free.JP.mathPlain rfl (by decide +kernel)) hisR ?_
  intro p e s m args below meth c s₁ Bd hml0 hP hK
  obtain ⟨rfl, hZ, hh⟩ := hP
  have hx := Bd.exec
  have hby := Bd.bytes
  have hml : c.maxLocals = 4 := hml0
  have hown : s.vm.findClass "java/lang/Math" = some m.cls := findClass_of_methodNamed Bd.named
  have hnm := (name_of_methodNamed Bd.named Bd.method).1
  have X0 : Stand p l e ({ frames := 0, cells := 0, slots := 0, locals := 0 } : Room) s m #[(.long p1), (.long p2)] below meth c s₁ [] 0 0 := Stand.of_body Bd
  have e0 : s₁.heap = h0 := by rw [← hh, Bd.state]; rfl
  have N0 := Fr.nil n0
  have pre0 : ∀ t, Steps p.tables e below (s₁.setTop (mkF m 0 #[.val (.long p1), .second, .val (.long p2), .second] [])) t → Steps p.tables e below (s₁.setTop (entryFrame m #[(.long p1), (.long p2)] 4)) t := fun t k => castTop (ef_rmM m p1 p2) k
  have P2 : ∀ t, Steps p.tables e below (s₁.setTop (mkF m 3 #[.val (.long p1), .second, .val (.long p2), .second] [(.int (XT.cmpL p1 p2))])) t → Steps p.tables e below (s₁.setTop (entryFrame m #[(.long p1), (.long p2)] 4)) t := fun t kt => pre0 t (by
    show Steps p.tables e below (s₁.setTop (mkF m 0 #[.val (.long p1), .second, .val (.long p2), .second] [])) _
    refine XT.lloadN X0.here hx rfl (hb hby d4_0) rfl ?_
    show Steps p.tables e below (s₁.setTop (mkF m 1 #[.val (.long p1), .second, .val (.long p2), .second] [(.long p1)])) _
    refine XT.lloadN X0.here hx rfl (hb hby d4_1) rfl ?_
    show Steps p.tables e below (s₁.setTop (mkF m 2 #[.val (.long p1), .second, .val (.long p2), .second] [(.long p2), (.long p1)])) _
    refine XT.lcmp X0.here hx rfl (hb hby d4_2) rfl ?_
    exact kt)
  by_cases hc3_1 : p1 < p2
  · skip
    have P3 : ∀ t, Steps p.tables e below (s₁.setTop (mkF m 11 #[.val (.long p1), .second, .val (.long p2), .second] [(.long p2)])) t → Steps p.tables e below (s₁.setTop (entryFrame m #[(.long p1), (.long p2)] 4)) t := fun t kt => P2 t (by
      show Steps p.tables e below (s₁.setTop (mkF m 3 #[.val (.long p1), .second, .val (.long p2), .second] [(.int (XT.cmpL p1 p2))])) _
      refine XS.ifYes X0.here hx rfl (pc0 := 3) (pc' := 10) rfl (hb hby d4_3) rfl (XT.ll_lt_t hc3_1) (by decide) (by decide) ?_
      show Steps p.tables e below (s₁.setTop (mkF m 10 #[.val (.long p1), .second, .val (.long p2), .second] [])) _
      refine XT.lloadN X0.here hx rfl (hb hby d4_10) rfl ?_
      exact kt)
    obtain ⟨fs, hr, hrun, hended, hW, hsame⟩ := X0.leave (v := some (.long p2)) (fun h => by rw [Bd.returns] at h; cases h)
    refine ⟨_, _, P3 _ ?_, hrun, hended, _, _, rfl, ?_, ⟨_, rfl⟩, hW, hsame.mono (by decide) (by decide)⟩
    · exact X0.lreturnOut hx Bd.returns (hb hby d4_11) hr
    · show QM Z p1 p2 h0 n0 _ s₁.heap _
      rw [e0]
      exact ⟨by simp [own_max, hc3_1], N0, rfl⟩
  · skip
    have P4 : ∀ t, Steps p.tables e below (s₁.setTop (mkF m 11 #[.val (.long p1), .second, .val (.long p2), .second] [(.long p1)])) t → Steps p.tables e below (s₁.setTop (entryFrame m #[(.long p1), (.long p2)] 4)) t := fun t kt => P2 t (by
      show Steps p.tables e below (s₁.setTop (mkF m 3 #[.val (.long p1), .second, .val (.long p2), .second] [(.int (XT.cmpL p1 p2))])) _
      refine XS.ifNo X0.here hx rfl (hb hby d4_3) rfl (XT.ll_lt_f hc3_1) ?_
      show Steps p.tables e below (s₁.setTop (mkF m 6 #[.val (.long p1), .second, .val (.long p2), .second] [])) _
      refine XT.lloadN X0.here hx rfl (hb hby d4_6) rfl ?_
      show Steps p.tables e below (s₁.setTop (mkF m 7 #[.val (.long p1), .second, .val (.long p2), .second] [(.long p1)])) _
      refine XS.goto X0.here hx rfl (pc0 := 7) (pc' := 11) rfl (hb hby d4_7) (by decide) (by decide) ?_
      exact kt)
    obtain ⟨fs, hr, hrun, hended, hW, hsame⟩ := X0.leave (v := some (.long p1)) (fun h => by rw [Bd.returns] at h; cases h)
    refine ⟨_, _, P4 _ ?_, hrun, hended, _, _, rfl, ?_, ⟨_, rfl⟩, hW, hsame.mono (by decide) (by decide)⟩
    · exact X0.lreturnOut hx Bd.returns (hb hby d4_11) hr
    · show QM Z p1 p2 h0 n0 _ s₁.heap _
      rw [e0]
      exact ⟨by simp [own_max, hc3_1], N0, rfl⟩
theorem d5_0 : decode jdk_29_method_38_code 0 = .ok (.lload_n 0, 1) := by decide +kernel
theorem d5_1 : decode jdk_29_method_38_code 1 = .ok (.ldc2_w 135, 3) := by decide +kernel
theorem d5_4 : decode jdk_29_method_38_code 4 = .ok (.lcmp, 1) := by decide +kernel
theorem d5_5 : decode jdk_29_method_38_code 5 = .ok (.ifCond .ne 13, 3) := by decide +kernel
theorem d5_18 : decode jdk_29_method_38_code 18 = .ok (.lload_n 0, 1) := by decide +kernel
theorem d5_19 : decode jdk_29_method_38_code 19 = .ok (.lconst 1, 1) := by decide +kernel
theorem d5_20 : decode jdk_29_method_38_code 20 = .ok (.ladd, 1) := by decide +kernel
theorem d5_21 : decode jdk_29_method_38_code 21 = .ok (.lreturn, 1) := by decide +kernel
theorem ef_rmI (m : MethodId) (x0 : Int64) : entryFrame m #[(.long x0)] 2 = mkF m 0 #[.val (.long x0), .second] [] := by first | (simp [entryFrame, mkF, argsToLocals, Value.category]; done) | rfl
def QI (Z : State) (p1 : Int64) (h0 : Heap) (n0 : Nat) (v : Option Value) (h : Heap) (L : List Loc) : Prop := v = some (.long (p1 + 1)) ∧ Fr n0 L ∧ h = h0
set_option maxRecDepth 65536 in
set_option maxHeartbeats 40000000 in
theorem rmI (l : Launch) (Z : State) (a0 : Array Value) (hw : ∀ d ∈ tables_1, d.before a0 Z = true) (ws : List Jvm.Cond) (p1 : Int64) (h0 : Heap) (n0 : Nat) (Z0 : n0 ≤ h0.size) (hm : ¬ p1 = (9223372036854775807 : Int64)) :
    MetFree l (⟨"java/lang/Math", "incrementExact", "(J)J"⟩ : MethodName) (head1 (Jvm.Cond.code (⟨"java/lang/Math", "incrementExact", "(J)J"⟩ : MethodName) jdk_29_method_38_code 2 (some .long) :: ws) ({ frames := 0, cells := 0, slots := 0, locals := 0 } : Room)) (fun a U => a = #[(.long p1)] ∧ Z.Warmed39 U.vm ∧ U.heap = h0) (fun _ _ _ _ _ => True) (fun _ U o U' => ∃ v L, o = .returned v ∧ QI Z p1 h0 n0 v U'.heap L ∧ FrameEnd U o U' L ({ frames := 0, cells := 0, slots := 0, locals := 0 } : Room).cells ({ frames := 0, cells := 0, slots := 0, locals := 0 } : Room).slots) := by
  refine MetFree.of_bodySF (Jvm.Free.JP.mathPlain rfl (by decide +kernel)) hisR ?_
  intro p e s m args below meth c s₁ Bd hml0 hP hK
  obtain ⟨rfl, hZ, hh⟩ := hP
  have hx := Bd.exec
  have hby := Bd.bytes
  have hml : c.maxLocals = 2 := hml0
  have hown : s.vm.findClass "java/lang/Math" = some m.cls := findClass_of_methodNamed Bd.named
  have hnm := (name_of_methodNamed Bd.named Bd.method).1
  have X0 : Stand p l e ({ frames := 0, cells := 0, slots := 0, locals := 0 } : Room) s m #[(.long p1)] below meth c s₁ [] 0 0 := Stand.of_body Bd
  have e0 : s₁.heap = h0 := by rw [← hh, Bd.state]; rfl
  have N0 := Fr.nil n0
  have pre0 : ∀ t, Steps p.tables e below (s₁.setTop (mkF m 0 #[.val (.long p1), .second] [])) t → Steps p.tables e below (s₁.setTop (entryFrame m #[(.long p1)] 2)) t := fun t k => castTop (ef_rmI m p1) k
  have hc5_1 : ¬ (p1 = (9223372036854775807 : Int64)) := hm
  have P2 : ∀ t, Steps p.tables e below (s₁.setTop (mkF m 21 #[.val (.long p1), .second] [(.long (p1 + (1 : Int64)))])) t → Steps p.tables e below (s₁.setTop (entryFrame m #[(.long p1)] 2)) t := fun t kt => pre0 t (by
    show Steps p.tables e below (s₁.setTop (mkF m 0 #[.val (.long p1), .second] [])) _
    refine XT.lloadN X0.here hx rfl (hb hby d5_0) rfl ?_
    show Steps p.tables e below (s₁.setTop (mkF m 1 #[.val (.long p1), .second] [(.long p1)])) _
    refine X0.ldc2J hx hown (mvT hZ (hw _ (List.mem_of_getElem? (i := 25) rfl))) rfl (hb hby d5_1) ?_
    show Steps p.tables e below (s₁.setTop (mkF m 4 #[.val (.long p1), .second] [(.long (9223372036854775807 : Int64)), (.long p1)])) _
    refine XT.lcmp X0.here hx rfl (hb hby d5_4) rfl ?_
    show Steps p.tables e below (s₁.setTop (mkF m 5 #[.val (.long p1), .second] [(.int (XT.cmpL p1 (9223372036854775807 : Int64)))])) _
    refine XS.ifYes X0.here hx rfl (pc0 := 5) (pc' := 18) rfl (hb hby d5_5) rfl (XT.ll_ne_t hc5_1) (by decide) (by decide) ?_
    show Steps p.tables e below (s₁.setTop (mkF m 18 #[.val (.long p1), .second] [])) _
    refine XT.lloadN X0.here hx rfl (hb hby d5_18) rfl ?_
    show Steps p.tables e below (s₁.setTop (mkF m 19 #[.val (.long p1), .second] [(.long p1)])) _
    refine XT.lconst X0.here hx rfl (hb hby d5_19) ?_
    show Steps p.tables e below (s₁.setTop (mkF m 20 #[.val (.long p1), .second] [(.long (1 : Int64)), (.long p1)])) _
    refine XT.ladd X0.here hx rfl (hb hby d5_20) rfl ?_
    exact kt)
  obtain ⟨fs, hr, hrun, hended, hW, hsame⟩ := X0.leave (v := some (.long (p1 + (1 : Int64)))) (fun h => by rw [Bd.returns] at h; cases h)
  refine ⟨_, _, P2 _ ?_, hrun, hended, _, _, rfl, ?_, ⟨_, rfl⟩, hW, hsame.mono (by decide) (by decide)⟩
  · exact X0.lreturnOut hx Bd.returns (hb hby d5_21) hr
  · show QI Z p1 h0 n0 _ s₁.heap _
    rw [e0]
    exact ⟨rfl, N0, rfl⟩
theorem d6_0 : decode prog_6_method_2_code 0 = .ok (.aload_n 0, 1) := by decide +kernel
theorem d6_1 : decode prog_6_method_2_code 1 = .ok (.getfield 7, 3) := by decide +kernel
theorem d6_4 : decode prog_6_method_2_code 4 = .ok (.lreturn, 1) := by decide +kernel
theorem ef_rmT (m : MethodId) (x0 : Addr) : entryFrame m #[(.ref x0)] 1 = mkF m 0 #[.val (.ref x0)] [] := by first | (simp [entryFrame, mkF, argsToLocals, Value.category]; done) | rfl
def QT (Z : State) (a1 : Addr) (t1 : Int64) (h0 : Heap) (n0 : Nat) (v : Option Value) (h : Heap) (L : List Loc) : Prop := v = some (.long t1) ∧ Fr n0 L ∧ h = h0
set_option maxRecDepth 65536 in
set_option maxHeartbeats 40000000 in
theorem rmT (l : Launch) (Z : State) (a0 : Array Value) (hw : ∀ d ∈ tables_1, d.before a0 Z = true) (ws : List Jvm.Cond) (a1 : Addr) (t1 : Int64) (h0 : Heap) (n0 : Nat) (Z0 : n0 ≤ h0.size) (E_a1 : Exa Z h0 a1 "com/example/anchovy/anchovy/clock/LamportClock") (F_a1_time : Fld Z h0 a1 "com/example/anchovy/anchovy/clock/LamportClock" "time" "J" (.long t1)) :
    MetFree l (⟨"com/example/anchovy/anchovy/clock/LamportClock", "time", "()J"⟩ : MethodName) (head1 (Jvm.Cond.code (⟨"com/example/anchovy/anchovy/clock/LamportClock", "time", "()J"⟩ : MethodName) prog_6_method_2_code 1 (some .long) :: ws) ({ frames := 0, cells := 0, slots := 0, locals := 0 } : Room)) (fun a U => a = #[(.ref a1)] ∧ Z.Warmed39 U.vm ∧ U.heap = h0) (fun _ _ _ _ _ => True) (fun _ U o U' => ∃ v L, o = .returned v ∧ QT Z a1 t1 h0 n0 v U'.heap L ∧ FrameEnd U o U' L ({ frames := 0, cells := 0, slots := 0, locals := 0 } : Room).cells ({ frames := 0, cells := 0, slots := 0, locals := 0 } : Room).slots) := by
  refine MetFree.of_bodySF (plainFor_of_name pn_0) hisR ?_
  intro p e s m args below meth c s₁ Bd hml0 hP hK
  obtain ⟨rfl, hZ, hh⟩ := hP
  have hx := Bd.exec
  have hby := Bd.bytes
  have hml : c.maxLocals = 1 := hml0
  have hown : s.vm.findClass "com/example/anchovy/anchovy/clock/LamportClock" = some m.cls := findClass_of_methodNamed Bd.named
  have hnm := (name_of_methodNamed Bd.named Bd.method).1
  have X0 : Stand p l e ({ frames := 0, cells := 0, slots := 0, locals := 0 } : Room) s m #[(.ref a1)] below meth c s₁ [] 0 0 := Stand.of_body Bd
  have e0 : s₁.heap = h0 := by rw [← hh, Bd.state]; rfl
  have N0 := Fr.nil n0
  have pre0 : ∀ t, Steps p.tables e below (s₁.setTop (mkF m 0 #[.val (.ref a1)] [])) t → Steps p.tables e below (s₁.setTop (entryFrame m #[(.ref a1)] 1)) t := fun t k => castTop (ef_rmT m a1) k
  obtain ⟨T1, X1, e1, st1⟩ := getF X0 hx hZ hown (host := "") (Or.inl (hw _ (List.mem_of_getElem? (i := 16) rfl))) Via.refl e0 F_a1_time (g := (mkF m 1 #[.val (.ref a1)] [(.ref a1)])) rfl rfl (hb hby d6_1)
  have P2 : ∀ t, Steps p.tables e below (T1.setTop (mkF m 4 #[.val (.ref a1)] [(.long t1)])) t → Steps p.tables e below (s₁.setTop (entryFrame m #[(.ref a1)] 1)) t := fun t kt => pre0 t (by
    show Steps p.tables e below (s₁.setTop (mkF m 0 #[.val (.ref a1)] [])) _
    refine XS.aloadN X0.here hx rfl (hb hby d6_0) rfl rfl ?_
    show Steps p.tables e below (s₁.setTop (mkF m 1 #[.val (.ref a1)] [(.ref a1)])) _
    refine st1 _ ?_
    exact kt)
  obtain ⟨fs, hr, hrun, hended, hW, hsame⟩ := X1.leave (v := some (.long t1)) (fun h => by rw [Bd.returns] at h; cases h)
  refine ⟨_, _, P2 _ ?_, hrun, hended, _, _, rfl, ?_, ⟨_, rfl⟩, hW, hsame.mono (by decide) (by decide)⟩
  · exact X1.lreturnOut hx Bd.returns (hb hby d6_4) hr
  · show QT Z a1 t1 h0 n0 _ T1.heap _
    rw [e1]
    exact ⟨rfl, N0, rfl⟩
theorem d7_0 : decode prog_6_method_3_code 0 = .ok (.aload_n 0, 1) := by decide +kernel
theorem d7_1 : decode prog_6_method_3_code 1 = .ok (.aload_n 0, 1) := by decide +kernel
theorem d7_2 : decode prog_6_method_3_code 2 = .ok (.getfield 7, 3) := by decide +kernel
theorem d7_5 : decode prog_6_method_3_code 5 = .ok (.invokestatic 13, 3) := by decide +kernel
theorem d7_8 : decode prog_6_method_3_code 8 = .ok (.putfield 7, 3) := by decide +kernel
theorem d7_11 : decode prog_6_method_3_code 11 = .ok (.aload_n 0, 1) := by decide +kernel
theorem d7_12 : decode prog_6_method_3_code 12 = .ok (.getfield 7, 3) := by decide +kernel
theorem d7_15 : decode prog_6_method_3_code 15 = .ok (.lreturn, 1) := by decide +kernel
theorem pd_0 : parseMethodDescriptor "(J)J" = some ⟨[.long], some .long⟩ := by decide +kernel
theorem ef_rmS (m : MethodId) (x0 : Addr) : entryFrame m #[(.ref x0)] 1 = mkF m 0 #[.val (.ref x0)] [] := by first | (simp [entryFrame, mkF, argsToLocals, Value.category]; done) | rfl
def QS (Z : State) (a1 : Addr) (t1 : Int64) (h0 : Heap) (n0 : Nat) (v : Option Value) (h : Heap) (L : List Loc) : Prop := v = some (.long (t1 + (1 : Int64))) ∧ Fr n0 L ∧ Keep h0 h [a1] ∧ Exa Z h a1 "com/example/anchovy/anchovy/clock/LamportClock" ∧ Fld Z h a1 "com/example/anchovy/anchovy/clock/LamportClock" "time" "J" (.long (t1 + (1 : Int64)))
set_option maxRecDepth 65536 in
set_option maxHeartbeats 40000000 in
theorem rmS (l : Launch) (Z : State) (a0 : Array Value) (hw : ∀ d ∈ tables_1, d.before a0 Z = true) (ws : List Jvm.Cond) (a1 : Addr) (t1 : Int64) (h0 : Heap) (n0 : Nat) (Z0 : n0 ≤ h0.size) (E_a1 : Exa Z h0 a1 "com/example/anchovy/anchovy/clock/LamportClock") (F_a1_time : Fld Z h0 a1 "com/example/anchovy/anchovy/clock/LamportClock" "time" "J" (.long t1)) (g_a1 : n0 ≤ a1) (hm : ¬ t1 = (9223372036854775807 : Int64)) :
    MetFree l (⟨"com/example/anchovy/anchovy/clock/LamportClock", "onSend", "()J"⟩ : MethodName) (head1 (Jvm.Cond.code (⟨"com/example/anchovy/anchovy/clock/LamportClock", "onSend", "()J"⟩ : MethodName) prog_6_method_3_code 1 (some .long) :: ws) ({ frames := 1, cells := 0, slots := 0, locals := 14 } : Room)) (fun a U => a = #[(.ref a1)] ∧ Z.Warmed39 U.vm ∧ U.heap = h0) (fun _ _ _ _ _ => True) (fun _ U o U' => ∃ v L, o = .returned v ∧ QS Z a1 t1 h0 n0 v U'.heap L ∧ FrameEnd U o U' L ({ frames := 1, cells := 0, slots := 0, locals := 14 } : Room).cells ({ frames := 1, cells := 0, slots := 0, locals := 14 } : Room).slots) := by
  refine MetFree.of_bodySF (plainFor_of_name pn_0) hisR ?_
  intro p e s m args below meth c s₁ Bd hml0 hP hK
  obtain ⟨rfl, hZ, hh⟩ := hP
  have hx := Bd.exec
  have hby := Bd.bytes
  have hml : c.maxLocals = 1 := hml0
  have hown : s.vm.findClass "com/example/anchovy/anchovy/clock/LamportClock" = some m.cls := findClass_of_methodNamed Bd.named
  have hnm := (name_of_methodNamed Bd.named Bd.method).1
  have X0 : Stand p l e ({ frames := 1, cells := 0, slots := 0, locals := 14 } : Room) s m #[(.ref a1)] below meth c s₁ [] 0 0 := Stand.of_body Bd
  have e0 : s₁.heap = h0 := by rw [← hh, Bd.state]; rfl
  have N0 := Fr.nil n0
  have pre0 : ∀ t, Steps p.tables e below (s₁.setTop (mkF m 0 #[.val (.ref a1)] [])) t → Steps p.tables e below (s₁.setTop (entryFrame m #[(.ref a1)] 1)) t := fun t k => castTop (ef_rmS m a1) k
  have K0 := Keep.refl h0 [a1]
  obtain ⟨T1, X1, e1, st1⟩ := getF X0 hx hZ hown (host := "") (Or.inl (hw _ (List.mem_of_getElem? (i := 16) rfl))) Via.refl e0 F_a1_time (g := (mkF m 2 #[.val (.ref a1)] [(.ref a1), (.ref a1)])) rfl rfl (hb hby d7_2)
  obtain ⟨_, _, ⟨T2, L2, k2, n2⟩, -, X2, ⟨Lc2, hQ2, l2, y2, z2⟩, st2⟩ := Jvm.LawKit.callS X1 hx (y := (⟨"java/lang/Math", "incrementExact", "(J)J"⟩ : MethodName)) hown (mvT hZ (hw _ (List.mem_of_getElem? (i := 22) rfl))) (mvT hZ (hw _ (List.mem_of_getElem? (i := 23) rfl))) (mvT hZ (hw _ (List.mem_of_getElem? (i := 20) rfl))) (mvT hZ (hw _ (List.mem_of_getElem? (i := 24) rfl))) (by decide) (backOf (W := 1) (rmI l Z a0 hw [] t1 h0 n0 Z0 hm) hZ (hw _ (List.mem_of_getElem? (i := 24) rfl)) (hw _ (List.mem_of_getElem? (i := 20) rfl)) (by decide) (by decide)) (g := (mkF m 5 #[.val (.ref a1)] [(.long t1), (.ref a1)])) rfl (by rw [hml]; rfl) (argsL := [(.long t1)]) (rest := [(.ref a1)]) (lenOf pd_0 rfl) rfl (by show 2 * 0 + _ ≤ _; exact Nat.le_of_eq rfl) (hb hby d7_5) (fun _ _ => ⟨rfl, e1, (by decide : 0 + 0 ≤ _), (by decide : 0 + 0 ≤ _)⟩)
  dsimp only [Pt.U, Pt.locs, Pt.cells, Pt.slots] at X2 l2 y2 z2 st2 hQ2
  subst l2 y2 z2
  obtain ⟨rfl, N2q, e2⟩ := hQ2
  have N2 := Fr.app N0 N2q
  obtain ⟨T3, h3, X3, e3, W3, st3⟩ := putF X2 hx hZ hown (host := "") (Or.inl (hw _ (List.mem_of_getElem? (i := 16) rfl))) Via.refl e2 F_a1_time E_a1 (Or.inl (hw _ (List.mem_of_getElem? (i := 17) rfl))) (hw _ (List.mem_of_getElem? (i := 1) rfl)) (ty := .long) (by decide) rfl rfl (g := (mkF m 8 #[.val (.ref a1)] [(.long (t1 + (1 : Int64))), (.ref a1)])) rfl rfl (hb hby d7_8)
  have c4 := E_a1.wr W3
  have Zs3 : n0 ≤ h3.size := Nat.le_trans Z0 (Keep.of_wr W3).1
  have K3 := K0.wr W3 (Or.inl (List.mem_of_getElem? (i := 0) rfl))
  have N3 := Fr.snoc X3 N2 g_a1
  have Fw3 := F_a1_time.same W3
  obtain ⟨T5, X5, e5, st5⟩ := getF X3 hx hZ hown (host := "") (Or.inl (hw _ (List.mem_of_getElem? (i := 16) rfl))) Via.refl e3 Fw3 (g := (mkF m 12 #[.val (.ref a1)] [(.ref a1)])) rfl rfl (hb hby d7_12)
  have P6 : ∀ t, Steps p.tables e below (T5.setTop (mkF m 15 #[.val (.ref a1)] [(.long (t1 + (1 : Int64)))])) t → Steps p.tables e below (s₁.setTop (entryFrame m #[(.ref a1)] 1)) t := fun t kt => pre0 t (by
    show Steps p.tables e below (s₁.setTop (mkF m 0 #[.val (.ref a1)] [])) _
    refine XS.aloadN X0.here hx rfl (hb hby d7_0) rfl rfl ?_
    show Steps p.tables e below (s₁.setTop (mkF m 1 #[.val (.ref a1)] [(.ref a1)])) _
    refine XS.aloadN X0.here hx rfl (hb hby d7_1) rfl rfl ?_
    show Steps p.tables e below (s₁.setTop (mkF m 2 #[.val (.ref a1)] [(.ref a1), (.ref a1)])) _
    refine st1 _ ?_
    show Steps p.tables e below (T1.setTop (mkF m 5 #[.val (.ref a1)] [(.long t1), (.ref a1)])) _
    refine st2 _ ?_
    show Steps p.tables e below (T2.setTop (mkF m 8 #[.val (.ref a1)] [(.long (t1 + (1 : Int64))), (.ref a1)])) _
    refine st3 _ ?_
    show Steps p.tables e below (T3.setTop (mkF m 11 #[.val (.ref a1)] [])) _
    refine XS.aloadN X3.here hx rfl (hb hby d7_11) rfl rfl ?_
    show Steps p.tables e below (T3.setTop (mkF m 12 #[.val (.ref a1)] [(.ref a1)])) _
    refine st5 _ ?_
    exact kt)
  obtain ⟨fs, hr, hrun, hended, hW, hsame⟩ := X5.leave (v := some (.long (t1 + (1 : Int64)))) (fun h => by rw [Bd.returns] at h; cases h)
  refine ⟨_, _, P6 _ ?_, hrun, hended, _, _, rfl, ?_, ⟨_, rfl⟩, hW, hsame.mono (by decide) (by decide)⟩
  · exact X5.lreturnOut hx Bd.returns (hb hby d7_15) hr
  · show QS Z a1 t1 h0 n0 _ T5.heap _
    rw [e5]
    exact ⟨rfl, N3, K3, c4, Fw3⟩
theorem d3_0 : decode prog_6_method_4_code 0 = .ok (.lload_n 1, 1) := by decide +kernel
theorem d3_1 : decode prog_6_method_4_code 1 = .ok (.lconst 0, 1) := by decide +kernel
theorem d3_2 : decode prog_6_method_4_code 2 = .ok (.lcmp, 1) := by decide +kernel
theorem d3_3 : decode prog_6_method_4_code 3 = .ok (.ifCond .ge 17, 3) := by decide +kernel
theorem d3_20 : decode prog_6_method_4_code 20 = .ok (.aload_n 0, 1) := by decide +kernel
theorem d3_21 : decode prog_6_method_4_code 21 = .ok (.aload_n 0, 1) := by decide +kernel
theorem d3_22 : decode prog_6_method_4_code 22 = .ok (.getfield 7, 3) := by decide +kernel
theorem d3_25 : decode prog_6_method_4_code 25 = .ok (.lload_n 1, 1) := by decide +kernel
theorem d3_26 : decode prog_6_method_4_code 26 = .ok (.invokestatic 28, 3) := by decide +kernel
theorem d3_29 : decode prog_6_method_4_code 29 = .ok (.invokestatic 13, 3) := by decide +kernel
theorem d3_32 : decode prog_6_method_4_code 32 = .ok (.putfield 7, 3) := by decide +kernel
theorem d3_35 : decode prog_6_method_4_code 35 = .ok (.aload_n 0, 1) := by decide +kernel
theorem d3_36 : decode prog_6_method_4_code 36 = .ok (.getfield 7, 3) := by decide +kernel
theorem d3_39 : decode prog_6_method_4_code 39 = .ok (.lreturn, 1) := by decide +kernel
theorem pd_1 : parseMethodDescriptor "(JJ)J" = some ⟨[.long, .long], some .long⟩ := by decide +kernel
theorem ef_rmV (m : MethodId) (x0 : Addr) (x1 : Int64) : entryFrame m #[(.ref x0), (.long x1)] 3 = mkF m 0 #[.val (.ref x0), .val (.long x1), .second] [] := by first | (simp [entryFrame, mkF, argsToLocals, Value.category]; done) | rfl
def QV (Z : State) (a1 : Addr) (p2 : Int64) (t1 : Int64) (h0 : Heap) (n0 : Nat) (v : Option Value) (h : Heap) (L : List Loc) : Prop := v = some (.long ((own_max t1 p2) + (1 : Int64))) ∧ Fr n0 L ∧ Keep h0 h [a1] ∧ Exa Z h a1 "com/example/anchovy/anchovy/clock/LamportClock" ∧ Fld Z h a1 "com/example/anchovy/anchovy/clock/LamportClock" "time" "J" (.long ((own_max t1 p2) + (1 : Int64)))
set_option maxRecDepth 65536 in
set_option maxHeartbeats 40000000 in
theorem rmV (l : Launch) (Z : State) (a0 : Array Value) (hw : ∀ d ∈ tables_1, d.before a0 Z = true) (ws : List Jvm.Cond) (a1 : Addr) (p2 : Int64) (t1 : Int64) (h0 : Heap) (n0 : Nat) (Z0 : n0 ≤ h0.size) (E_a1 : Exa Z h0 a1 "com/example/anchovy/anchovy/clock/LamportClock") (F_a1_time : Fld Z h0 a1 "com/example/anchovy/anchovy/clock/LamportClock" "time" "J" (.long t1)) (g_a1 : n0 ≤ a1) (hp : ¬ p2 < (0 : Int64)) (hm : ¬ own_max t1 p2 = (9223372036854775807 : Int64)) :
    MetFree l (⟨"com/example/anchovy/anchovy/clock/LamportClock", "onReceive", "(J)J"⟩ : MethodName) (head1 (Jvm.Cond.code (⟨"com/example/anchovy/anchovy/clock/LamportClock", "onReceive", "(J)J"⟩ : MethodName) prog_6_method_4_code 3 (some .long) :: ws) ({ frames := 1, cells := 0, slots := 0, locals := 16 } : Room)) (fun a U => a = #[(.ref a1), (.long p2)] ∧ Z.Warmed39 U.vm ∧ U.heap = h0) (fun _ _ _ _ _ => True) (fun _ U o U' => ∃ v L, o = .returned v ∧ QV Z a1 p2 t1 h0 n0 v U'.heap L ∧ FrameEnd U o U' L ({ frames := 1, cells := 0, slots := 0, locals := 16 } : Room).cells ({ frames := 1, cells := 0, slots := 0, locals := 16 } : Room).slots) := by
  refine MetFree.of_bodySF (plainFor_of_name pn_0) hisR ?_
  intro p e s m args below meth c s₁ Bd hml0 hP hK
  obtain ⟨rfl, hZ, hh⟩ := hP
  have hx := Bd.exec
  have hby := Bd.bytes
  have hml : c.maxLocals = 3 := hml0
  have hown : s.vm.findClass "com/example/anchovy/anchovy/clock/LamportClock" = some m.cls := findClass_of_methodNamed Bd.named
  have hnm := (name_of_methodNamed Bd.named Bd.method).1
  have X0 : Stand p l e ({ frames := 1, cells := 0, slots := 0, locals := 16 } : Room) s m #[(.ref a1), (.long p2)] below meth c s₁ [] 0 0 := Stand.of_body Bd
  have e0 : s₁.heap = h0 := by rw [← hh, Bd.state]; rfl
  have N0 := Fr.nil n0
  have pre0 : ∀ t, Steps p.tables e below (s₁.setTop (mkF m 0 #[.val (.ref a1), .val (.long p2), .second] [])) t → Steps p.tables e below (s₁.setTop (entryFrame m #[(.ref a1), (.long p2)] 3)) t := fun t k => castTop (ef_rmV m a1 p2) k
  have K0 := Keep.refl h0 [a1]
  have hc3_1 : ¬ (p2 < (0 : Int64)) := hp
  obtain ⟨T2, X2, e2, st2⟩ := getF X0 hx hZ hown (host := "") (Or.inl (hw _ (List.mem_of_getElem? (i := 16) rfl))) Via.refl e0 F_a1_time (g := (mkF m 22 #[.val (.ref a1), .val (.long p2), .second] [(.ref a1), (.ref a1)])) rfl rfl (hb hby d3_22)
  obtain ⟨_, _, ⟨T3, L3, k3, n3⟩, -, X3, ⟨Lc3, hQ3, l3, y3, z3⟩, st3⟩ := Jvm.LawKit.callS X2 hx (y := (⟨"java/lang/Math", "max", "(JJ)J"⟩ : MethodName)) hown (mvT hZ (hw _ (List.mem_of_getElem? (i := 18) rfl))) (mvT hZ (hw _ (List.mem_of_getElem? (i := 19) rfl))) (mvT hZ (hw _ (List.mem_of_getElem? (i := 20) rfl))) (mvT hZ (hw _ (List.mem_of_getElem? (i := 21) rfl))) (by decide) (backOf (W := 1) (rmM l Z a0 hw [] t1 p2 h0 n0 Z0) hZ (hw _ (List.mem_of_getElem? (i := 21) rfl)) (hw _ (List.mem_of_getElem? (i := 20) rfl)) (by decide) (by decide)) (g := (mkF m 26 #[.val (.ref a1), .val (.long p2), .second] [(.long p2), (.long t1), (.ref a1)])) rfl (by rw [hml]; rfl) (argsL := [(.long t1), (.long p2)]) (rest := [(.ref a1)]) (lenOf pd_1 rfl) rfl (by show 2 * 0 + _ ≤ _; exact Nat.le_of_eq rfl) (hb hby d3_26) (fun _ _ => ⟨rfl, e2, (by decide : 0 + 0 ≤ _), (by decide : 0 + 0 ≤ _)⟩)
  dsimp only [Pt.U, Pt.locs, Pt.cells, Pt.slots] at X3 l3 y3 z3 st3 hQ3
  subst l3 y3 z3
  obtain ⟨rfl, N3q, e3⟩ := hQ3
  have N3 := Fr.app N0 N3q
  obtain ⟨_, _, ⟨T4, L4, k4, n4⟩, -, X4, ⟨Lc4, hQ4, l4, y4, z4⟩, st4⟩ := Jvm.LawKit.callS X3 hx (y := (⟨"java/lang/Math", "incrementExact", "(J)J"⟩ : MethodName)) hown (mvT hZ (hw _ (List.mem_of_getElem? (i := 22) rfl))) (mvT hZ (hw _ (List.mem_of_getElem? (i := 23) rfl))) (mvT hZ (hw _ (List.mem_of_getElem? (i := 20) rfl))) (mvT hZ (hw _ (List.mem_of_getElem? (i := 24) rfl))) (by decide) (backOf (W := 1) (rmI l Z a0 hw [] (own_max t1 p2) h0 n0 Z0 hm) hZ (hw _ (List.mem_of_getElem? (i := 24) rfl)) (hw _ (List.mem_of_getElem? (i := 20) rfl)) (by decide) (by decide)) (g := (mkF m 29 #[.val (.ref a1), .val (.long p2), .second] [(.long (own_max t1 p2)), (.ref a1)])) rfl (by rw [hml]; rfl) (argsL := [(.long (own_max t1 p2))]) (rest := [(.ref a1)]) (lenOf pd_0 rfl) rfl (by show 2 * 0 + _ ≤ _; exact Nat.le_of_eq rfl) (hb hby d3_29) (fun _ _ => ⟨rfl, e3, (by decide : 0 + 0 ≤ _), (by decide : 0 + 0 ≤ _)⟩)
  dsimp only [Pt.U, Pt.locs, Pt.cells, Pt.slots] at X4 l4 y4 z4 st4 hQ4
  subst l4 y4 z4
  obtain ⟨rfl, N4q, e4⟩ := hQ4
  have N4 := Fr.app N3 N4q
  obtain ⟨T5, h5, X5, e5, W5, st5⟩ := putF X4 hx hZ hown (host := "") (Or.inl (hw _ (List.mem_of_getElem? (i := 16) rfl))) Via.refl e4 F_a1_time E_a1 (Or.inl (hw _ (List.mem_of_getElem? (i := 17) rfl))) (hw _ (List.mem_of_getElem? (i := 1) rfl)) (ty := .long) (by decide) rfl rfl (g := (mkF m 32 #[.val (.ref a1), .val (.long p2), .second] [(.long ((own_max t1 p2) + (1 : Int64))), (.ref a1)])) rfl rfl (hb hby d3_32)
  have c6 := E_a1.wr W5
  have Zs5 : n0 ≤ h5.size := Nat.le_trans Z0 (Keep.of_wr W5).1
  have K5 := K0.wr W5 (Or.inl (List.mem_of_getElem? (i := 0) rfl))
  have N5 := Fr.snoc X5 N4 g_a1
  have Fw5 := F_a1_time.same W5
  obtain ⟨T7, X7, e7, st7⟩ := getF X5 hx hZ hown (host := "") (Or.inl (hw _ (List.mem_of_getElem? (i := 16) rfl))) Via.refl e5 Fw5 (g := (mkF m 36 #[.val (.ref a1), .val (.long p2), .second] [(.ref a1)])) rfl rfl (hb hby d3_36)
  have P8 : ∀ t, Steps p.tables e below (T7.setTop (mkF m 39 #[.val (.ref a1), .val (.long p2), .second] [(.long ((own_max t1 p2) + (1 : Int64)))])) t → Steps p.tables e below (s₁.setTop (entryFrame m #[(.ref a1), (.long p2)] 3)) t := fun t kt => pre0 t (by
    show Steps p.tables e below (s₁.setTop (mkF m 0 #[.val (.ref a1), .val (.long p2), .second] [])) _
    refine XT.lloadN X0.here hx rfl (hb hby d3_0) rfl ?_
    show Steps p.tables e below (s₁.setTop (mkF m 1 #[.val (.ref a1), .val (.long p2), .second] [(.long p2)])) _
    refine XT.lconst X0.here hx rfl (hb hby d3_1) ?_
    show Steps p.tables e below (s₁.setTop (mkF m 2 #[.val (.ref a1), .val (.long p2), .second] [(.long (0 : Int64)), (.long p2)])) _
    refine XT.lcmp X0.here hx rfl (hb hby d3_2) rfl ?_
    show Steps p.tables e below (s₁.setTop (mkF m 3 #[.val (.ref a1), .val (.long p2), .second] [(.int (XT.cmpL p2 (0 : Int64)))])) _
    refine XS.ifYes X0.here hx rfl (pc0 := 3) (pc' := 20) rfl (hb hby d3_3) rfl (XT.ll_ge_t hc3_1) (by decide) (by decide) ?_
    show Steps p.tables e below (s₁.setTop (mkF m 20 #[.val (.ref a1), .val (.long p2), .second] [])) _
    refine XS.aloadN X0.here hx rfl (hb hby d3_20) rfl rfl ?_
    show Steps p.tables e below (s₁.setTop (mkF m 21 #[.val (.ref a1), .val (.long p2), .second] [(.ref a1)])) _
    refine XS.aloadN X0.here hx rfl (hb hby d3_21) rfl rfl ?_
    show Steps p.tables e below (s₁.setTop (mkF m 22 #[.val (.ref a1), .val (.long p2), .second] [(.ref a1), (.ref a1)])) _
    refine st2 _ ?_
    show Steps p.tables e below (T2.setTop (mkF m 25 #[.val (.ref a1), .val (.long p2), .second] [(.long t1), (.ref a1)])) _
    refine XT.lloadN X2.here hx rfl (hb hby d3_25) rfl ?_
    show Steps p.tables e below (T2.setTop (mkF m 26 #[.val (.ref a1), .val (.long p2), .second] [(.long p2), (.long t1), (.ref a1)])) _
    refine st3 _ ?_
    show Steps p.tables e below (T3.setTop (mkF m 29 #[.val (.ref a1), .val (.long p2), .second] [(.long (own_max t1 p2)), (.ref a1)])) _
    refine st4 _ ?_
    show Steps p.tables e below (T4.setTop (mkF m 32 #[.val (.ref a1), .val (.long p2), .second] [(.long ((own_max t1 p2) + (1 : Int64))), (.ref a1)])) _
    refine st5 _ ?_
    show Steps p.tables e below (T5.setTop (mkF m 35 #[.val (.ref a1), .val (.long p2), .second] [])) _
    refine XS.aloadN X5.here hx rfl (hb hby d3_35) rfl rfl ?_
    show Steps p.tables e below (T5.setTop (mkF m 36 #[.val (.ref a1), .val (.long p2), .second] [(.ref a1)])) _
    refine st7 _ ?_
    exact kt)
  obtain ⟨fs, hr, hrun, hended, hW, hsame⟩ := X7.leave (v := some (.long ((own_max t1 p2) + (1 : Int64)))) (fun h => by rw [Bd.returns] at h; cases h)
  refine ⟨_, _, P8 _ ?_, hrun, hended, _, _, rfl, ?_, ⟨_, rfl⟩, hW, hsame.mono (by decide) (by decide)⟩
  · exact X7.lreturnOut hx Bd.returns (hb hby d3_39) hr
  · show QV Z a1 p2 t1 h0 n0 _ T7.heap _
    rw [e7]
    exact ⟨rfl, N5, K5, c6, Fw5⟩
theorem pn_1 : plainName "com/example/anchovy/anchovy/clock/LamportClockOnSendPinLaw" = true := by first | (simp [plainName, overriddenIn]; done) | decide +kernel
theorem pd_2 : parseMethodDescriptor "()V" = some ⟨[], none⟩ := by decide +kernel
theorem pd_3 : parseMethodDescriptor "()J" = some ⟨[], some .long⟩ := by decide +kernel
theorem ef_rm0 (m : MethodId) (x0 : Int64) (x1 : Int32) : entryFrame m #[(.long x0), (.int x1)] maxLocals = mkF m 0 #[.val (.long x0), .second, .val (.int x1), .unset, .unset, .unset, .unset, .unset, .unset, .unset, .unset, .unset, .unset, .unset, .unset] [] := by first | (simp [entryFrame, mkF, argsToLocals, Value.category, maxLocals]; done) | rfl
def Q0 (Z : State) (p1 : Int64) (p2 : Int32) (h0 : Heap) (n0 : Nat) (v : Option Value) (h : Heap) (L : List Loc) : Prop := v = some (.int 1) ∧ Fr n0 L
set_option maxRecDepth 65536 in
set_option maxHeartbeats 40000000 in
theorem rm0 (l : Launch) (Z : State) (a0 : Array Value) (hw : ∀ d ∈ tables_1, d.before a0 Z = true) (ws : List Jvm.Cond) (p1 : Int64) (p2 : Int32) (h0 : Heap) (n0 : Nat) (Z0 : n0 ≤ h0.size) :
    MetFree l x (head1 (Jvm.Cond.code x code maxLocals ret :: ws) room_1) (fun a U => a = #[(.long p1), (.int p2)] ∧ Z.Warmed39 U.vm ∧ U.heap = h0) (fun _ _ _ _ _ => True) (fun _ U o U' => ∃ v L, o = .returned v ∧ Q0 Z p1 p2 h0 n0 v U'.heap L ∧ FrameEnd U o U' L room_1.cells room_1.slots) := by
  refine MetFree.of_bodySF (plainFor_of_name pn_1) hisR ?_
  intro p e s m args below meth c s₁ Bd hml0 hP hK
  obtain ⟨rfl, hZ, hh⟩ := hP
  have hx := Bd.exec
  have hby := Bd.bytes
  have hml : c.maxLocals = 15 := hml0
  have hown : s.vm.findClass "com/example/anchovy/anchovy/clock/LamportClockOnSendPinLaw" = some m.cls := findClass_of_methodNamed Bd.named
  have hnm := (name_of_methodNamed Bd.named Bd.method).1
  have X0 : Stand p l e room_1 s m #[(.long p1), (.int p2)] below meth c s₁ [] 0 0 := Stand.of_body Bd
  have e0 : s₁.heap = h0 := by rw [← hh, Bd.state]; rfl
  have N0 := Fr.nil n0
  have pre0 : ∀ t, Steps p.tables e below (s₁.setTop (mkF m 0 #[.val (.long p1), .second, .val (.int p2), .unset, .unset, .unset, .unset, .unset, .unset, .unset, .unset, .unset, .unset, .unset, .unset] [])) t → Steps p.tables e below (s₁.setTop (entryFrame m #[(.long p1), (.int p2)] maxLocals)) t := fun t k => castTop (ef_rm0 m p1 p2) k
  obtain ⟨T1, h1, X1, e1, E1, A1, D1, -, st1⟩ := newO X0 hx hZ hown (hw _ (List.mem_of_getElem? (i := 0) rfl)) (hw _ (List.mem_of_getElem? (i := 1) rfl)) (hw _ (List.mem_of_getElem? (i := 2) rfl)) e0 (g := (mkF m 0 #[.val (.long p1), .second, .val (.int p2), .unset, .unset, .unset, .unset, .unset, .unset, .unset, .unset, .unset, .unset, .unset, .unset] [])) rfl (hb hby at_0) (by decide) (by decide)
  obtain ⟨b1, g1⟩ : ∃ z, z = h0.size := ⟨_, rfl⟩
  rw [← g1] at A1 D1 st1
  have g_b1 : n0 ≤ b1 := Nat.le_trans Z0 (Nat.le_of_eq g1.symm)
  have Zs1 : n0 ≤ h1.size := Nat.le_trans Z0 E1.1
  have F1_time : Fld Z h1 b1 "com/example/anchovy/anchovy/clock/LamportClock" "time" "J" (.long (0 : Int64)) := D1 (Or.inl (hw _ (List.mem_of_getElem? (i := 17) rfl))) (ty := .long) (by decide)
  obtain ⟨_, _, ⟨T2, L2, k2, n2⟩, -, X2, ⟨Lc2, hQ2, l2, y2, z2⟩, st2⟩ := X1.specialBack hx (y := (⟨"com/example/anchovy/anchovy/clock/LamportClock", "<init>", "()V"⟩ : MethodName)) rfl hown (mvT hZ (hw _ (List.mem_of_getElem? (i := 3) rfl))) (mvT hZ (hw _ (List.mem_of_getElem? (i := 4) rfl))) (mvT hZ (hw _ (List.mem_of_getElem? (i := 5) rfl))) (by decide) (backOf (W := 1) (rmN l Z a0 hw [] b1 h1 n0 Zs1) hZ (hw _ (List.mem_of_getElem? (i := 5) rfl)) (hw _ (List.mem_of_getElem? (i := 2) rfl)) (by decide) (by decide)) (g := (mkF m 4 #[.val (.long p1), .second, .val (.int p2), .unset, .unset, .unset, .unset, .unset, .unset, .unset, .unset, .unset, .unset, .unset, .unset] [(.ref b1), (.ref b1)])) rfl (by rw [hml]; rfl) (Steps.refl _) (a := b1) (argsL := []) (rest := [(.ref b1)]) (lenOf pd_2 rfl) rfl (by show 2 * 0 + _ ≤ _; exact Nat.le_of_eq rfl) (hb hby at_4) (fun _ _ => ⟨rfl, e1, (by decide : 1 + 0 ≤ _), (by decide : 1 + 0 ≤ _)⟩)
  dsimp only [Pt.U, Pt.locs, Pt.cells, Pt.slots] at X2 l2 y2 z2 st2 hQ2
  subst l2 y2 z2
  obtain ⟨rfl, N2q, e2⟩ := hQ2
  have N2 := Fr.app N0 N2q
  have P4 : ∀ t, Steps p.tables e below (T2.setTop (mkF m 11 #[.val (.long p1), .second, .val (.int p2), .val (.ref b1), .unset, .unset, .unset, .unset, .unset, .unset, .unset, .unset, .unset, .unset, .unset] [(.int (p2 &&& (1 : Int32)))])) t → Steps p.tables e below (s₁.setTop (entryFrame m #[(.long p1), (.int p2)] maxLocals)) t := fun t kt => pre0 t (by
    show Steps p.tables e below (s₁.setTop (mkF m 0 #[.val (.long p1), .second, .val (.int p2), .unset, .unset, .unset, .unset, .unset, .unset, .unset, .unset, .unset, .unset, .unset, .unset] [])) _
    refine st1 _ ?_
    show Steps p.tables e below (T1.setTop (mkF m 3 #[.val (.long p1), .second, .val (.int p2), .unset, .unset, .unset, .unset, .unset, .unset, .unset, .unset, .unset, .unset, .unset, .unset] [(.ref b1)])) _
    refine XS.dup X1.here hx rfl (hb hby at_3) rfl rfl ?_
    show Steps p.tables e below (T1.setTop (mkF m 4 #[.val (.long p1), .second, .val (.int p2), .unset, .unset, .unset, .unset, .unset, .unset, .unset, .unset, .unset, .unset, .unset, .unset] [(.ref b1), (.ref b1)])) _
    refine st2.trans ?_
    show Steps p.tables e below (T2.setTop (mkF m 7 #[.val (.long p1), .second, .val (.int p2), .unset, .unset, .unset, .unset, .unset, .unset, .unset, .unset, .unset, .unset, .unset, .unset] [(.ref b1)])) _
    refine XS.astoreN X2.here hx rfl (hb hby at_7) rfl rfl (l' := #[.val (.long p1), .second, .val (.int p2), .val (.ref b1), .unset, .unset, .unset, .unset, .unset, .unset, .unset, .unset, .unset, .unset, .unset]) rfl ?_
    show Steps p.tables e below (T2.setTop (mkF m 8 #[.val (.long p1), .second, .val (.int p2), .val (.ref b1), .unset, .unset, .unset, .unset, .unset, .unset, .unset, .unset, .unset, .unset, .unset] [])) _
    refine XS.iloadN X2.here hx rfl (hb hby at_8) rfl ?_
    show Steps p.tables e below (T2.setTop (mkF m 9 #[.val (.long p1), .second, .val (.int p2), .val (.ref b1), .unset, .unset, .unset, .unset, .unset, .unset, .unset, .unset, .unset, .unset, .unset] [(.int p2)])) _
    refine XS.iconst X2.here hx rfl (hb hby at_9) ?_
    show Steps p.tables e below (T2.setTop (mkF m 10 #[.val (.long p1), .second, .val (.int p2), .val (.ref b1), .unset, .unset, .unset, .unset, .unset, .unset, .unset, .unset, .unset, .unset, .unset] [(.int (1 : Int32)), (.int p2)])) _
    refine XS.iand X2.here hx rfl (hb hby at_10) rfl ?_
    exact kt)
  by_cases hc11_3 : (p2 &&& (1 : Int32)) = (0 : Int32)
  · skip
    have P6 : ∀ t, Steps p.tables e below (T2.setTop (mkF m 34 #[.val (.long p1), .second, .val (.int p2), .val (.ref b1), .val (.int (0 : Int32)), .val (.long (p1 &&& (9223372036854775807 : Int64))), .second, .unset, .unset, .unset, .unset, .unset, .unset, .unset, .unset] [(.int (XT.cmpL (p1 &&& (9223372036854775807 : Int64)) (9223372036854775805 : Int64)))])) t → Steps p.tables e below (s₁.setTop (entryFrame m #[(.long p1), (.int p2)] maxLocals)) t := fun t kt => P4 t (by
      show Steps p.tables e below (T2.setTop (mkF m 11 #[.val (.long p1), .second, .val (.int p2), .val (.ref b1), .unset, .unset, .unset, .unset, .unset, .unset, .unset, .unset, .unset, .unset, .unset] [(.int (p2 &&& (1 : Int32)))])) _
      refine XS.ifYes X2.here hx rfl (pc0 := 11) (pc' := 18) rfl (hb hby at_11) rfl (XT.i0_eq_t hc11_3) (by decide) (by decide) ?_
      show Steps p.tables e below (T2.setTop (mkF m 18 #[.val (.long p1), .second, .val (.int p2), .val (.ref b1), .unset, .unset, .unset, .unset, .unset, .unset, .unset, .unset, .unset, .unset, .unset] [])) _
      refine XS.iconst X2.here hx rfl (hb hby at_18) ?_
      show Steps p.tables e below (T2.setTop (mkF m 19 #[.val (.long p1), .second, .val (.int p2), .val (.ref b1), .unset, .unset, .unset, .unset, .unset, .unset, .unset, .unset, .unset, .unset, .unset] [(.int (0 : Int32))])) _
      refine XS.istore X2.here hx rfl (hb hby at_19) rfl (l' := #[.val (.long p1), .second, .val (.int p2), .val (.ref b1), .val (.int (0 : Int32)), .unset, .unset, .unset, .unset, .unset, .unset, .unset, .unset, .unset, .unset]) rfl ?_
      show Steps p.tables e below (T2.setTop (mkF m 21 #[.val (.long p1), .second, .val (.int p2), .val (.ref b1), .val (.int (0 : Int32)), .unset, .unset, .unset, .unset, .unset, .unset, .unset, .unset, .unset, .unset] [])) _
      refine XT.lloadN X2.here hx rfl (hb hby at_21) rfl ?_
      show Steps p.tables e below (T2.setTop (mkF m 22 #[.val (.long p1), .second, .val (.int p2), .val (.ref b1), .val (.int (0 : Int32)), .unset, .unset, .unset, .unset, .unset, .unset, .unset, .unset, .unset, .unset] [(.long p1)])) _
      refine X2.ldc2J hx hown (mvT hZ (hw _ (List.mem_of_getElem? (i := 9) rfl))) rfl (hb hby at_22) ?_
      show Steps p.tables e below (T2.setTop (mkF m 25 #[.val (.long p1), .second, .val (.int p2), .val (.ref b1), .val (.int (0 : Int32)), .unset, .unset, .unset, .unset, .unset, .unset, .unset, .unset, .unset, .unset] [(.long (9223372036854775807 : Int64)), (.long p1)])) _
      refine XT.land X2.here hx rfl (hb hby at_25) rfl ?_
      show Steps p.tables e below (T2.setTop (mkF m 26 #[.val (.long p1), .second, .val (.int p2), .val (.ref b1), .val (.int (0 : Int32)), .unset, .unset, .unset, .unset, .unset, .unset, .unset, .unset, .unset, .unset] [(.long (p1 &&& (9223372036854775807 : Int64)))])) _
      refine XT.lstore X2.here hx rfl (hb hby at_26) rfl (l' := #[.val (.long p1), .second, .val (.int p2), .val (.ref b1), .val (.int (0 : Int32)), .val (.long (p1 &&& (9223372036854775807 : Int64))), .second, .unset, .unset, .unset, .unset, .unset, .unset, .unset, .unset]) rfl ?_
      show Steps p.tables e below (T2.setTop (mkF m 28 #[.val (.long p1), .second, .val (.int p2), .val (.ref b1), .val (.int (0 : Int32)), .val (.long (p1 &&& (9223372036854775807 : Int64))), .second, .unset, .unset, .unset, .unset, .unset, .unset, .unset, .unset] [])) _
      refine XT.lload X2.here hx rfl (hb hby at_28) rfl ?_
      show Steps p.tables e below (T2.setTop (mkF m 30 #[.val (.long p1), .second, .val (.int p2), .val (.ref b1), .val (.int (0 : Int32)), .val (.long (p1 &&& (9223372036854775807 : Int64))), .second, .unset, .unset, .unset, .unset, .unset, .unset, .unset, .unset] [(.long (p1 &&& (9223372036854775807 : Int64)))])) _
      refine X2.ldc2J hx hown (mvT hZ (hw _ (List.mem_of_getElem? (i := 10) rfl))) rfl (hb hby at_30) ?_
      show Steps p.tables e below (T2.setTop (mkF m 33 #[.val (.long p1), .second, .val (.int p2), .val (.ref b1), .val (.int (0 : Int32)), .val (.long (p1 &&& (9223372036854775807 : Int64))), .second, .unset, .unset, .unset, .unset, .unset, .unset, .unset, .unset] [(.long (9223372036854775805 : Int64)), (.long (p1 &&& (9223372036854775807 : Int64)))])) _
      refine XT.lcmp X2.here hx rfl (hb hby at_33) rfl ?_
      exact kt)
    by_cases hc34_5 : (9223372036854775805 : Int64) < (p1 &&& (9223372036854775807 : Int64))
    · skip
      have hc47_7 : (0 : Int32) = (0 : Int32) := rfl
      obtain ⟨cq8, kq8, q8a, q8b, q8c⟩ := isOf hZ e2 A1
      obtain ⟨_, _, ⟨T8, L8, k8, n8⟩, -, X8, ⟨Lc8, hQ8, l8, y8, z8⟩, st8⟩ := X2.virtualBack hx (y := (⟨"com/example/anchovy/anchovy/clock/LamportClock", "onReceive", "(J)J"⟩ : MethodName)) (z := (⟨"com/example/anchovy/anchovy/clock/LamportClock", "onReceive", "(J)J"⟩ : MethodName)) hown (mvT hZ (hw _ (List.mem_of_getElem? (i := 11) rfl))) (mvT hZ (hw _ (List.mem_of_getElem? (i := 12) rfl))) (notFace_of_selects (args := #[]) (mvT hZ (hw _ (List.mem_of_getElem? (i := 14) rfl)))) (mvT hZ (hw _ (List.mem_of_getElem? (i := 14) rfl))) (mvT hZ (hw _ (List.mem_of_getElem? (i := 13) rfl))) (by decide) (backOf (W := 0) (rmV l Z a0 hw [] b1 (9223372036854775805 : Int64) (0 : Int64) h1 n0 Zs1 A1 F1_time g_b1 (by decide) (by rw [own_max0 (by decide)]; exact own_nm (by decide))) hZ (hw _ (List.mem_of_getElem? (i := 15) rfl)) (hw _ (List.mem_of_getElem? (i := 2) rfl)) (by decide) (by decide)) q8a q8c (g := (mkF m 53 #[.val (.long p1), .second, .val (.int p2), .val (.ref b1), .val (.int (0 : Int32)), .val (.long (9223372036854775805 : Int64)), .second, .val (.long (0 : Int64)), .second, .unset, .unset, .unset, .unset, .unset, .unset] [(.long (9223372036854775805 : Int64)), (.ref b1)])) rfl (by rw [hml]; rfl) (Steps.refl _) (argsL := [(.long (9223372036854775805 : Int64))]) (rest := []) (lenOf pd_0 rfl) rfl (by show 2 * 0 + _ ≤ _; exact Nat.le_of_eq rfl) (hb hby at_53) (fun _ _ => ⟨rfl, e2, (by decide : 1 + 0 ≤ _), (by decide : 1 + 0 ≤ _)⟩)
      dsimp only [Pt.U, Pt.locs, Pt.cells, Pt.slots] at X8 l8 y8 z8 st8 hQ8
      subst l8 y8 z8
      have hv8 : own_max (0 : Int64) (9223372036854775805 : Int64) = (9223372036854775805 : Int64) := own_max0 (by decide)
      unfold QV at hQ8
      rw [hv8] at hQ8
      obtain ⟨rfl, N8q, Kq8, Eq8, Fq8_time⟩ := hQ8
      have N8 := Fr.app N2 N8q
      have c9 := A1.keep Kq8
      have Zs8 : n0 ≤ T8.heap.size := Nat.le_trans Zs1 Kq8.1
      obtain ⟨cq10, kq10, q10a, q10b, q10c⟩ := isOf hZ rfl c9
      obtain ⟨_, _, ⟨T10, L10, k10, n10⟩, -, X10, ⟨Lc10, hQ10, l10, y10, z10⟩, st10⟩ := X8.virtualBack hx (y := (⟨"com/example/anchovy/anchovy/clock/LamportClock", "time", "()J"⟩ : MethodName)) (z := (⟨"com/example/anchovy/anchovy/clock/LamportClock", "time", "()J"⟩ : MethodName)) hown (mvT hZ (hw _ (List.mem_of_getElem? (i := 26) rfl))) (mvT hZ (hw _ (List.mem_of_getElem? (i := 27) rfl))) (notFace_of_selects (args := #[]) (mvT hZ (hw _ (List.mem_of_getElem? (i := 29) rfl)))) (mvT hZ (hw _ (List.mem_of_getElem? (i := 29) rfl))) (mvT hZ (hw _ (List.mem_of_getElem? (i := 28) rfl))) (by decide) (backOf (W := 0) (rmT l Z a0 hw [] b1 ((9223372036854775805 : Int64) + (1 : Int64)) T8.heap n0 Zs8 c9 Fq8_time) hZ (hw _ (List.mem_of_getElem? (i := 30) rfl)) (hw _ (List.mem_of_getElem? (i := 2) rfl)) (by decide) (by decide)) q10a q10c (g := (mkF m 64 #[.val (.long p1), .second, .val (.int p2), .val (.ref b1), .val (.int (0 : Int32)), .val (.long (9223372036854775805 : Int64)), .second, .val (.long ((9223372036854775805 : Int64) + (1 : Int64))), .second, .unset, .unset, .unset, .unset, .unset, .unset] [(.ref b1)])) rfl (by rw [hml]; rfl) (Steps.refl _) (argsL := []) (rest := []) (lenOf pd_3 rfl) rfl (by show 2 * 0 + _ ≤ _; exact Nat.le_of_eq rfl) (hb hby at_64) (fun _ _ => ⟨rfl, rfl, (by decide : 1 + 0 ≤ _), (by decide : 1 + 0 ≤ _)⟩)
      dsimp only [Pt.U, Pt.locs, Pt.cells, Pt.slots] at X10 l10 y10 z10 st10 hQ10
      subst l10 y10 z10
      obtain ⟨rfl, N10q, e10⟩ := hQ10
      have N10 := Fr.app N8 N10q
      obtain ⟨cq11, kq11, q11a, q11b, q11c⟩ := isOf hZ e10 c9
      obtain ⟨_, _, ⟨T11, L11, k11, n11⟩, -, X11, ⟨Lc11, hQ11, l11, y11, z11⟩, st11⟩ := X10.virtualBack hx (y := (⟨"com/example/anchovy/anchovy/clock/LamportClock", "onSend", "()J"⟩ : MethodName)) (z := (⟨"com/example/anchovy/anchovy/clock/LamportClock", "onSend", "()J"⟩ : MethodName)) hown (mvT hZ (hw _ (List.mem_of_getElem? (i := 31) rfl))) (mvT hZ (hw _ (List.mem_of_getElem? (i := 32) rfl))) (notFace_of_selects (args := #[]) (mvT hZ (hw _ (List.mem_of_getElem? (i := 34) rfl)))) (mvT hZ (hw _ (List.mem_of_getElem? (i := 34) rfl))) (mvT hZ (hw _ (List.mem_of_getElem? (i := 33) rfl))) (by decide) (backOf (W := 0) (rmS l Z a0 hw [] b1 ((9223372036854775805 : Int64) + (1 : Int64)) T8.heap n0 Zs8 c9 Fq8_time g_b1 (own_nm1 (by decide) (by decide))) hZ (hw _ (List.mem_of_getElem? (i := 35) rfl)) (hw _ (List.mem_of_getElem? (i := 2) rfl)) (by decide) (by decide)) q11a q11c (g := (mkF m 70 #[.val (.long p1), .second, .val (.int p2), .val (.ref b1), .val (.int (0 : Int32)), .val (.long (9223372036854775805 : Int64)), .second, .val (.long ((9223372036854775805 : Int64) + (1 : Int64))), .second, .val (.long ((9223372036854775805 : Int64) + (1 : Int64))), .second, .unset, .unset, .unset, .unset] [(.ref b1)])) rfl (by rw [hml]; rfl) (Steps.refl _) (argsL := []) (rest := []) (lenOf pd_3 rfl) rfl (by show 2 * 0 + _ ≤ _; exact Nat.le_of_eq rfl) (hb hby at_70) (fun _ _ => ⟨rfl, e10, (by decide : 1 + 0 ≤ _), (by decide : 1 + 0 ≤ _)⟩)
      dsimp only [Pt.U, Pt.locs, Pt.cells, Pt.slots] at X11 l11 y11 z11 st11 hQ11
      subst l11 y11 z11
      obtain ⟨rfl, N11q, Kq11, Eq11, Fq11_time⟩ := hQ11
      have N11 := Fr.app N10 N11q
      have c12 := c9.keep Kq11
      have Zs11 : n0 ≤ T11.heap.size := Nat.le_trans Zs8 Kq11.1
      obtain ⟨cq13, kq13, q13a, q13b, q13c⟩ := isOf hZ rfl c12
      obtain ⟨_, _, ⟨T13, L13, k13, n13⟩, -, X13, ⟨Lc13, hQ13, l13, y13, z13⟩, st13⟩ := X11.virtualBack hx (y := (⟨"com/example/anchovy/anchovy/clock/LamportClock", "time", "()J"⟩ : MethodName)) (z := (⟨"com/example/anchovy/anchovy/clock/LamportClock", "time", "()J"⟩ : MethodName)) hown (mvT hZ (hw _ (List.mem_of_getElem? (i := 26) rfl))) (mvT hZ (hw _ (List.mem_of_getElem? (i := 27) rfl))) (notFace_of_selects (args := #[]) (mvT hZ (hw _ (List.mem_of_getElem? (i := 29) rfl)))) (mvT hZ (hw _ (List.mem_of_getElem? (i := 29) rfl))) (mvT hZ (hw _ (List.mem_of_getElem? (i := 28) rfl))) (by decide) (backOf (W := 0) (rmT l Z a0 hw [] b1 (((9223372036854775805 : Int64) + (1 : Int64)) + (1 : Int64)) T11.heap n0 Zs11 c12 Fq11_time) hZ (hw _ (List.mem_of_getElem? (i := 30) rfl)) (hw _ (List.mem_of_getElem? (i := 2) rfl)) (by decide) (by decide)) q13a q13c (g := (mkF m 76 #[.val (.long p1), .second, .val (.int p2), .val (.ref b1), .val (.int (0 : Int32)), .val (.long (9223372036854775805 : Int64)), .second, .val (.long ((9223372036854775805 : Int64) + (1 : Int64))), .second, .val (.long ((9223372036854775805 : Int64) + (1 : Int64))), .second, .val (.long (((9223372036854775805 : Int64) + (1 : Int64)) + (1 : Int64))), .second, .unset, .unset] [(.ref b1)])) rfl (by rw [hml]; rfl) (Steps.refl _) (argsL := []) (rest := []) (lenOf pd_3 rfl) rfl (by show 2 * 0 + _ ≤ _; exact Nat.le_of_eq rfl) (hb hby at_76) (fun _ _ => ⟨rfl, rfl, (by decide : 1 + 0 ≤ _), (by decide : 1 + 0 ≤ _)⟩)
      dsimp only [Pt.U, Pt.locs, Pt.cells, Pt.slots] at X13 l13 y13 z13 st13 hQ13
      subst l13 y13 z13
      obtain ⟨rfl, N13q, e13⟩ := hQ13
      have N13 := Fr.app N11 N13q
      have hc86_14 : ((9223372036854775805 : Int64) + (1 : Int64)) = ((9223372036854775805 : Int64) + (1 : Int64)) := rfl
      have hc96_15 : (((9223372036854775805 : Int64) + (1 : Int64)) + (1 : Int64)) = (((9223372036854775805 : Int64) + (1 : Int64)) + (1 : Int64)) := rfl
      have hc104_16 : (((9223372036854775805 : Int64) + (1 : Int64)) + (1 : Int64)) = (((9223372036854775805 : Int64) + (1 : Int64)) + (1 : Int64)) := rfl
      have P17 : ∀ t, Steps p.tables e below (T13.setTop (mkF m 112 #[.val (.long p1), .second, .val (.int p2), .val (.ref b1), .val (.int (0 : Int32)), .val (.long (9223372036854775805 : Int64)), .second, .val (.long ((9223372036854775805 : Int64) + (1 : Int64))), .second, .val (.long ((9223372036854775805 : Int64) + (1 : Int64))), .second, .val (.long (((9223372036854775805 : Int64) + (1 : Int64)) + (1 : Int64))), .second, .val (.long (((9223372036854775805 : Int64) + (1 : Int64)) + (1 : Int64))), .second] [(.int (1 : Int32))])) t → Steps p.tables e below (s₁.setTop (entryFrame m #[(.long p1), (.int p2)] maxLocals)) t := fun t kt => P6 t (by
        show Steps p.tables e below (T2.setTop (mkF m 34 #[.val (.long p1), .second, .val (.int p2), .val (.ref b1), .val (.int (0 : Int32)), .val (.long (p1 &&& (9223372036854775807 : Int64))), .second, .unset, .unset, .unset, .unset, .unset, .unset, .unset, .unset] [(.int (XT.cmpL (p1 &&& (9223372036854775807 : Int64)) (9223372036854775805 : Int64)))])) _
        refine XS.ifNo X2.here hx rfl (hb hby at_34) rfl (XT.ll_le_f hc34_5) ?_
        show Steps p.tables e below (T2.setTop (mkF m 37 #[.val (.long p1), .second, .val (.int p2), .val (.ref b1), .val (.int (0 : Int32)), .val (.long (p1 &&& (9223372036854775807 : Int64))), .second, .unset, .unset, .unset, .unset, .unset, .unset, .unset, .unset] [])) _
        refine X2.ldc2J hx hown (mvT hZ (hw _ (List.mem_of_getElem? (i := 10) rfl))) rfl (hb hby at_37) ?_
        show Steps p.tables e below (T2.setTop (mkF m 40 #[.val (.long p1), .second, .val (.int p2), .val (.ref b1), .val (.int (0 : Int32)), .val (.long (p1 &&& (9223372036854775807 : Int64))), .second, .unset, .unset, .unset, .unset, .unset, .unset, .unset, .unset] [(.long (9223372036854775805 : Int64))])) _
        refine XT.lstore X2.here hx rfl (hb hby at_40) rfl (l' := #[.val (.long p1), .second, .val (.int p2), .val (.ref b1), .val (.int (0 : Int32)), .val (.long (9223372036854775805 : Int64)), .second, .unset, .unset, .unset, .unset, .unset, .unset, .unset, .unset]) rfl ?_
        show Steps p.tables e below (T2.setTop (mkF m 42 #[.val (.long p1), .second, .val (.int p2), .val (.ref b1), .val (.int (0 : Int32)), .val (.long (9223372036854775805 : Int64)), .second, .unset, .unset, .unset, .unset, .unset, .unset, .unset, .unset] [])) _
        refine XT.lconst X2.here hx rfl (hb hby at_42) ?_
        show Steps p.tables e below (T2.setTop (mkF m 43 #[.val (.long p1), .second, .val (.int p2), .val (.ref b1), .val (.int (0 : Int32)), .val (.long (9223372036854775805 : Int64)), .second, .unset, .unset, .unset, .unset, .unset, .unset, .unset, .unset] [(.long (0 : Int64))])) _
        refine XT.lstore X2.here hx rfl (hb hby at_43) rfl (l' := #[.val (.long p1), .second, .val (.int p2), .val (.ref b1), .val (.int (0 : Int32)), .val (.long (9223372036854775805 : Int64)), .second, .val (.long (0 : Int64)), .second, .unset, .unset, .unset, .unset, .unset, .unset]) rfl ?_
        show Steps p.tables e below (T2.setTop (mkF m 45 #[.val (.long p1), .second, .val (.int p2), .val (.ref b1), .val (.int (0 : Int32)), .val (.long (9223372036854775805 : Int64)), .second, .val (.long (0 : Int64)), .second, .unset, .unset, .unset, .unset, .unset, .unset] [])) _
        refine XS.iload X2.here hx rfl (hb hby at_45) rfl ?_
        show Steps p.tables e below (T2.setTop (mkF m 47 #[.val (.long p1), .second, .val (.int p2), .val (.ref b1), .val (.int (0 : Int32)), .val (.long (9223372036854775805 : Int64)), .second, .val (.long (0 : Int64)), .second, .unset, .unset, .unset, .unset, .unset, .unset] [(.int (0 : Int32))])) _
        refine XS.ifNo X2.here hx rfl (hb hby at_47) rfl (XT.i0_ne_f hc47_7) ?_
        show Steps p.tables e below (T2.setTop (mkF m 50 #[.val (.long p1), .second, .val (.int p2), .val (.ref b1), .val (.int (0 : Int32)), .val (.long (9223372036854775805 : Int64)), .second, .val (.long (0 : Int64)), .second, .unset, .unset, .unset, .unset, .unset, .unset] [])) _
        refine XS.aloadN X2.here hx rfl (hb hby at_50) rfl rfl ?_
        show Steps p.tables e below (T2.setTop (mkF m 51 #[.val (.long p1), .second, .val (.int p2), .val (.ref b1), .val (.int (0 : Int32)), .val (.long (9223372036854775805 : Int64)), .second, .val (.long (0 : Int64)), .second, .unset, .unset, .unset, .unset, .unset, .unset] [(.ref b1)])) _
        refine XT.lload X2.here hx rfl (hb hby at_51) rfl ?_
        show Steps p.tables e below (T2.setTop (mkF m 53 #[.val (.long p1), .second, .val (.int p2), .val (.ref b1), .val (.int (0 : Int32)), .val (.long (9223372036854775805 : Int64)), .second, .val (.long (0 : Int64)), .second, .unset, .unset, .unset, .unset, .unset, .unset] [(.long (9223372036854775805 : Int64)), (.ref b1)])) _
        refine st8.trans ?_
        show Steps p.tables e below (T8.setTop (mkF m 56 #[.val (.long p1), .second, .val (.int p2), .val (.ref b1), .val (.int (0 : Int32)), .val (.long (9223372036854775805 : Int64)), .second, .val (.long (0 : Int64)), .second, .unset, .unset, .unset, .unset, .unset, .unset] [(.long ((9223372036854775805 : Int64) + (1 : Int64)))])) _
        jvm_step X8.here [X8.here.top, hx, (hb hby at_56), Value.category]
        show Steps p.tables e below (T8.setTop (mkF m 57 #[.val (.long p1), .second, .val (.int p2), .val (.ref b1), .val (.int (0 : Int32)), .val (.long (9223372036854775805 : Int64)), .second, .val (.long (0 : Int64)), .second, .unset, .unset, .unset, .unset, .unset, .unset] [])) _
        refine XT.lload X8.here hx rfl (hb hby at_57) rfl ?_
        show Steps p.tables e below (T8.setTop (mkF m 59 #[.val (.long p1), .second, .val (.int p2), .val (.ref b1), .val (.int (0 : Int32)), .val (.long (9223372036854775805 : Int64)), .second, .val (.long (0 : Int64)), .second, .unset, .unset, .unset, .unset, .unset, .unset] [(.long (9223372036854775805 : Int64))])) _
        refine XT.lconst X8.here hx rfl (hb hby at_59) ?_
        show Steps p.tables e below (T8.setTop (mkF m 60 #[.val (.long p1), .second, .val (.int p2), .val (.ref b1), .val (.int (0 : Int32)), .val (.long (9223372036854775805 : Int64)), .second, .val (.long (0 : Int64)), .second, .unset, .unset, .unset, .unset, .unset, .unset] [(.long (1 : Int64)), (.long (9223372036854775805 : Int64))])) _
        refine XT.ladd X8.here hx rfl (hb hby at_60) rfl ?_
        show Steps p.tables e below (T8.setTop (mkF m 61 #[.val (.long p1), .second, .val (.int p2), .val (.ref b1), .val (.int (0 : Int32)), .val (.long (9223372036854775805 : Int64)), .second, .val (.long (0 : Int64)), .second, .unset, .unset, .unset, .unset, .unset, .unset] [(.long ((9223372036854775805 : Int64) + (1 : Int64)))])) _
        refine XT.lstore X8.here hx rfl (hb hby at_61) rfl (l' := #[.val (.long p1), .second, .val (.int p2), .val (.ref b1), .val (.int (0 : Int32)), .val (.long (9223372036854775805 : Int64)), .second, .val (.long ((9223372036854775805 : Int64) + (1 : Int64))), .second, .unset, .unset, .unset, .unset, .unset, .unset]) rfl ?_
        show Steps p.tables e below (T8.setTop (mkF m 63 #[.val (.long p1), .second, .val (.int p2), .val (.ref b1), .val (.int (0 : Int32)), .val (.long (9223372036854775805 : Int64)), .second, .val (.long ((9223372036854775805 : Int64) + (1 : Int64))), .second, .unset, .unset, .unset, .unset, .unset, .unset] [])) _
        refine XS.aloadN X8.here hx rfl (hb hby at_63) rfl rfl ?_
        show Steps p.tables e below (T8.setTop (mkF m 64 #[.val (.long p1), .second, .val (.int p2), .val (.ref b1), .val (.int (0 : Int32)), .val (.long (9223372036854775805 : Int64)), .second, .val (.long ((9223372036854775805 : Int64) + (1 : Int64))), .second, .unset, .unset, .unset, .unset, .unset, .unset] [(.ref b1)])) _
        refine st10.trans ?_
        show Steps p.tables e below (T10.setTop (mkF m 67 #[.val (.long p1), .second, .val (.int p2), .val (.ref b1), .val (.int (0 : Int32)), .val (.long (9223372036854775805 : Int64)), .second, .val (.long ((9223372036854775805 : Int64) + (1 : Int64))), .second, .unset, .unset, .unset, .unset, .unset, .unset] [(.long ((9223372036854775805 : Int64) + (1 : Int64)))])) _
        refine XT.lstore X10.here hx rfl (hb hby at_67) rfl (l' := #[.val (.long p1), .second, .val (.int p2), .val (.ref b1), .val (.int (0 : Int32)), .val (.long (9223372036854775805 : Int64)), .second, .val (.long ((9223372036854775805 : Int64) + (1 : Int64))), .second, .val (.long ((9223372036854775805 : Int64) + (1 : Int64))), .second, .unset, .unset, .unset, .unset]) rfl ?_
        show Steps p.tables e below (T10.setTop (mkF m 69 #[.val (.long p1), .second, .val (.int p2), .val (.ref b1), .val (.int (0 : Int32)), .val (.long (9223372036854775805 : Int64)), .second, .val (.long ((9223372036854775805 : Int64) + (1 : Int64))), .second, .val (.long ((9223372036854775805 : Int64) + (1 : Int64))), .second, .unset, .unset, .unset, .unset] [])) _
        refine XS.aloadN X10.here hx rfl (hb hby at_69) rfl rfl ?_
        show Steps p.tables e below (T10.setTop (mkF m 70 #[.val (.long p1), .second, .val (.int p2), .val (.ref b1), .val (.int (0 : Int32)), .val (.long (9223372036854775805 : Int64)), .second, .val (.long ((9223372036854775805 : Int64) + (1 : Int64))), .second, .val (.long ((9223372036854775805 : Int64) + (1 : Int64))), .second, .unset, .unset, .unset, .unset] [(.ref b1)])) _
        refine st11.trans ?_
        show Steps p.tables e below (T11.setTop (mkF m 73 #[.val (.long p1), .second, .val (.int p2), .val (.ref b1), .val (.int (0 : Int32)), .val (.long (9223372036854775805 : Int64)), .second, .val (.long ((9223372036854775805 : Int64) + (1 : Int64))), .second, .val (.long ((9223372036854775805 : Int64) + (1 : Int64))), .second, .unset, .unset, .unset, .unset] [(.long (((9223372036854775805 : Int64) + (1 : Int64)) + (1 : Int64)))])) _
        refine XT.lstore X11.here hx rfl (hb hby at_73) rfl (l' := #[.val (.long p1), .second, .val (.int p2), .val (.ref b1), .val (.int (0 : Int32)), .val (.long (9223372036854775805 : Int64)), .second, .val (.long ((9223372036854775805 : Int64) + (1 : Int64))), .second, .val (.long ((9223372036854775805 : Int64) + (1 : Int64))), .second, .val (.long (((9223372036854775805 : Int64) + (1 : Int64)) + (1 : Int64))), .second, .unset, .unset]) rfl ?_
        show Steps p.tables e below (T11.setTop (mkF m 75 #[.val (.long p1), .second, .val (.int p2), .val (.ref b1), .val (.int (0 : Int32)), .val (.long (9223372036854775805 : Int64)), .second, .val (.long ((9223372036854775805 : Int64) + (1 : Int64))), .second, .val (.long ((9223372036854775805 : Int64) + (1 : Int64))), .second, .val (.long (((9223372036854775805 : Int64) + (1 : Int64)) + (1 : Int64))), .second, .unset, .unset] [])) _
        refine XS.aloadN X11.here hx rfl (hb hby at_75) rfl rfl ?_
        show Steps p.tables e below (T11.setTop (mkF m 76 #[.val (.long p1), .second, .val (.int p2), .val (.ref b1), .val (.int (0 : Int32)), .val (.long (9223372036854775805 : Int64)), .second, .val (.long ((9223372036854775805 : Int64) + (1 : Int64))), .second, .val (.long ((9223372036854775805 : Int64) + (1 : Int64))), .second, .val (.long (((9223372036854775805 : Int64) + (1 : Int64)) + (1 : Int64))), .second, .unset, .unset] [(.ref b1)])) _
        refine st13.trans ?_
        show Steps p.tables e below (T13.setTop (mkF m 79 #[.val (.long p1), .second, .val (.int p2), .val (.ref b1), .val (.int (0 : Int32)), .val (.long (9223372036854775805 : Int64)), .second, .val (.long ((9223372036854775805 : Int64) + (1 : Int64))), .second, .val (.long ((9223372036854775805 : Int64) + (1 : Int64))), .second, .val (.long (((9223372036854775805 : Int64) + (1 : Int64)) + (1 : Int64))), .second, .unset, .unset] [(.long (((9223372036854775805 : Int64) + (1 : Int64)) + (1 : Int64)))])) _
        refine XT.lstore X13.here hx rfl (hb hby at_79) rfl (l' := #[.val (.long p1), .second, .val (.int p2), .val (.ref b1), .val (.int (0 : Int32)), .val (.long (9223372036854775805 : Int64)), .second, .val (.long ((9223372036854775805 : Int64) + (1 : Int64))), .second, .val (.long ((9223372036854775805 : Int64) + (1 : Int64))), .second, .val (.long (((9223372036854775805 : Int64) + (1 : Int64)) + (1 : Int64))), .second, .val (.long (((9223372036854775805 : Int64) + (1 : Int64)) + (1 : Int64))), .second]) rfl ?_
        show Steps p.tables e below (T13.setTop (mkF m 81 #[.val (.long p1), .second, .val (.int p2), .val (.ref b1), .val (.int (0 : Int32)), .val (.long (9223372036854775805 : Int64)), .second, .val (.long ((9223372036854775805 : Int64) + (1 : Int64))), .second, .val (.long ((9223372036854775805 : Int64) + (1 : Int64))), .second, .val (.long (((9223372036854775805 : Int64) + (1 : Int64)) + (1 : Int64))), .second, .val (.long (((9223372036854775805 : Int64) + (1 : Int64)) + (1 : Int64))), .second] [])) _
        refine XT.lload X13.here hx rfl (hb hby at_81) rfl ?_
        show Steps p.tables e below (T13.setTop (mkF m 83 #[.val (.long p1), .second, .val (.int p2), .val (.ref b1), .val (.int (0 : Int32)), .val (.long (9223372036854775805 : Int64)), .second, .val (.long ((9223372036854775805 : Int64) + (1 : Int64))), .second, .val (.long ((9223372036854775805 : Int64) + (1 : Int64))), .second, .val (.long (((9223372036854775805 : Int64) + (1 : Int64)) + (1 : Int64))), .second, .val (.long (((9223372036854775805 : Int64) + (1 : Int64)) + (1 : Int64))), .second] [(.long ((9223372036854775805 : Int64) + (1 : Int64)))])) _
        refine XT.lload X13.here hx rfl (hb hby at_83) rfl ?_
        show Steps p.tables e below (T13.setTop (mkF m 85 #[.val (.long p1), .second, .val (.int p2), .val (.ref b1), .val (.int (0 : Int32)), .val (.long (9223372036854775805 : Int64)), .second, .val (.long ((9223372036854775805 : Int64) + (1 : Int64))), .second, .val (.long ((9223372036854775805 : Int64) + (1 : Int64))), .second, .val (.long (((9223372036854775805 : Int64) + (1 : Int64)) + (1 : Int64))), .second, .val (.long (((9223372036854775805 : Int64) + (1 : Int64)) + (1 : Int64))), .second] [(.long ((9223372036854775805 : Int64) + (1 : Int64))), (.long ((9223372036854775805 : Int64) + (1 : Int64)))])) _
        refine XT.lcmp X13.here hx rfl (hb hby at_85) rfl ?_
        show Steps p.tables e below (T13.setTop (mkF m 86 #[.val (.long p1), .second, .val (.int p2), .val (.ref b1), .val (.int (0 : Int32)), .val (.long (9223372036854775805 : Int64)), .second, .val (.long ((9223372036854775805 : Int64) + (1 : Int64))), .second, .val (.long ((9223372036854775805 : Int64) + (1 : Int64))), .second, .val (.long (((9223372036854775805 : Int64) + (1 : Int64)) + (1 : Int64))), .second, .val (.long (((9223372036854775805 : Int64) + (1 : Int64)) + (1 : Int64))), .second] [(.int (XT.cmpL ((9223372036854775805 : Int64) + (1 : Int64)) ((9223372036854775805 : Int64) + (1 : Int64))))])) _
        refine XS.ifNo X13.here hx rfl (hb hby at_86) rfl (XT.ll_ne_f hc86_14) ?_
        show Steps p.tables e below (T13.setTop (mkF m 89 #[.val (.long p1), .second, .val (.int p2), .val (.ref b1), .val (.int (0 : Int32)), .val (.long (9223372036854775805 : Int64)), .second, .val (.long ((9223372036854775805 : Int64) + (1 : Int64))), .second, .val (.long ((9223372036854775805 : Int64) + (1 : Int64))), .second, .val (.long (((9223372036854775805 : Int64) + (1 : Int64)) + (1 : Int64))), .second, .val (.long (((9223372036854775805 : Int64) + (1 : Int64)) + (1 : Int64))), .second] [])) _
        refine XT.lload X13.here hx rfl (hb hby at_89) rfl ?_
        show Steps p.tables e below (T13.setTop (mkF m 91 #[.val (.long p1), .second, .val (.int p2), .val (.ref b1), .val (.int (0 : Int32)), .val (.long (9223372036854775805 : Int64)), .second, .val (.long ((9223372036854775805 : Int64) + (1 : Int64))), .second, .val (.long ((9223372036854775805 : Int64) + (1 : Int64))), .second, .val (.long (((9223372036854775805 : Int64) + (1 : Int64)) + (1 : Int64))), .second, .val (.long (((9223372036854775805 : Int64) + (1 : Int64)) + (1 : Int64))), .second] [(.long (((9223372036854775805 : Int64) + (1 : Int64)) + (1 : Int64)))])) _
        refine XT.lload X13.here hx rfl (hb hby at_91) rfl ?_
        show Steps p.tables e below (T13.setTop (mkF m 93 #[.val (.long p1), .second, .val (.int p2), .val (.ref b1), .val (.int (0 : Int32)), .val (.long (9223372036854775805 : Int64)), .second, .val (.long ((9223372036854775805 : Int64) + (1 : Int64))), .second, .val (.long ((9223372036854775805 : Int64) + (1 : Int64))), .second, .val (.long (((9223372036854775805 : Int64) + (1 : Int64)) + (1 : Int64))), .second, .val (.long (((9223372036854775805 : Int64) + (1 : Int64)) + (1 : Int64))), .second] [(.long ((9223372036854775805 : Int64) + (1 : Int64))), (.long (((9223372036854775805 : Int64) + (1 : Int64)) + (1 : Int64)))])) _
        refine XT.lconst X13.here hx rfl (hb hby at_93) ?_
        show Steps p.tables e below (T13.setTop (mkF m 94 #[.val (.long p1), .second, .val (.int p2), .val (.ref b1), .val (.int (0 : Int32)), .val (.long (9223372036854775805 : Int64)), .second, .val (.long ((9223372036854775805 : Int64) + (1 : Int64))), .second, .val (.long ((9223372036854775805 : Int64) + (1 : Int64))), .second, .val (.long (((9223372036854775805 : Int64) + (1 : Int64)) + (1 : Int64))), .second, .val (.long (((9223372036854775805 : Int64) + (1 : Int64)) + (1 : Int64))), .second] [(.long (1 : Int64)), (.long ((9223372036854775805 : Int64) + (1 : Int64))), (.long (((9223372036854775805 : Int64) + (1 : Int64)) + (1 : Int64)))])) _
        refine XT.ladd X13.here hx rfl (hb hby at_94) rfl ?_
        show Steps p.tables e below (T13.setTop (mkF m 95 #[.val (.long p1), .second, .val (.int p2), .val (.ref b1), .val (.int (0 : Int32)), .val (.long (9223372036854775805 : Int64)), .second, .val (.long ((9223372036854775805 : Int64) + (1 : Int64))), .second, .val (.long ((9223372036854775805 : Int64) + (1 : Int64))), .second, .val (.long (((9223372036854775805 : Int64) + (1 : Int64)) + (1 : Int64))), .second, .val (.long (((9223372036854775805 : Int64) + (1 : Int64)) + (1 : Int64))), .second] [(.long (((9223372036854775805 : Int64) + (1 : Int64)) + (1 : Int64))), (.long (((9223372036854775805 : Int64) + (1 : Int64)) + (1 : Int64)))])) _
        refine XT.lcmp X13.here hx rfl (hb hby at_95) rfl ?_
        show Steps p.tables e below (T13.setTop (mkF m 96 #[.val (.long p1), .second, .val (.int p2), .val (.ref b1), .val (.int (0 : Int32)), .val (.long (9223372036854775805 : Int64)), .second, .val (.long ((9223372036854775805 : Int64) + (1 : Int64))), .second, .val (.long ((9223372036854775805 : Int64) + (1 : Int64))), .second, .val (.long (((9223372036854775805 : Int64) + (1 : Int64)) + (1 : Int64))), .second, .val (.long (((9223372036854775805 : Int64) + (1 : Int64)) + (1 : Int64))), .second] [(.int (XT.cmpL (((9223372036854775805 : Int64) + (1 : Int64)) + (1 : Int64)) (((9223372036854775805 : Int64) + (1 : Int64)) + (1 : Int64))))])) _
        refine XS.ifNo X13.here hx rfl (hb hby at_96) rfl (XT.ll_ne_f hc96_15) ?_
        show Steps p.tables e below (T13.setTop (mkF m 99 #[.val (.long p1), .second, .val (.int p2), .val (.ref b1), .val (.int (0 : Int32)), .val (.long (9223372036854775805 : Int64)), .second, .val (.long ((9223372036854775805 : Int64) + (1 : Int64))), .second, .val (.long ((9223372036854775805 : Int64) + (1 : Int64))), .second, .val (.long (((9223372036854775805 : Int64) + (1 : Int64)) + (1 : Int64))), .second, .val (.long (((9223372036854775805 : Int64) + (1 : Int64)) + (1 : Int64))), .second] [])) _
        refine XT.lload X13.here hx rfl (hb hby at_99) rfl ?_
        show Steps p.tables e below (T13.setTop (mkF m 101 #[.val (.long p1), .second, .val (.int p2), .val (.ref b1), .val (.int (0 : Int32)), .val (.long (9223372036854775805 : Int64)), .second, .val (.long ((9223372036854775805 : Int64) + (1 : Int64))), .second, .val (.long ((9223372036854775805 : Int64) + (1 : Int64))), .second, .val (.long (((9223372036854775805 : Int64) + (1 : Int64)) + (1 : Int64))), .second, .val (.long (((9223372036854775805 : Int64) + (1 : Int64)) + (1 : Int64))), .second] [(.long (((9223372036854775805 : Int64) + (1 : Int64)) + (1 : Int64)))])) _
        refine XT.lload X13.here hx rfl (hb hby at_101) rfl ?_
        show Steps p.tables e below (T13.setTop (mkF m 103 #[.val (.long p1), .second, .val (.int p2), .val (.ref b1), .val (.int (0 : Int32)), .val (.long (9223372036854775805 : Int64)), .second, .val (.long ((9223372036854775805 : Int64) + (1 : Int64))), .second, .val (.long ((9223372036854775805 : Int64) + (1 : Int64))), .second, .val (.long (((9223372036854775805 : Int64) + (1 : Int64)) + (1 : Int64))), .second, .val (.long (((9223372036854775805 : Int64) + (1 : Int64)) + (1 : Int64))), .second] [(.long (((9223372036854775805 : Int64) + (1 : Int64)) + (1 : Int64))), (.long (((9223372036854775805 : Int64) + (1 : Int64)) + (1 : Int64)))])) _
        refine XT.lcmp X13.here hx rfl (hb hby at_103) rfl ?_
        show Steps p.tables e below (T13.setTop (mkF m 104 #[.val (.long p1), .second, .val (.int p2), .val (.ref b1), .val (.int (0 : Int32)), .val (.long (9223372036854775805 : Int64)), .second, .val (.long ((9223372036854775805 : Int64) + (1 : Int64))), .second, .val (.long ((9223372036854775805 : Int64) + (1 : Int64))), .second, .val (.long (((9223372036854775805 : Int64) + (1 : Int64)) + (1 : Int64))), .second, .val (.long (((9223372036854775805 : Int64) + (1 : Int64)) + (1 : Int64))), .second] [(.int (XT.cmpL (((9223372036854775805 : Int64) + (1 : Int64)) + (1 : Int64)) (((9223372036854775805 : Int64) + (1 : Int64)) + (1 : Int64))))])) _
        refine XS.ifNo X13.here hx rfl (hb hby at_104) rfl (XT.ll_ne_f hc104_16) ?_
        show Steps p.tables e below (T13.setTop (mkF m 107 #[.val (.long p1), .second, .val (.int p2), .val (.ref b1), .val (.int (0 : Int32)), .val (.long (9223372036854775805 : Int64)), .second, .val (.long ((9223372036854775805 : Int64) + (1 : Int64))), .second, .val (.long ((9223372036854775805 : Int64) + (1 : Int64))), .second, .val (.long (((9223372036854775805 : Int64) + (1 : Int64)) + (1 : Int64))), .second, .val (.long (((9223372036854775805 : Int64) + (1 : Int64)) + (1 : Int64))), .second] [])) _
        refine XS.iconst X13.here hx rfl (hb hby at_107) ?_
        show Steps p.tables e below (T13.setTop (mkF m 108 #[.val (.long p1), .second, .val (.int p2), .val (.ref b1), .val (.int (0 : Int32)), .val (.long (9223372036854775805 : Int64)), .second, .val (.long ((9223372036854775805 : Int64) + (1 : Int64))), .second, .val (.long ((9223372036854775805 : Int64) + (1 : Int64))), .second, .val (.long (((9223372036854775805 : Int64) + (1 : Int64)) + (1 : Int64))), .second, .val (.long (((9223372036854775805 : Int64) + (1 : Int64)) + (1 : Int64))), .second] [(.int (1 : Int32))])) _
        refine XS.goto X13.here hx rfl (pc0 := 108) (pc' := 112) rfl (hb hby at_108) (by decide) (by decide) ?_
        exact kt)
      obtain ⟨fs, hr, hrun, hended, hW, hsame⟩ := X13.leave (v := some (.int (1 : Int32))) (fun h => by rw [Bd.returns] at h; cases h)
      refine ⟨_, _, P17 _ ?_, hrun, hended, _, _, rfl, ?_, ⟨_, rfl⟩, hW, hsame.mono (by decide) (by decide)⟩
      · exact retN X13 hx (t := .boolean) Bd.returns (by simp) (hb hby at_112) hr
      · show Q0 Z p1 p2 h0 n0 _ T13.heap _
        rw [e13]
        exact ⟨rfl, N13⟩
    · skip
      have hc47_18 : (0 : Int32) = (0 : Int32) := rfl
      obtain ⟨cq19, kq19, q19a, q19b, q19c⟩ := isOf hZ e2 A1
      obtain ⟨_, _, ⟨T19, L19, k19, n19⟩, -, X19, ⟨Lc19, hQ19, l19, y19, z19⟩, st19⟩ := X2.virtualBack hx (y := (⟨"com/example/anchovy/anchovy/clock/LamportClock", "onReceive", "(J)J"⟩ : MethodName)) (z := (⟨"com/example/anchovy/anchovy/clock/LamportClock", "onReceive", "(J)J"⟩ : MethodName)) hown (mvT hZ (hw _ (List.mem_of_getElem? (i := 11) rfl))) (mvT hZ (hw _ (List.mem_of_getElem? (i := 12) rfl))) (notFace_of_selects (args := #[]) (mvT hZ (hw _ (List.mem_of_getElem? (i := 14) rfl)))) (mvT hZ (hw _ (List.mem_of_getElem? (i := 14) rfl))) (mvT hZ (hw _ (List.mem_of_getElem? (i := 13) rfl))) (by decide) (backOf (W := 0) (rmV l Z a0 hw [] b1 (p1 &&& (9223372036854775807 : Int64)) (0 : Int64) h1 n0 Zs1 A1 F1_time g_b1 (own_pos _) (by rw [own_max0 (own_pos _)]; exact own_nm hc34_5)) hZ (hw _ (List.mem_of_getElem? (i := 15) rfl)) (hw _ (List.mem_of_getElem? (i := 2) rfl)) (by decide) (by decide)) q19a q19c (g := (mkF m 53 #[.val (.long p1), .second, .val (.int p2), .val (.ref b1), .val (.int (0 : Int32)), .val (.long (p1 &&& (9223372036854775807 : Int64))), .second, .val (.long (0 : Int64)), .second, .unset, .unset, .unset, .unset, .unset, .unset] [(.long (p1 &&& (9223372036854775807 : Int64))), (.ref b1)])) rfl (by rw [hml]; rfl) (Steps.refl _) (argsL := [(.long (p1 &&& (9223372036854775807 : Int64)))]) (rest := []) (lenOf pd_0 rfl) rfl (by show 2 * 0 + _ ≤ _; exact Nat.le_of_eq rfl) (hb hby at_53) (fun _ _ => ⟨rfl, e2, (by decide : 1 + 0 ≤ _), (by decide : 1 + 0 ≤ _)⟩)
      dsimp only [Pt.U, Pt.locs, Pt.cells, Pt.slots] at X19 l19 y19 z19 st19 hQ19
      subst l19 y19 z19
      have hv19 : own_max (0 : Int64) (p1 &&& (9223372036854775807 : Int64)) = (p1 &&& (9223372036854775807 : Int64)) := own_max0 (own_pos _)
      unfold QV at hQ19
      rw [hv19] at hQ19
      obtain ⟨rfl, N19q, Kq19, Eq19, Fq19_time⟩ := hQ19
      have N19 := Fr.app N2 N19q
      have c20 := A1.keep Kq19
      have Zs19 : n0 ≤ T19.heap.size := Nat.le_trans Zs1 Kq19.1
      obtain ⟨cq21, kq21, q21a, q21b, q21c⟩ := isOf hZ rfl c20
      obtain ⟨_, _, ⟨T21, L21, k21, n21⟩, -, X21, ⟨Lc21, hQ21, l21, y21, z21⟩, st21⟩ := X19.virtualBack hx (y := (⟨"com/example/anchovy/anchovy/clock/LamportClock", "time", "()J"⟩ : MethodName)) (z := (⟨"com/example/anchovy/anchovy/clock/LamportClock", "time", "()J"⟩ : MethodName)) hown (mvT hZ (hw _ (List.mem_of_getElem? (i := 26) rfl))) (mvT hZ (hw _ (List.mem_of_getElem? (i := 27) rfl))) (notFace_of_selects (args := #[]) (mvT hZ (hw _ (List.mem_of_getElem? (i := 29) rfl)))) (mvT hZ (hw _ (List.mem_of_getElem? (i := 29) rfl))) (mvT hZ (hw _ (List.mem_of_getElem? (i := 28) rfl))) (by decide) (backOf (W := 0) (rmT l Z a0 hw [] b1 ((p1 &&& (9223372036854775807 : Int64)) + (1 : Int64)) T19.heap n0 Zs19 c20 Fq19_time) hZ (hw _ (List.mem_of_getElem? (i := 30) rfl)) (hw _ (List.mem_of_getElem? (i := 2) rfl)) (by decide) (by decide)) q21a q21c (g := (mkF m 64 #[.val (.long p1), .second, .val (.int p2), .val (.ref b1), .val (.int (0 : Int32)), .val (.long (p1 &&& (9223372036854775807 : Int64))), .second, .val (.long ((p1 &&& (9223372036854775807 : Int64)) + (1 : Int64))), .second, .unset, .unset, .unset, .unset, .unset, .unset] [(.ref b1)])) rfl (by rw [hml]; rfl) (Steps.refl _) (argsL := []) (rest := []) (lenOf pd_3 rfl) rfl (by show 2 * 0 + _ ≤ _; exact Nat.le_of_eq rfl) (hb hby at_64) (fun _ _ => ⟨rfl, rfl, (by decide : 1 + 0 ≤ _), (by decide : 1 + 0 ≤ _)⟩)
      dsimp only [Pt.U, Pt.locs, Pt.cells, Pt.slots] at X21 l21 y21 z21 st21 hQ21
      subst l21 y21 z21
      obtain ⟨rfl, N21q, e21⟩ := hQ21
      have N21 := Fr.app N19 N21q
      obtain ⟨cq22, kq22, q22a, q22b, q22c⟩ := isOf hZ e21 c20
      obtain ⟨_, _, ⟨T22, L22, k22, n22⟩, -, X22, ⟨Lc22, hQ22, l22, y22, z22⟩, st22⟩ := X21.virtualBack hx (y := (⟨"com/example/anchovy/anchovy/clock/LamportClock", "onSend", "()J"⟩ : MethodName)) (z := (⟨"com/example/anchovy/anchovy/clock/LamportClock", "onSend", "()J"⟩ : MethodName)) hown (mvT hZ (hw _ (List.mem_of_getElem? (i := 31) rfl))) (mvT hZ (hw _ (List.mem_of_getElem? (i := 32) rfl))) (notFace_of_selects (args := #[]) (mvT hZ (hw _ (List.mem_of_getElem? (i := 34) rfl)))) (mvT hZ (hw _ (List.mem_of_getElem? (i := 34) rfl))) (mvT hZ (hw _ (List.mem_of_getElem? (i := 33) rfl))) (by decide) (backOf (W := 0) (rmS l Z a0 hw [] b1 ((p1 &&& (9223372036854775807 : Int64)) + (1 : Int64)) T19.heap n0 Zs19 c20 Fq19_time g_b1 (own_nm1 hc34_5 (own_pos _))) hZ (hw _ (List.mem_of_getElem? (i := 35) rfl)) (hw _ (List.mem_of_getElem? (i := 2) rfl)) (by decide) (by decide)) q22a q22c (g := (mkF m 70 #[.val (.long p1), .second, .val (.int p2), .val (.ref b1), .val (.int (0 : Int32)), .val (.long (p1 &&& (9223372036854775807 : Int64))), .second, .val (.long ((p1 &&& (9223372036854775807 : Int64)) + (1 : Int64))), .second, .val (.long ((p1 &&& (9223372036854775807 : Int64)) + (1 : Int64))), .second, .unset, .unset, .unset, .unset] [(.ref b1)])) rfl (by rw [hml]; rfl) (Steps.refl _) (argsL := []) (rest := []) (lenOf pd_3 rfl) rfl (by show 2 * 0 + _ ≤ _; exact Nat.le_of_eq rfl) (hb hby at_70) (fun _ _ => ⟨rfl, e21, (by decide : 1 + 0 ≤ _), (by decide : 1 + 0 ≤ _)⟩)
      dsimp only [Pt.U, Pt.locs, Pt.cells, Pt.slots] at X22 l22 y22 z22 st22 hQ22
      subst l22 y22 z22
      obtain ⟨rfl, N22q, Kq22, Eq22, Fq22_time⟩ := hQ22
      have N22 := Fr.app N21 N22q
      have c23 := c20.keep Kq22
      have Zs22 : n0 ≤ T22.heap.size := Nat.le_trans Zs19 Kq22.1
      obtain ⟨cq24, kq24, q24a, q24b, q24c⟩ := isOf hZ rfl c23
      obtain ⟨_, _, ⟨T24, L24, k24, n24⟩, -, X24, ⟨Lc24, hQ24, l24, y24, z24⟩, st24⟩ := X22.virtualBack hx (y := (⟨"com/example/anchovy/anchovy/clock/LamportClock", "time", "()J"⟩ : MethodName)) (z := (⟨"com/example/anchovy/anchovy/clock/LamportClock", "time", "()J"⟩ : MethodName)) hown (mvT hZ (hw _ (List.mem_of_getElem? (i := 26) rfl))) (mvT hZ (hw _ (List.mem_of_getElem? (i := 27) rfl))) (notFace_of_selects (args := #[]) (mvT hZ (hw _ (List.mem_of_getElem? (i := 29) rfl)))) (mvT hZ (hw _ (List.mem_of_getElem? (i := 29) rfl))) (mvT hZ (hw _ (List.mem_of_getElem? (i := 28) rfl))) (by decide) (backOf (W := 0) (rmT l Z a0 hw [] b1 (((p1 &&& (9223372036854775807 : Int64)) + (1 : Int64)) + (1 : Int64)) T22.heap n0 Zs22 c23 Fq22_time) hZ (hw _ (List.mem_of_getElem? (i := 30) rfl)) (hw _ (List.mem_of_getElem? (i := 2) rfl)) (by decide) (by decide)) q24a q24c (g := (mkF m 76 #[.val (.long p1), .second, .val (.int p2), .val (.ref b1), .val (.int (0 : Int32)), .val (.long (p1 &&& (9223372036854775807 : Int64))), .second, .val (.long ((p1 &&& (9223372036854775807 : Int64)) + (1 : Int64))), .second, .val (.long ((p1 &&& (9223372036854775807 : Int64)) + (1 : Int64))), .second, .val (.long (((p1 &&& (9223372036854775807 : Int64)) + (1 : Int64)) + (1 : Int64))), .second, .unset, .unset] [(.ref b1)])) rfl (by rw [hml]; rfl) (Steps.refl _) (argsL := []) (rest := []) (lenOf pd_3 rfl) rfl (by show 2 * 0 + _ ≤ _; exact Nat.le_of_eq rfl) (hb hby at_76) (fun _ _ => ⟨rfl, rfl, (by decide : 1 + 0 ≤ _), (by decide : 1 + 0 ≤ _)⟩)
      dsimp only [Pt.U, Pt.locs, Pt.cells, Pt.slots] at X24 l24 y24 z24 st24 hQ24
      subst l24 y24 z24
      obtain ⟨rfl, N24q, e24⟩ := hQ24
      have N24 := Fr.app N22 N24q
      have hc86_25 : ((p1 &&& (9223372036854775807 : Int64)) + (1 : Int64)) = ((p1 &&& (9223372036854775807 : Int64)) + (1 : Int64)) := rfl
      have hc96_26 : (((p1 &&& (9223372036854775807 : Int64)) + (1 : Int64)) + (1 : Int64)) = (((p1 &&& (9223372036854775807 : Int64)) + (1 : Int64)) + (1 : Int64)) := rfl
      have hc104_27 : (((p1 &&& (9223372036854775807 : Int64)) + (1 : Int64)) + (1 : Int64)) = (((p1 &&& (9223372036854775807 : Int64)) + (1 : Int64)) + (1 : Int64)) := rfl
      have P28 : ∀ t, Steps p.tables e below (T24.setTop (mkF m 112 #[.val (.long p1), .second, .val (.int p2), .val (.ref b1), .val (.int (0 : Int32)), .val (.long (p1 &&& (9223372036854775807 : Int64))), .second, .val (.long ((p1 &&& (9223372036854775807 : Int64)) + (1 : Int64))), .second, .val (.long ((p1 &&& (9223372036854775807 : Int64)) + (1 : Int64))), .second, .val (.long (((p1 &&& (9223372036854775807 : Int64)) + (1 : Int64)) + (1 : Int64))), .second, .val (.long (((p1 &&& (9223372036854775807 : Int64)) + (1 : Int64)) + (1 : Int64))), .second] [(.int (1 : Int32))])) t → Steps p.tables e below (s₁.setTop (entryFrame m #[(.long p1), (.int p2)] maxLocals)) t := fun t kt => P6 t (by
        show Steps p.tables e below (T2.setTop (mkF m 34 #[.val (.long p1), .second, .val (.int p2), .val (.ref b1), .val (.int (0 : Int32)), .val (.long (p1 &&& (9223372036854775807 : Int64))), .second, .unset, .unset, .unset, .unset, .unset, .unset, .unset, .unset] [(.int (XT.cmpL (p1 &&& (9223372036854775807 : Int64)) (9223372036854775805 : Int64)))])) _
        refine XS.ifYes X2.here hx rfl (pc0 := 34) (pc' := 42) rfl (hb hby at_34) rfl (XT.ll_le_t hc34_5) (by decide) (by decide) ?_
        show Steps p.tables e below (T2.setTop (mkF m 42 #[.val (.long p1), .second, .val (.int p2), .val (.ref b1), .val (.int (0 : Int32)), .val (.long (p1 &&& (9223372036854775807 : Int64))), .second, .unset, .unset, .unset, .unset, .unset, .unset, .unset, .unset] [])) _
        refine XT.lconst X2.here hx rfl (hb hby at_42) ?_
        show Steps p.tables e below (T2.setTop (mkF m 43 #[.val (.long p1), .second, .val (.int p2), .val (.ref b1), .val (.int (0 : Int32)), .val (.long (p1 &&& (9223372036854775807 : Int64))), .second, .unset, .unset, .unset, .unset, .unset, .unset, .unset, .unset] [(.long (0 : Int64))])) _
        refine XT.lstore X2.here hx rfl (hb hby at_43) rfl (l' := #[.val (.long p1), .second, .val (.int p2), .val (.ref b1), .val (.int (0 : Int32)), .val (.long (p1 &&& (9223372036854775807 : Int64))), .second, .val (.long (0 : Int64)), .second, .unset, .unset, .unset, .unset, .unset, .unset]) rfl ?_
        show Steps p.tables e below (T2.setTop (mkF m 45 #[.val (.long p1), .second, .val (.int p2), .val (.ref b1), .val (.int (0 : Int32)), .val (.long (p1 &&& (9223372036854775807 : Int64))), .second, .val (.long (0 : Int64)), .second, .unset, .unset, .unset, .unset, .unset, .unset] [])) _
        refine XS.iload X2.here hx rfl (hb hby at_45) rfl ?_
        show Steps p.tables e below (T2.setTop (mkF m 47 #[.val (.long p1), .second, .val (.int p2), .val (.ref b1), .val (.int (0 : Int32)), .val (.long (p1 &&& (9223372036854775807 : Int64))), .second, .val (.long (0 : Int64)), .second, .unset, .unset, .unset, .unset, .unset, .unset] [(.int (0 : Int32))])) _
        refine XS.ifNo X2.here hx rfl (hb hby at_47) rfl (XT.i0_ne_f hc47_18) ?_
        show Steps p.tables e below (T2.setTop (mkF m 50 #[.val (.long p1), .second, .val (.int p2), .val (.ref b1), .val (.int (0 : Int32)), .val (.long (p1 &&& (9223372036854775807 : Int64))), .second, .val (.long (0 : Int64)), .second, .unset, .unset, .unset, .unset, .unset, .unset] [])) _
        refine XS.aloadN X2.here hx rfl (hb hby at_50) rfl rfl ?_
        show Steps p.tables e below (T2.setTop (mkF m 51 #[.val (.long p1), .second, .val (.int p2), .val (.ref b1), .val (.int (0 : Int32)), .val (.long (p1 &&& (9223372036854775807 : Int64))), .second, .val (.long (0 : Int64)), .second, .unset, .unset, .unset, .unset, .unset, .unset] [(.ref b1)])) _
        refine XT.lload X2.here hx rfl (hb hby at_51) rfl ?_
        show Steps p.tables e below (T2.setTop (mkF m 53 #[.val (.long p1), .second, .val (.int p2), .val (.ref b1), .val (.int (0 : Int32)), .val (.long (p1 &&& (9223372036854775807 : Int64))), .second, .val (.long (0 : Int64)), .second, .unset, .unset, .unset, .unset, .unset, .unset] [(.long (p1 &&& (9223372036854775807 : Int64))), (.ref b1)])) _
        refine st19.trans ?_
        show Steps p.tables e below (T19.setTop (mkF m 56 #[.val (.long p1), .second, .val (.int p2), .val (.ref b1), .val (.int (0 : Int32)), .val (.long (p1 &&& (9223372036854775807 : Int64))), .second, .val (.long (0 : Int64)), .second, .unset, .unset, .unset, .unset, .unset, .unset] [(.long ((p1 &&& (9223372036854775807 : Int64)) + (1 : Int64)))])) _
        jvm_step X19.here [X19.here.top, hx, (hb hby at_56), Value.category]
        show Steps p.tables e below (T19.setTop (mkF m 57 #[.val (.long p1), .second, .val (.int p2), .val (.ref b1), .val (.int (0 : Int32)), .val (.long (p1 &&& (9223372036854775807 : Int64))), .second, .val (.long (0 : Int64)), .second, .unset, .unset, .unset, .unset, .unset, .unset] [])) _
        refine XT.lload X19.here hx rfl (hb hby at_57) rfl ?_
        show Steps p.tables e below (T19.setTop (mkF m 59 #[.val (.long p1), .second, .val (.int p2), .val (.ref b1), .val (.int (0 : Int32)), .val (.long (p1 &&& (9223372036854775807 : Int64))), .second, .val (.long (0 : Int64)), .second, .unset, .unset, .unset, .unset, .unset, .unset] [(.long (p1 &&& (9223372036854775807 : Int64)))])) _
        refine XT.lconst X19.here hx rfl (hb hby at_59) ?_
        show Steps p.tables e below (T19.setTop (mkF m 60 #[.val (.long p1), .second, .val (.int p2), .val (.ref b1), .val (.int (0 : Int32)), .val (.long (p1 &&& (9223372036854775807 : Int64))), .second, .val (.long (0 : Int64)), .second, .unset, .unset, .unset, .unset, .unset, .unset] [(.long (1 : Int64)), (.long (p1 &&& (9223372036854775807 : Int64)))])) _
        refine XT.ladd X19.here hx rfl (hb hby at_60) rfl ?_
        show Steps p.tables e below (T19.setTop (mkF m 61 #[.val (.long p1), .second, .val (.int p2), .val (.ref b1), .val (.int (0 : Int32)), .val (.long (p1 &&& (9223372036854775807 : Int64))), .second, .val (.long (0 : Int64)), .second, .unset, .unset, .unset, .unset, .unset, .unset] [(.long ((p1 &&& (9223372036854775807 : Int64)) + (1 : Int64)))])) _
        refine XT.lstore X19.here hx rfl (hb hby at_61) rfl (l' := #[.val (.long p1), .second, .val (.int p2), .val (.ref b1), .val (.int (0 : Int32)), .val (.long (p1 &&& (9223372036854775807 : Int64))), .second, .val (.long ((p1 &&& (9223372036854775807 : Int64)) + (1 : Int64))), .second, .unset, .unset, .unset, .unset, .unset, .unset]) rfl ?_
        show Steps p.tables e below (T19.setTop (mkF m 63 #[.val (.long p1), .second, .val (.int p2), .val (.ref b1), .val (.int (0 : Int32)), .val (.long (p1 &&& (9223372036854775807 : Int64))), .second, .val (.long ((p1 &&& (9223372036854775807 : Int64)) + (1 : Int64))), .second, .unset, .unset, .unset, .unset, .unset, .unset] [])) _
        refine XS.aloadN X19.here hx rfl (hb hby at_63) rfl rfl ?_
        show Steps p.tables e below (T19.setTop (mkF m 64 #[.val (.long p1), .second, .val (.int p2), .val (.ref b1), .val (.int (0 : Int32)), .val (.long (p1 &&& (9223372036854775807 : Int64))), .second, .val (.long ((p1 &&& (9223372036854775807 : Int64)) + (1 : Int64))), .second, .unset, .unset, .unset, .unset, .unset, .unset] [(.ref b1)])) _
        refine st21.trans ?_
        show Steps p.tables e below (T21.setTop (mkF m 67 #[.val (.long p1), .second, .val (.int p2), .val (.ref b1), .val (.int (0 : Int32)), .val (.long (p1 &&& (9223372036854775807 : Int64))), .second, .val (.long ((p1 &&& (9223372036854775807 : Int64)) + (1 : Int64))), .second, .unset, .unset, .unset, .unset, .unset, .unset] [(.long ((p1 &&& (9223372036854775807 : Int64)) + (1 : Int64)))])) _
        refine XT.lstore X21.here hx rfl (hb hby at_67) rfl (l' := #[.val (.long p1), .second, .val (.int p2), .val (.ref b1), .val (.int (0 : Int32)), .val (.long (p1 &&& (9223372036854775807 : Int64))), .second, .val (.long ((p1 &&& (9223372036854775807 : Int64)) + (1 : Int64))), .second, .val (.long ((p1 &&& (9223372036854775807 : Int64)) + (1 : Int64))), .second, .unset, .unset, .unset, .unset]) rfl ?_
        show Steps p.tables e below (T21.setTop (mkF m 69 #[.val (.long p1), .second, .val (.int p2), .val (.ref b1), .val (.int (0 : Int32)), .val (.long (p1 &&& (9223372036854775807 : Int64))), .second, .val (.long ((p1 &&& (9223372036854775807 : Int64)) + (1 : Int64))), .second, .val (.long ((p1 &&& (9223372036854775807 : Int64)) + (1 : Int64))), .second, .unset, .unset, .unset, .unset] [])) _
        refine XS.aloadN X21.here hx rfl (hb hby at_69) rfl rfl ?_
        show Steps p.tables e below (T21.setTop (mkF m 70 #[.val (.long p1), .second, .val (.int p2), .val (.ref b1), .val (.int (0 : Int32)), .val (.long (p1 &&& (9223372036854775807 : Int64))), .second, .val (.long ((p1 &&& (9223372036854775807 : Int64)) + (1 : Int64))), .second, .val (.long ((p1 &&& (9223372036854775807 : Int64)) + (1 : Int64))), .second, .unset, .unset, .unset, .unset] [(.ref b1)])) _
        refine st22.trans ?_
        show Steps p.tables e below (T22.setTop (mkF m 73 #[.val (.long p1), .second, .val (.int p2), .val (.ref b1), .val (.int (0 : Int32)), .val (.long (p1 &&& (9223372036854775807 : Int64))), .second, .val (.long ((p1 &&& (9223372036854775807 : Int64)) + (1 : Int64))), .second, .val (.long ((p1 &&& (9223372036854775807 : Int64)) + (1 : Int64))), .second, .unset, .unset, .unset, .unset] [(.long (((p1 &&& (9223372036854775807 : Int64)) + (1 : Int64)) + (1 : Int64)))])) _
        refine XT.lstore X22.here hx rfl (hb hby at_73) rfl (l' := #[.val (.long p1), .second, .val (.int p2), .val (.ref b1), .val (.int (0 : Int32)), .val (.long (p1 &&& (9223372036854775807 : Int64))), .second, .val (.long ((p1 &&& (9223372036854775807 : Int64)) + (1 : Int64))), .second, .val (.long ((p1 &&& (9223372036854775807 : Int64)) + (1 : Int64))), .second, .val (.long (((p1 &&& (9223372036854775807 : Int64)) + (1 : Int64)) + (1 : Int64))), .second, .unset, .unset]) rfl ?_
        show Steps p.tables e below (T22.setTop (mkF m 75 #[.val (.long p1), .second, .val (.int p2), .val (.ref b1), .val (.int (0 : Int32)), .val (.long (p1 &&& (9223372036854775807 : Int64))), .second, .val (.long ((p1 &&& (9223372036854775807 : Int64)) + (1 : Int64))), .second, .val (.long ((p1 &&& (9223372036854775807 : Int64)) + (1 : Int64))), .second, .val (.long (((p1 &&& (9223372036854775807 : Int64)) + (1 : Int64)) + (1 : Int64))), .second, .unset, .unset] [])) _
        refine XS.aloadN X22.here hx rfl (hb hby at_75) rfl rfl ?_
        show Steps p.tables e below (T22.setTop (mkF m 76 #[.val (.long p1), .second, .val (.int p2), .val (.ref b1), .val (.int (0 : Int32)), .val (.long (p1 &&& (9223372036854775807 : Int64))), .second, .val (.long ((p1 &&& (9223372036854775807 : Int64)) + (1 : Int64))), .second, .val (.long ((p1 &&& (9223372036854775807 : Int64)) + (1 : Int64))), .second, .val (.long (((p1 &&& (9223372036854775807 : Int64)) + (1 : Int64)) + (1 : Int64))), .second, .unset, .unset] [(.ref b1)])) _
        refine st24.trans ?_
        show Steps p.tables e below (T24.setTop (mkF m 79 #[.val (.long p1), .second, .val (.int p2), .val (.ref b1), .val (.int (0 : Int32)), .val (.long (p1 &&& (9223372036854775807 : Int64))), .second, .val (.long ((p1 &&& (9223372036854775807 : Int64)) + (1 : Int64))), .second, .val (.long ((p1 &&& (9223372036854775807 : Int64)) + (1 : Int64))), .second, .val (.long (((p1 &&& (9223372036854775807 : Int64)) + (1 : Int64)) + (1 : Int64))), .second, .unset, .unset] [(.long (((p1 &&& (9223372036854775807 : Int64)) + (1 : Int64)) + (1 : Int64)))])) _
        refine XT.lstore X24.here hx rfl (hb hby at_79) rfl (l' := #[.val (.long p1), .second, .val (.int p2), .val (.ref b1), .val (.int (0 : Int32)), .val (.long (p1 &&& (9223372036854775807 : Int64))), .second, .val (.long ((p1 &&& (9223372036854775807 : Int64)) + (1 : Int64))), .second, .val (.long ((p1 &&& (9223372036854775807 : Int64)) + (1 : Int64))), .second, .val (.long (((p1 &&& (9223372036854775807 : Int64)) + (1 : Int64)) + (1 : Int64))), .second, .val (.long (((p1 &&& (9223372036854775807 : Int64)) + (1 : Int64)) + (1 : Int64))), .second]) rfl ?_
        show Steps p.tables e below (T24.setTop (mkF m 81 #[.val (.long p1), .second, .val (.int p2), .val (.ref b1), .val (.int (0 : Int32)), .val (.long (p1 &&& (9223372036854775807 : Int64))), .second, .val (.long ((p1 &&& (9223372036854775807 : Int64)) + (1 : Int64))), .second, .val (.long ((p1 &&& (9223372036854775807 : Int64)) + (1 : Int64))), .second, .val (.long (((p1 &&& (9223372036854775807 : Int64)) + (1 : Int64)) + (1 : Int64))), .second, .val (.long (((p1 &&& (9223372036854775807 : Int64)) + (1 : Int64)) + (1 : Int64))), .second] [])) _
        refine XT.lload X24.here hx rfl (hb hby at_81) rfl ?_
        show Steps p.tables e below (T24.setTop (mkF m 83 #[.val (.long p1), .second, .val (.int p2), .val (.ref b1), .val (.int (0 : Int32)), .val (.long (p1 &&& (9223372036854775807 : Int64))), .second, .val (.long ((p1 &&& (9223372036854775807 : Int64)) + (1 : Int64))), .second, .val (.long ((p1 &&& (9223372036854775807 : Int64)) + (1 : Int64))), .second, .val (.long (((p1 &&& (9223372036854775807 : Int64)) + (1 : Int64)) + (1 : Int64))), .second, .val (.long (((p1 &&& (9223372036854775807 : Int64)) + (1 : Int64)) + (1 : Int64))), .second] [(.long ((p1 &&& (9223372036854775807 : Int64)) + (1 : Int64)))])) _
        refine XT.lload X24.here hx rfl (hb hby at_83) rfl ?_
        show Steps p.tables e below (T24.setTop (mkF m 85 #[.val (.long p1), .second, .val (.int p2), .val (.ref b1), .val (.int (0 : Int32)), .val (.long (p1 &&& (9223372036854775807 : Int64))), .second, .val (.long ((p1 &&& (9223372036854775807 : Int64)) + (1 : Int64))), .second, .val (.long ((p1 &&& (9223372036854775807 : Int64)) + (1 : Int64))), .second, .val (.long (((p1 &&& (9223372036854775807 : Int64)) + (1 : Int64)) + (1 : Int64))), .second, .val (.long (((p1 &&& (9223372036854775807 : Int64)) + (1 : Int64)) + (1 : Int64))), .second] [(.long ((p1 &&& (9223372036854775807 : Int64)) + (1 : Int64))), (.long ((p1 &&& (9223372036854775807 : Int64)) + (1 : Int64)))])) _
        refine XT.lcmp X24.here hx rfl (hb hby at_85) rfl ?_
        show Steps p.tables e below (T24.setTop (mkF m 86 #[.val (.long p1), .second, .val (.int p2), .val (.ref b1), .val (.int (0 : Int32)), .val (.long (p1 &&& (9223372036854775807 : Int64))), .second, .val (.long ((p1 &&& (9223372036854775807 : Int64)) + (1 : Int64))), .second, .val (.long ((p1 &&& (9223372036854775807 : Int64)) + (1 : Int64))), .second, .val (.long (((p1 &&& (9223372036854775807 : Int64)) + (1 : Int64)) + (1 : Int64))), .second, .val (.long (((p1 &&& (9223372036854775807 : Int64)) + (1 : Int64)) + (1 : Int64))), .second] [(.int (XT.cmpL ((p1 &&& (9223372036854775807 : Int64)) + (1 : Int64)) ((p1 &&& (9223372036854775807 : Int64)) + (1 : Int64))))])) _
        refine XS.ifNo X24.here hx rfl (hb hby at_86) rfl (XT.ll_ne_f hc86_25) ?_
        show Steps p.tables e below (T24.setTop (mkF m 89 #[.val (.long p1), .second, .val (.int p2), .val (.ref b1), .val (.int (0 : Int32)), .val (.long (p1 &&& (9223372036854775807 : Int64))), .second, .val (.long ((p1 &&& (9223372036854775807 : Int64)) + (1 : Int64))), .second, .val (.long ((p1 &&& (9223372036854775807 : Int64)) + (1 : Int64))), .second, .val (.long (((p1 &&& (9223372036854775807 : Int64)) + (1 : Int64)) + (1 : Int64))), .second, .val (.long (((p1 &&& (9223372036854775807 : Int64)) + (1 : Int64)) + (1 : Int64))), .second] [])) _
        refine XT.lload X24.here hx rfl (hb hby at_89) rfl ?_
        show Steps p.tables e below (T24.setTop (mkF m 91 #[.val (.long p1), .second, .val (.int p2), .val (.ref b1), .val (.int (0 : Int32)), .val (.long (p1 &&& (9223372036854775807 : Int64))), .second, .val (.long ((p1 &&& (9223372036854775807 : Int64)) + (1 : Int64))), .second, .val (.long ((p1 &&& (9223372036854775807 : Int64)) + (1 : Int64))), .second, .val (.long (((p1 &&& (9223372036854775807 : Int64)) + (1 : Int64)) + (1 : Int64))), .second, .val (.long (((p1 &&& (9223372036854775807 : Int64)) + (1 : Int64)) + (1 : Int64))), .second] [(.long (((p1 &&& (9223372036854775807 : Int64)) + (1 : Int64)) + (1 : Int64)))])) _
        refine XT.lload X24.here hx rfl (hb hby at_91) rfl ?_
        show Steps p.tables e below (T24.setTop (mkF m 93 #[.val (.long p1), .second, .val (.int p2), .val (.ref b1), .val (.int (0 : Int32)), .val (.long (p1 &&& (9223372036854775807 : Int64))), .second, .val (.long ((p1 &&& (9223372036854775807 : Int64)) + (1 : Int64))), .second, .val (.long ((p1 &&& (9223372036854775807 : Int64)) + (1 : Int64))), .second, .val (.long (((p1 &&& (9223372036854775807 : Int64)) + (1 : Int64)) + (1 : Int64))), .second, .val (.long (((p1 &&& (9223372036854775807 : Int64)) + (1 : Int64)) + (1 : Int64))), .second] [(.long ((p1 &&& (9223372036854775807 : Int64)) + (1 : Int64))), (.long (((p1 &&& (9223372036854775807 : Int64)) + (1 : Int64)) + (1 : Int64)))])) _
        refine XT.lconst X24.here hx rfl (hb hby at_93) ?_
        show Steps p.tables e below (T24.setTop (mkF m 94 #[.val (.long p1), .second, .val (.int p2), .val (.ref b1), .val (.int (0 : Int32)), .val (.long (p1 &&& (9223372036854775807 : Int64))), .second, .val (.long ((p1 &&& (9223372036854775807 : Int64)) + (1 : Int64))), .second, .val (.long ((p1 &&& (9223372036854775807 : Int64)) + (1 : Int64))), .second, .val (.long (((p1 &&& (9223372036854775807 : Int64)) + (1 : Int64)) + (1 : Int64))), .second, .val (.long (((p1 &&& (9223372036854775807 : Int64)) + (1 : Int64)) + (1 : Int64))), .second] [(.long (1 : Int64)), (.long ((p1 &&& (9223372036854775807 : Int64)) + (1 : Int64))), (.long (((p1 &&& (9223372036854775807 : Int64)) + (1 : Int64)) + (1 : Int64)))])) _
        refine XT.ladd X24.here hx rfl (hb hby at_94) rfl ?_
        show Steps p.tables e below (T24.setTop (mkF m 95 #[.val (.long p1), .second, .val (.int p2), .val (.ref b1), .val (.int (0 : Int32)), .val (.long (p1 &&& (9223372036854775807 : Int64))), .second, .val (.long ((p1 &&& (9223372036854775807 : Int64)) + (1 : Int64))), .second, .val (.long ((p1 &&& (9223372036854775807 : Int64)) + (1 : Int64))), .second, .val (.long (((p1 &&& (9223372036854775807 : Int64)) + (1 : Int64)) + (1 : Int64))), .second, .val (.long (((p1 &&& (9223372036854775807 : Int64)) + (1 : Int64)) + (1 : Int64))), .second] [(.long (((p1 &&& (9223372036854775807 : Int64)) + (1 : Int64)) + (1 : Int64))), (.long (((p1 &&& (9223372036854775807 : Int64)) + (1 : Int64)) + (1 : Int64)))])) _
        refine XT.lcmp X24.here hx rfl (hb hby at_95) rfl ?_
        show Steps p.tables e below (T24.setTop (mkF m 96 #[.val (.long p1), .second, .val (.int p2), .val (.ref b1), .val (.int (0 : Int32)), .val (.long (p1 &&& (9223372036854775807 : Int64))), .second, .val (.long ((p1 &&& (9223372036854775807 : Int64)) + (1 : Int64))), .second, .val (.long ((p1 &&& (9223372036854775807 : Int64)) + (1 : Int64))), .second, .val (.long (((p1 &&& (9223372036854775807 : Int64)) + (1 : Int64)) + (1 : Int64))), .second, .val (.long (((p1 &&& (9223372036854775807 : Int64)) + (1 : Int64)) + (1 : Int64))), .second] [(.int (XT.cmpL (((p1 &&& (9223372036854775807 : Int64)) + (1 : Int64)) + (1 : Int64)) (((p1 &&& (9223372036854775807 : Int64)) + (1 : Int64)) + (1 : Int64))))])) _
        refine XS.ifNo X24.here hx rfl (hb hby at_96) rfl (XT.ll_ne_f hc96_26) ?_
        show Steps p.tables e below (T24.setTop (mkF m 99 #[.val (.long p1), .second, .val (.int p2), .val (.ref b1), .val (.int (0 : Int32)), .val (.long (p1 &&& (9223372036854775807 : Int64))), .second, .val (.long ((p1 &&& (9223372036854775807 : Int64)) + (1 : Int64))), .second, .val (.long ((p1 &&& (9223372036854775807 : Int64)) + (1 : Int64))), .second, .val (.long (((p1 &&& (9223372036854775807 : Int64)) + (1 : Int64)) + (1 : Int64))), .second, .val (.long (((p1 &&& (9223372036854775807 : Int64)) + (1 : Int64)) + (1 : Int64))), .second] [])) _
        refine XT.lload X24.here hx rfl (hb hby at_99) rfl ?_
        show Steps p.tables e below (T24.setTop (mkF m 101 #[.val (.long p1), .second, .val (.int p2), .val (.ref b1), .val (.int (0 : Int32)), .val (.long (p1 &&& (9223372036854775807 : Int64))), .second, .val (.long ((p1 &&& (9223372036854775807 : Int64)) + (1 : Int64))), .second, .val (.long ((p1 &&& (9223372036854775807 : Int64)) + (1 : Int64))), .second, .val (.long (((p1 &&& (9223372036854775807 : Int64)) + (1 : Int64)) + (1 : Int64))), .second, .val (.long (((p1 &&& (9223372036854775807 : Int64)) + (1 : Int64)) + (1 : Int64))), .second] [(.long (((p1 &&& (9223372036854775807 : Int64)) + (1 : Int64)) + (1 : Int64)))])) _
        refine XT.lload X24.here hx rfl (hb hby at_101) rfl ?_
        show Steps p.tables e below (T24.setTop (mkF m 103 #[.val (.long p1), .second, .val (.int p2), .val (.ref b1), .val (.int (0 : Int32)), .val (.long (p1 &&& (9223372036854775807 : Int64))), .second, .val (.long ((p1 &&& (9223372036854775807 : Int64)) + (1 : Int64))), .second, .val (.long ((p1 &&& (9223372036854775807 : Int64)) + (1 : Int64))), .second, .val (.long (((p1 &&& (9223372036854775807 : Int64)) + (1 : Int64)) + (1 : Int64))), .second, .val (.long (((p1 &&& (9223372036854775807 : Int64)) + (1 : Int64)) + (1 : Int64))), .second] [(.long (((p1 &&& (9223372036854775807 : Int64)) + (1 : Int64)) + (1 : Int64))), (.long (((p1 &&& (9223372036854775807 : Int64)) + (1 : Int64)) + (1 : Int64)))])) _
        refine XT.lcmp X24.here hx rfl (hb hby at_103) rfl ?_
        show Steps p.tables e below (T24.setTop (mkF m 104 #[.val (.long p1), .second, .val (.int p2), .val (.ref b1), .val (.int (0 : Int32)), .val (.long (p1 &&& (9223372036854775807 : Int64))), .second, .val (.long ((p1 &&& (9223372036854775807 : Int64)) + (1 : Int64))), .second, .val (.long ((p1 &&& (9223372036854775807 : Int64)) + (1 : Int64))), .second, .val (.long (((p1 &&& (9223372036854775807 : Int64)) + (1 : Int64)) + (1 : Int64))), .second, .val (.long (((p1 &&& (9223372036854775807 : Int64)) + (1 : Int64)) + (1 : Int64))), .second] [(.int (XT.cmpL (((p1 &&& (9223372036854775807 : Int64)) + (1 : Int64)) + (1 : Int64)) (((p1 &&& (9223372036854775807 : Int64)) + (1 : Int64)) + (1 : Int64))))])) _
        refine XS.ifNo X24.here hx rfl (hb hby at_104) rfl (XT.ll_ne_f hc104_27) ?_
        show Steps p.tables e below (T24.setTop (mkF m 107 #[.val (.long p1), .second, .val (.int p2), .val (.ref b1), .val (.int (0 : Int32)), .val (.long (p1 &&& (9223372036854775807 : Int64))), .second, .val (.long ((p1 &&& (9223372036854775807 : Int64)) + (1 : Int64))), .second, .val (.long ((p1 &&& (9223372036854775807 : Int64)) + (1 : Int64))), .second, .val (.long (((p1 &&& (9223372036854775807 : Int64)) + (1 : Int64)) + (1 : Int64))), .second, .val (.long (((p1 &&& (9223372036854775807 : Int64)) + (1 : Int64)) + (1 : Int64))), .second] [])) _
        refine XS.iconst X24.here hx rfl (hb hby at_107) ?_
        show Steps p.tables e below (T24.setTop (mkF m 108 #[.val (.long p1), .second, .val (.int p2), .val (.ref b1), .val (.int (0 : Int32)), .val (.long (p1 &&& (9223372036854775807 : Int64))), .second, .val (.long ((p1 &&& (9223372036854775807 : Int64)) + (1 : Int64))), .second, .val (.long ((p1 &&& (9223372036854775807 : Int64)) + (1 : Int64))), .second, .val (.long (((p1 &&& (9223372036854775807 : Int64)) + (1 : Int64)) + (1 : Int64))), .second, .val (.long (((p1 &&& (9223372036854775807 : Int64)) + (1 : Int64)) + (1 : Int64))), .second] [(.int (1 : Int32))])) _
        refine XS.goto X24.here hx rfl (pc0 := 108) (pc' := 112) rfl (hb hby at_108) (by decide) (by decide) ?_
        exact kt)
      obtain ⟨fs, hr, hrun, hended, hW, hsame⟩ := X24.leave (v := some (.int (1 : Int32))) (fun h => by rw [Bd.returns] at h; cases h)
      refine ⟨_, _, P28 _ ?_, hrun, hended, _, _, rfl, ?_, ⟨_, rfl⟩, hW, hsame.mono (by decide) (by decide)⟩
      · exact retN X24 hx (t := .boolean) Bd.returns (by simp) (hb hby at_112) hr
      · show Q0 Z p1 p2 h0 n0 _ T24.heap _
        rw [e24]
        exact ⟨rfl, N24⟩
  · skip
    have P30 : ∀ t, Steps p.tables e below (T2.setTop (mkF m 34 #[.val (.long p1), .second, .val (.int p2), .val (.ref b1), .val (.int (1 : Int32)), .val (.long (p1 &&& (9223372036854775807 : Int64))), .second, .unset, .unset, .unset, .unset, .unset, .unset, .unset, .unset] [(.int (XT.cmpL (p1 &&& (9223372036854775807 : Int64)) (9223372036854775805 : Int64)))])) t → Steps p.tables e below (s₁.setTop (entryFrame m #[(.long p1), (.int p2)] maxLocals)) t := fun t kt => P4 t (by
      show Steps p.tables e below (T2.setTop (mkF m 11 #[.val (.long p1), .second, .val (.int p2), .val (.ref b1), .unset, .unset, .unset, .unset, .unset, .unset, .unset, .unset, .unset, .unset, .unset] [(.int (p2 &&& (1 : Int32)))])) _
      refine XS.ifNo X2.here hx rfl (hb hby at_11) rfl (XT.i0_eq_f hc11_3) ?_
      show Steps p.tables e below (T2.setTop (mkF m 14 #[.val (.long p1), .second, .val (.int p2), .val (.ref b1), .unset, .unset, .unset, .unset, .unset, .unset, .unset, .unset, .unset, .unset, .unset] [])) _
      refine XS.iconst X2.here hx rfl (hb hby at_14) ?_
      show Steps p.tables e below (T2.setTop (mkF m 15 #[.val (.long p1), .second, .val (.int p2), .val (.ref b1), .unset, .unset, .unset, .unset, .unset, .unset, .unset, .unset, .unset, .unset, .unset] [(.int (1 : Int32))])) _
      refine XS.goto X2.here hx rfl (pc0 := 15) (pc' := 19) rfl (hb hby at_15) (by decide) (by decide) ?_
      show Steps p.tables e below (T2.setTop (mkF m 19 #[.val (.long p1), .second, .val (.int p2), .val (.ref b1), .unset, .unset, .unset, .unset, .unset, .unset, .unset, .unset, .unset, .unset, .unset] [(.int (1 : Int32))])) _
      refine XS.istore X2.here hx rfl (hb hby at_19) rfl (l' := #[.val (.long p1), .second, .val (.int p2), .val (.ref b1), .val (.int (1 : Int32)), .unset, .unset, .unset, .unset, .unset, .unset, .unset, .unset, .unset, .unset]) rfl ?_
      show Steps p.tables e below (T2.setTop (mkF m 21 #[.val (.long p1), .second, .val (.int p2), .val (.ref b1), .val (.int (1 : Int32)), .unset, .unset, .unset, .unset, .unset, .unset, .unset, .unset, .unset, .unset] [])) _
      refine XT.lloadN X2.here hx rfl (hb hby at_21) rfl ?_
      show Steps p.tables e below (T2.setTop (mkF m 22 #[.val (.long p1), .second, .val (.int p2), .val (.ref b1), .val (.int (1 : Int32)), .unset, .unset, .unset, .unset, .unset, .unset, .unset, .unset, .unset, .unset] [(.long p1)])) _
      refine X2.ldc2J hx hown (mvT hZ (hw _ (List.mem_of_getElem? (i := 9) rfl))) rfl (hb hby at_22) ?_
      show Steps p.tables e below (T2.setTop (mkF m 25 #[.val (.long p1), .second, .val (.int p2), .val (.ref b1), .val (.int (1 : Int32)), .unset, .unset, .unset, .unset, .unset, .unset, .unset, .unset, .unset, .unset] [(.long (9223372036854775807 : Int64)), (.long p1)])) _
      refine XT.land X2.here hx rfl (hb hby at_25) rfl ?_
      show Steps p.tables e below (T2.setTop (mkF m 26 #[.val (.long p1), .second, .val (.int p2), .val (.ref b1), .val (.int (1 : Int32)), .unset, .unset, .unset, .unset, .unset, .unset, .unset, .unset, .unset, .unset] [(.long (p1 &&& (9223372036854775807 : Int64)))])) _
      refine XT.lstore X2.here hx rfl (hb hby at_26) rfl (l' := #[.val (.long p1), .second, .val (.int p2), .val (.ref b1), .val (.int (1 : Int32)), .val (.long (p1 &&& (9223372036854775807 : Int64))), .second, .unset, .unset, .unset, .unset, .unset, .unset, .unset, .unset]) rfl ?_
      show Steps p.tables e below (T2.setTop (mkF m 28 #[.val (.long p1), .second, .val (.int p2), .val (.ref b1), .val (.int (1 : Int32)), .val (.long (p1 &&& (9223372036854775807 : Int64))), .second, .unset, .unset, .unset, .unset, .unset, .unset, .unset, .unset] [])) _
      refine XT.lload X2.here hx rfl (hb hby at_28) rfl ?_
      show Steps p.tables e below (T2.setTop (mkF m 30 #[.val (.long p1), .second, .val (.int p2), .val (.ref b1), .val (.int (1 : Int32)), .val (.long (p1 &&& (9223372036854775807 : Int64))), .second, .unset, .unset, .unset, .unset, .unset, .unset, .unset, .unset] [(.long (p1 &&& (9223372036854775807 : Int64)))])) _
      refine X2.ldc2J hx hown (mvT hZ (hw _ (List.mem_of_getElem? (i := 10) rfl))) rfl (hb hby at_30) ?_
      show Steps p.tables e below (T2.setTop (mkF m 33 #[.val (.long p1), .second, .val (.int p2), .val (.ref b1), .val (.int (1 : Int32)), .val (.long (p1 &&& (9223372036854775807 : Int64))), .second, .unset, .unset, .unset, .unset, .unset, .unset, .unset, .unset] [(.long (9223372036854775805 : Int64)), (.long (p1 &&& (9223372036854775807 : Int64)))])) _
      refine XT.lcmp X2.here hx rfl (hb hby at_33) rfl ?_
      exact kt)
    by_cases hc34_29 : (9223372036854775805 : Int64) < (p1 &&& (9223372036854775807 : Int64))
    · skip
      have hc47_31 : ¬ ((1 : Int32) = (0 : Int32)) := by decide
      obtain ⟨cq32, kq32, q32a, q32b, q32c⟩ := isOf hZ e2 A1
      obtain ⟨_, _, ⟨T32, L32, k32, n32⟩, -, X32, ⟨Lc32, hQ32, l32, y32, z32⟩, st32⟩ := X2.virtualBack hx (y := (⟨"com/example/anchovy/anchovy/clock/LamportClock", "time", "()J"⟩ : MethodName)) (z := (⟨"com/example/anchovy/anchovy/clock/LamportClock", "time", "()J"⟩ : MethodName)) hown (mvT hZ (hw _ (List.mem_of_getElem? (i := 26) rfl))) (mvT hZ (hw _ (List.mem_of_getElem? (i := 27) rfl))) (notFace_of_selects (args := #[]) (mvT hZ (hw _ (List.mem_of_getElem? (i := 29) rfl)))) (mvT hZ (hw _ (List.mem_of_getElem? (i := 29) rfl))) (mvT hZ (hw _ (List.mem_of_getElem? (i := 28) rfl))) (by decide) (backOf (W := 0) (rmT l Z a0 hw [] b1 (0 : Int64) h1 n0 Zs1 A1 F1_time) hZ (hw _ (List.mem_of_getElem? (i := 30) rfl)) (hw _ (List.mem_of_getElem? (i := 2) rfl)) (by decide) (by decide)) q32a q32c (g := (mkF m 64 #[.val (.long p1), .second, .val (.int p2), .val (.ref b1), .val (.int (1 : Int32)), .val (.long (9223372036854775805 : Int64)), .second, .val (.long (0 : Int64)), .second, .unset, .unset, .unset, .unset, .unset, .unset] [(.ref b1)])) rfl (by rw [hml]; rfl) (Steps.refl _) (argsL := []) (rest := []) (lenOf pd_3 rfl) rfl (by show 2 * 0 + _ ≤ _; exact Nat.le_of_eq rfl) (hb hby at_64) (fun _ _ => ⟨rfl, e2, (by decide : 1 + 0 ≤ _), (by decide : 1 + 0 ≤ _)⟩)
      dsimp only [Pt.U, Pt.locs, Pt.cells, Pt.slots] at X32 l32 y32 z32 st32 hQ32
      subst l32 y32 z32
      obtain ⟨rfl, N32q, e32⟩ := hQ32
      have N32 := Fr.app N2 N32q
      obtain ⟨cq33, kq33, q33a, q33b, q33c⟩ := isOf hZ e32 A1
      obtain ⟨_, _, ⟨T33, L33, k33, n33⟩, -, X33, ⟨Lc33, hQ33, l33, y33, z33⟩, st33⟩ := X32.virtualBack hx (y := (⟨"com/example/anchovy/anchovy/clock/LamportClock", "onSend", "()J"⟩ : MethodName)) (z := (⟨"com/example/anchovy/anchovy/clock/LamportClock", "onSend", "()J"⟩ : MethodName)) hown (mvT hZ (hw _ (List.mem_of_getElem? (i := 31) rfl))) (mvT hZ (hw _ (List.mem_of_getElem? (i := 32) rfl))) (notFace_of_selects (args := #[]) (mvT hZ (hw _ (List.mem_of_getElem? (i := 34) rfl)))) (mvT hZ (hw _ (List.mem_of_getElem? (i := 34) rfl))) (mvT hZ (hw _ (List.mem_of_getElem? (i := 33) rfl))) (by decide) (backOf (W := 0) (rmS l Z a0 hw [] b1 (0 : Int64) h1 n0 Zs1 A1 F1_time g_b1 (by decide)) hZ (hw _ (List.mem_of_getElem? (i := 35) rfl)) (hw _ (List.mem_of_getElem? (i := 2) rfl)) (by decide) (by decide)) q33a q33c (g := (mkF m 70 #[.val (.long p1), .second, .val (.int p2), .val (.ref b1), .val (.int (1 : Int32)), .val (.long (9223372036854775805 : Int64)), .second, .val (.long (0 : Int64)), .second, .val (.long (0 : Int64)), .second, .unset, .unset, .unset, .unset] [(.ref b1)])) rfl (by rw [hml]; rfl) (Steps.refl _) (argsL := []) (rest := []) (lenOf pd_3 rfl) rfl (by show 2 * 0 + _ ≤ _; exact Nat.le_of_eq rfl) (hb hby at_70) (fun _ _ => ⟨rfl, e32, (by decide : 1 + 0 ≤ _), (by decide : 1 + 0 ≤ _)⟩)
      dsimp only [Pt.U, Pt.locs, Pt.cells, Pt.slots] at X33 l33 y33 z33 st33 hQ33
      subst l33 y33 z33
      obtain ⟨rfl, N33q, Kq33, Eq33, Fq33_time⟩ := hQ33
      have N33 := Fr.app N32 N33q
      have c34 := A1.keep Kq33
      have Zs33 : n0 ≤ T33.heap.size := Nat.le_trans Zs1 Kq33.1
      obtain ⟨cq35, kq35, q35a, q35b, q35c⟩ := isOf hZ rfl c34
      obtain ⟨_, _, ⟨T35, L35, k35, n35⟩, -, X35, ⟨Lc35, hQ35, l35, y35, z35⟩, st35⟩ := X33.virtualBack hx (y := (⟨"com/example/anchovy/anchovy/clock/LamportClock", "time", "()J"⟩ : MethodName)) (z := (⟨"com/example/anchovy/anchovy/clock/LamportClock", "time", "()J"⟩ : MethodName)) hown (mvT hZ (hw _ (List.mem_of_getElem? (i := 26) rfl))) (mvT hZ (hw _ (List.mem_of_getElem? (i := 27) rfl))) (notFace_of_selects (args := #[]) (mvT hZ (hw _ (List.mem_of_getElem? (i := 29) rfl)))) (mvT hZ (hw _ (List.mem_of_getElem? (i := 29) rfl))) (mvT hZ (hw _ (List.mem_of_getElem? (i := 28) rfl))) (by decide) (backOf (W := 0) (rmT l Z a0 hw [] b1 ((0 : Int64) + (1 : Int64)) T33.heap n0 Zs33 c34 Fq33_time) hZ (hw _ (List.mem_of_getElem? (i := 30) rfl)) (hw _ (List.mem_of_getElem? (i := 2) rfl)) (by decide) (by decide)) q35a q35c (g := (mkF m 76 #[.val (.long p1), .second, .val (.int p2), .val (.ref b1), .val (.int (1 : Int32)), .val (.long (9223372036854775805 : Int64)), .second, .val (.long (0 : Int64)), .second, .val (.long (0 : Int64)), .second, .val (.long ((0 : Int64) + (1 : Int64))), .second, .unset, .unset] [(.ref b1)])) rfl (by rw [hml]; rfl) (Steps.refl _) (argsL := []) (rest := []) (lenOf pd_3 rfl) rfl (by show 2 * 0 + _ ≤ _; exact Nat.le_of_eq rfl) (hb hby at_76) (fun _ _ => ⟨rfl, rfl, (by decide : 1 + 0 ≤ _), (by decide : 1 + 0 ≤ _)⟩)
      dsimp only [Pt.U, Pt.locs, Pt.cells, Pt.slots] at X35 l35 y35 z35 st35 hQ35
      subst l35 y35 z35
      obtain ⟨rfl, N35q, e35⟩ := hQ35
      have N35 := Fr.app N33 N35q
      have hc86_36 : (0 : Int64) = (0 : Int64) := rfl
      have hc96_37 : ((0 : Int64) + (1 : Int64)) = ((0 : Int64) + (1 : Int64)) := rfl
      have hc104_38 : ((0 : Int64) + (1 : Int64)) = ((0 : Int64) + (1 : Int64)) := rfl
      have P39 : ∀ t, Steps p.tables e below (T35.setTop (mkF m 112 #[.val (.long p1), .second, .val (.int p2), .val (.ref b1), .val (.int (1 : Int32)), .val (.long (9223372036854775805 : Int64)), .second, .val (.long (0 : Int64)), .second, .val (.long (0 : Int64)), .second, .val (.long ((0 : Int64) + (1 : Int64))), .second, .val (.long ((0 : Int64) + (1 : Int64))), .second] [(.int (1 : Int32))])) t → Steps p.tables e below (s₁.setTop (entryFrame m #[(.long p1), (.int p2)] maxLocals)) t := fun t kt => P30 t (by
        show Steps p.tables e below (T2.setTop (mkF m 34 #[.val (.long p1), .second, .val (.int p2), .val (.ref b1), .val (.int (1 : Int32)), .val (.long (p1 &&& (9223372036854775807 : Int64))), .second, .unset, .unset, .unset, .unset, .unset, .unset, .unset, .unset] [(.int (XT.cmpL (p1 &&& (9223372036854775807 : Int64)) (9223372036854775805 : Int64)))])) _
        refine XS.ifNo X2.here hx rfl (hb hby at_34) rfl (XT.ll_le_f hc34_29) ?_
        show Steps p.tables e below (T2.setTop (mkF m 37 #[.val (.long p1), .second, .val (.int p2), .val (.ref b1), .val (.int (1 : Int32)), .val (.long (p1 &&& (9223372036854775807 : Int64))), .second, .unset, .unset, .unset, .unset, .unset, .unset, .unset, .unset] [])) _
        refine X2.ldc2J hx hown (mvT hZ (hw _ (List.mem_of_getElem? (i := 10) rfl))) rfl (hb hby at_37) ?_
        show Steps p.tables e below (T2.setTop (mkF m 40 #[.val (.long p1), .second, .val (.int p2), .val (.ref b1), .val (.int (1 : Int32)), .val (.long (p1 &&& (9223372036854775807 : Int64))), .second, .unset, .unset, .unset, .unset, .unset, .unset, .unset, .unset] [(.long (9223372036854775805 : Int64))])) _
        refine XT.lstore X2.here hx rfl (hb hby at_40) rfl (l' := #[.val (.long p1), .second, .val (.int p2), .val (.ref b1), .val (.int (1 : Int32)), .val (.long (9223372036854775805 : Int64)), .second, .unset, .unset, .unset, .unset, .unset, .unset, .unset, .unset]) rfl ?_
        show Steps p.tables e below (T2.setTop (mkF m 42 #[.val (.long p1), .second, .val (.int p2), .val (.ref b1), .val (.int (1 : Int32)), .val (.long (9223372036854775805 : Int64)), .second, .unset, .unset, .unset, .unset, .unset, .unset, .unset, .unset] [])) _
        refine XT.lconst X2.here hx rfl (hb hby at_42) ?_
        show Steps p.tables e below (T2.setTop (mkF m 43 #[.val (.long p1), .second, .val (.int p2), .val (.ref b1), .val (.int (1 : Int32)), .val (.long (9223372036854775805 : Int64)), .second, .unset, .unset, .unset, .unset, .unset, .unset, .unset, .unset] [(.long (0 : Int64))])) _
        refine XT.lstore X2.here hx rfl (hb hby at_43) rfl (l' := #[.val (.long p1), .second, .val (.int p2), .val (.ref b1), .val (.int (1 : Int32)), .val (.long (9223372036854775805 : Int64)), .second, .val (.long (0 : Int64)), .second, .unset, .unset, .unset, .unset, .unset, .unset]) rfl ?_
        show Steps p.tables e below (T2.setTop (mkF m 45 #[.val (.long p1), .second, .val (.int p2), .val (.ref b1), .val (.int (1 : Int32)), .val (.long (9223372036854775805 : Int64)), .second, .val (.long (0 : Int64)), .second, .unset, .unset, .unset, .unset, .unset, .unset] [])) _
        refine XS.iload X2.here hx rfl (hb hby at_45) rfl ?_
        show Steps p.tables e below (T2.setTop (mkF m 47 #[.val (.long p1), .second, .val (.int p2), .val (.ref b1), .val (.int (1 : Int32)), .val (.long (9223372036854775805 : Int64)), .second, .val (.long (0 : Int64)), .second, .unset, .unset, .unset, .unset, .unset, .unset] [(.int (1 : Int32))])) _
        refine XS.ifYes X2.here hx rfl (pc0 := 47) (pc' := 63) rfl (hb hby at_47) rfl (XT.i0_ne_t hc47_31) (by decide) (by decide) ?_
        show Steps p.tables e below (T2.setTop (mkF m 63 #[.val (.long p1), .second, .val (.int p2), .val (.ref b1), .val (.int (1 : Int32)), .val (.long (9223372036854775805 : Int64)), .second, .val (.long (0 : Int64)), .second, .unset, .unset, .unset, .unset, .unset, .unset] [])) _
        refine XS.aloadN X2.here hx rfl (hb hby at_63) rfl rfl ?_
        show Steps p.tables e below (T2.setTop (mkF m 64 #[.val (.long p1), .second, .val (.int p2), .val (.ref b1), .val (.int (1 : Int32)), .val (.long (9223372036854775805 : Int64)), .second, .val (.long (0 : Int64)), .second, .unset, .unset, .unset, .unset, .unset, .unset] [(.ref b1)])) _
        refine st32.trans ?_
        show Steps p.tables e below (T32.setTop (mkF m 67 #[.val (.long p1), .second, .val (.int p2), .val (.ref b1), .val (.int (1 : Int32)), .val (.long (9223372036854775805 : Int64)), .second, .val (.long (0 : Int64)), .second, .unset, .unset, .unset, .unset, .unset, .unset] [(.long (0 : Int64))])) _
        refine XT.lstore X32.here hx rfl (hb hby at_67) rfl (l' := #[.val (.long p1), .second, .val (.int p2), .val (.ref b1), .val (.int (1 : Int32)), .val (.long (9223372036854775805 : Int64)), .second, .val (.long (0 : Int64)), .second, .val (.long (0 : Int64)), .second, .unset, .unset, .unset, .unset]) rfl ?_
        show Steps p.tables e below (T32.setTop (mkF m 69 #[.val (.long p1), .second, .val (.int p2), .val (.ref b1), .val (.int (1 : Int32)), .val (.long (9223372036854775805 : Int64)), .second, .val (.long (0 : Int64)), .second, .val (.long (0 : Int64)), .second, .unset, .unset, .unset, .unset] [])) _
        refine XS.aloadN X32.here hx rfl (hb hby at_69) rfl rfl ?_
        show Steps p.tables e below (T32.setTop (mkF m 70 #[.val (.long p1), .second, .val (.int p2), .val (.ref b1), .val (.int (1 : Int32)), .val (.long (9223372036854775805 : Int64)), .second, .val (.long (0 : Int64)), .second, .val (.long (0 : Int64)), .second, .unset, .unset, .unset, .unset] [(.ref b1)])) _
        refine st33.trans ?_
        show Steps p.tables e below (T33.setTop (mkF m 73 #[.val (.long p1), .second, .val (.int p2), .val (.ref b1), .val (.int (1 : Int32)), .val (.long (9223372036854775805 : Int64)), .second, .val (.long (0 : Int64)), .second, .val (.long (0 : Int64)), .second, .unset, .unset, .unset, .unset] [(.long ((0 : Int64) + (1 : Int64)))])) _
        refine XT.lstore X33.here hx rfl (hb hby at_73) rfl (l' := #[.val (.long p1), .second, .val (.int p2), .val (.ref b1), .val (.int (1 : Int32)), .val (.long (9223372036854775805 : Int64)), .second, .val (.long (0 : Int64)), .second, .val (.long (0 : Int64)), .second, .val (.long ((0 : Int64) + (1 : Int64))), .second, .unset, .unset]) rfl ?_
        show Steps p.tables e below (T33.setTop (mkF m 75 #[.val (.long p1), .second, .val (.int p2), .val (.ref b1), .val (.int (1 : Int32)), .val (.long (9223372036854775805 : Int64)), .second, .val (.long (0 : Int64)), .second, .val (.long (0 : Int64)), .second, .val (.long ((0 : Int64) + (1 : Int64))), .second, .unset, .unset] [])) _
        refine XS.aloadN X33.here hx rfl (hb hby at_75) rfl rfl ?_
        show Steps p.tables e below (T33.setTop (mkF m 76 #[.val (.long p1), .second, .val (.int p2), .val (.ref b1), .val (.int (1 : Int32)), .val (.long (9223372036854775805 : Int64)), .second, .val (.long (0 : Int64)), .second, .val (.long (0 : Int64)), .second, .val (.long ((0 : Int64) + (1 : Int64))), .second, .unset, .unset] [(.ref b1)])) _
        refine st35.trans ?_
        show Steps p.tables e below (T35.setTop (mkF m 79 #[.val (.long p1), .second, .val (.int p2), .val (.ref b1), .val (.int (1 : Int32)), .val (.long (9223372036854775805 : Int64)), .second, .val (.long (0 : Int64)), .second, .val (.long (0 : Int64)), .second, .val (.long ((0 : Int64) + (1 : Int64))), .second, .unset, .unset] [(.long ((0 : Int64) + (1 : Int64)))])) _
        refine XT.lstore X35.here hx rfl (hb hby at_79) rfl (l' := #[.val (.long p1), .second, .val (.int p2), .val (.ref b1), .val (.int (1 : Int32)), .val (.long (9223372036854775805 : Int64)), .second, .val (.long (0 : Int64)), .second, .val (.long (0 : Int64)), .second, .val (.long ((0 : Int64) + (1 : Int64))), .second, .val (.long ((0 : Int64) + (1 : Int64))), .second]) rfl ?_
        show Steps p.tables e below (T35.setTop (mkF m 81 #[.val (.long p1), .second, .val (.int p2), .val (.ref b1), .val (.int (1 : Int32)), .val (.long (9223372036854775805 : Int64)), .second, .val (.long (0 : Int64)), .second, .val (.long (0 : Int64)), .second, .val (.long ((0 : Int64) + (1 : Int64))), .second, .val (.long ((0 : Int64) + (1 : Int64))), .second] [])) _
        refine XT.lload X35.here hx rfl (hb hby at_81) rfl ?_
        show Steps p.tables e below (T35.setTop (mkF m 83 #[.val (.long p1), .second, .val (.int p2), .val (.ref b1), .val (.int (1 : Int32)), .val (.long (9223372036854775805 : Int64)), .second, .val (.long (0 : Int64)), .second, .val (.long (0 : Int64)), .second, .val (.long ((0 : Int64) + (1 : Int64))), .second, .val (.long ((0 : Int64) + (1 : Int64))), .second] [(.long (0 : Int64))])) _
        refine XT.lload X35.here hx rfl (hb hby at_83) rfl ?_
        show Steps p.tables e below (T35.setTop (mkF m 85 #[.val (.long p1), .second, .val (.int p2), .val (.ref b1), .val (.int (1 : Int32)), .val (.long (9223372036854775805 : Int64)), .second, .val (.long (0 : Int64)), .second, .val (.long (0 : Int64)), .second, .val (.long ((0 : Int64) + (1 : Int64))), .second, .val (.long ((0 : Int64) + (1 : Int64))), .second] [(.long (0 : Int64)), (.long (0 : Int64))])) _
        refine XT.lcmp X35.here hx rfl (hb hby at_85) rfl ?_
        show Steps p.tables e below (T35.setTop (mkF m 86 #[.val (.long p1), .second, .val (.int p2), .val (.ref b1), .val (.int (1 : Int32)), .val (.long (9223372036854775805 : Int64)), .second, .val (.long (0 : Int64)), .second, .val (.long (0 : Int64)), .second, .val (.long ((0 : Int64) + (1 : Int64))), .second, .val (.long ((0 : Int64) + (1 : Int64))), .second] [(.int (XT.cmpL (0 : Int64) (0 : Int64)))])) _
        refine XS.ifNo X35.here hx rfl (hb hby at_86) rfl (XT.ll_ne_f hc86_36) ?_
        show Steps p.tables e below (T35.setTop (mkF m 89 #[.val (.long p1), .second, .val (.int p2), .val (.ref b1), .val (.int (1 : Int32)), .val (.long (9223372036854775805 : Int64)), .second, .val (.long (0 : Int64)), .second, .val (.long (0 : Int64)), .second, .val (.long ((0 : Int64) + (1 : Int64))), .second, .val (.long ((0 : Int64) + (1 : Int64))), .second] [])) _
        refine XT.lload X35.here hx rfl (hb hby at_89) rfl ?_
        show Steps p.tables e below (T35.setTop (mkF m 91 #[.val (.long p1), .second, .val (.int p2), .val (.ref b1), .val (.int (1 : Int32)), .val (.long (9223372036854775805 : Int64)), .second, .val (.long (0 : Int64)), .second, .val (.long (0 : Int64)), .second, .val (.long ((0 : Int64) + (1 : Int64))), .second, .val (.long ((0 : Int64) + (1 : Int64))), .second] [(.long ((0 : Int64) + (1 : Int64)))])) _
        refine XT.lload X35.here hx rfl (hb hby at_91) rfl ?_
        show Steps p.tables e below (T35.setTop (mkF m 93 #[.val (.long p1), .second, .val (.int p2), .val (.ref b1), .val (.int (1 : Int32)), .val (.long (9223372036854775805 : Int64)), .second, .val (.long (0 : Int64)), .second, .val (.long (0 : Int64)), .second, .val (.long ((0 : Int64) + (1 : Int64))), .second, .val (.long ((0 : Int64) + (1 : Int64))), .second] [(.long (0 : Int64)), (.long ((0 : Int64) + (1 : Int64)))])) _
        refine XT.lconst X35.here hx rfl (hb hby at_93) ?_
        show Steps p.tables e below (T35.setTop (mkF m 94 #[.val (.long p1), .second, .val (.int p2), .val (.ref b1), .val (.int (1 : Int32)), .val (.long (9223372036854775805 : Int64)), .second, .val (.long (0 : Int64)), .second, .val (.long (0 : Int64)), .second, .val (.long ((0 : Int64) + (1 : Int64))), .second, .val (.long ((0 : Int64) + (1 : Int64))), .second] [(.long (1 : Int64)), (.long (0 : Int64)), (.long ((0 : Int64) + (1 : Int64)))])) _
        refine XT.ladd X35.here hx rfl (hb hby at_94) rfl ?_
        show Steps p.tables e below (T35.setTop (mkF m 95 #[.val (.long p1), .second, .val (.int p2), .val (.ref b1), .val (.int (1 : Int32)), .val (.long (9223372036854775805 : Int64)), .second, .val (.long (0 : Int64)), .second, .val (.long (0 : Int64)), .second, .val (.long ((0 : Int64) + (1 : Int64))), .second, .val (.long ((0 : Int64) + (1 : Int64))), .second] [(.long ((0 : Int64) + (1 : Int64))), (.long ((0 : Int64) + (1 : Int64)))])) _
        refine XT.lcmp X35.here hx rfl (hb hby at_95) rfl ?_
        show Steps p.tables e below (T35.setTop (mkF m 96 #[.val (.long p1), .second, .val (.int p2), .val (.ref b1), .val (.int (1 : Int32)), .val (.long (9223372036854775805 : Int64)), .second, .val (.long (0 : Int64)), .second, .val (.long (0 : Int64)), .second, .val (.long ((0 : Int64) + (1 : Int64))), .second, .val (.long ((0 : Int64) + (1 : Int64))), .second] [(.int (XT.cmpL ((0 : Int64) + (1 : Int64)) ((0 : Int64) + (1 : Int64))))])) _
        refine XS.ifNo X35.here hx rfl (hb hby at_96) rfl (XT.ll_ne_f hc96_37) ?_
        show Steps p.tables e below (T35.setTop (mkF m 99 #[.val (.long p1), .second, .val (.int p2), .val (.ref b1), .val (.int (1 : Int32)), .val (.long (9223372036854775805 : Int64)), .second, .val (.long (0 : Int64)), .second, .val (.long (0 : Int64)), .second, .val (.long ((0 : Int64) + (1 : Int64))), .second, .val (.long ((0 : Int64) + (1 : Int64))), .second] [])) _
        refine XT.lload X35.here hx rfl (hb hby at_99) rfl ?_
        show Steps p.tables e below (T35.setTop (mkF m 101 #[.val (.long p1), .second, .val (.int p2), .val (.ref b1), .val (.int (1 : Int32)), .val (.long (9223372036854775805 : Int64)), .second, .val (.long (0 : Int64)), .second, .val (.long (0 : Int64)), .second, .val (.long ((0 : Int64) + (1 : Int64))), .second, .val (.long ((0 : Int64) + (1 : Int64))), .second] [(.long ((0 : Int64) + (1 : Int64)))])) _
        refine XT.lload X35.here hx rfl (hb hby at_101) rfl ?_
        show Steps p.tables e below (T35.setTop (mkF m 103 #[.val (.long p1), .second, .val (.int p2), .val (.ref b1), .val (.int (1 : Int32)), .val (.long (9223372036854775805 : Int64)), .second, .val (.long (0 : Int64)), .second, .val (.long (0 : Int64)), .second, .val (.long ((0 : Int64) + (1 : Int64))), .second, .val (.long ((0 : Int64) + (1 : Int64))), .second] [(.long ((0 : Int64) + (1 : Int64))), (.long ((0 : Int64) + (1 : Int64)))])) _
        refine XT.lcmp X35.here hx rfl (hb hby at_103) rfl ?_
        show Steps p.tables e below (T35.setTop (mkF m 104 #[.val (.long p1), .second, .val (.int p2), .val (.ref b1), .val (.int (1 : Int32)), .val (.long (9223372036854775805 : Int64)), .second, .val (.long (0 : Int64)), .second, .val (.long (0 : Int64)), .second, .val (.long ((0 : Int64) + (1 : Int64))), .second, .val (.long ((0 : Int64) + (1 : Int64))), .second] [(.int (XT.cmpL ((0 : Int64) + (1 : Int64)) ((0 : Int64) + (1 : Int64))))])) _
        refine XS.ifNo X35.here hx rfl (hb hby at_104) rfl (XT.ll_ne_f hc104_38) ?_
        show Steps p.tables e below (T35.setTop (mkF m 107 #[.val (.long p1), .second, .val (.int p2), .val (.ref b1), .val (.int (1 : Int32)), .val (.long (9223372036854775805 : Int64)), .second, .val (.long (0 : Int64)), .second, .val (.long (0 : Int64)), .second, .val (.long ((0 : Int64) + (1 : Int64))), .second, .val (.long ((0 : Int64) + (1 : Int64))), .second] [])) _
        refine XS.iconst X35.here hx rfl (hb hby at_107) ?_
        show Steps p.tables e below (T35.setTop (mkF m 108 #[.val (.long p1), .second, .val (.int p2), .val (.ref b1), .val (.int (1 : Int32)), .val (.long (9223372036854775805 : Int64)), .second, .val (.long (0 : Int64)), .second, .val (.long (0 : Int64)), .second, .val (.long ((0 : Int64) + (1 : Int64))), .second, .val (.long ((0 : Int64) + (1 : Int64))), .second] [(.int (1 : Int32))])) _
        refine XS.goto X35.here hx rfl (pc0 := 108) (pc' := 112) rfl (hb hby at_108) (by decide) (by decide) ?_
        exact kt)
      obtain ⟨fs, hr, hrun, hended, hW, hsame⟩ := X35.leave (v := some (.int (1 : Int32))) (fun h => by rw [Bd.returns] at h; cases h)
      refine ⟨_, _, P39 _ ?_, hrun, hended, _, _, rfl, ?_, ⟨_, rfl⟩, hW, hsame.mono (by decide) (by decide)⟩
      · exact retN X35 hx (t := .boolean) Bd.returns (by simp) (hb hby at_112) hr
      · show Q0 Z p1 p2 h0 n0 _ T35.heap _
        rw [e35]
        exact ⟨rfl, N35⟩
    · skip
      have hc47_40 : ¬ ((1 : Int32) = (0 : Int32)) := by decide
      obtain ⟨cq41, kq41, q41a, q41b, q41c⟩ := isOf hZ e2 A1
      obtain ⟨_, _, ⟨T41, L41, k41, n41⟩, -, X41, ⟨Lc41, hQ41, l41, y41, z41⟩, st41⟩ := X2.virtualBack hx (y := (⟨"com/example/anchovy/anchovy/clock/LamportClock", "time", "()J"⟩ : MethodName)) (z := (⟨"com/example/anchovy/anchovy/clock/LamportClock", "time", "()J"⟩ : MethodName)) hown (mvT hZ (hw _ (List.mem_of_getElem? (i := 26) rfl))) (mvT hZ (hw _ (List.mem_of_getElem? (i := 27) rfl))) (notFace_of_selects (args := #[]) (mvT hZ (hw _ (List.mem_of_getElem? (i := 29) rfl)))) (mvT hZ (hw _ (List.mem_of_getElem? (i := 29) rfl))) (mvT hZ (hw _ (List.mem_of_getElem? (i := 28) rfl))) (by decide) (backOf (W := 0) (rmT l Z a0 hw [] b1 (0 : Int64) h1 n0 Zs1 A1 F1_time) hZ (hw _ (List.mem_of_getElem? (i := 30) rfl)) (hw _ (List.mem_of_getElem? (i := 2) rfl)) (by decide) (by decide)) q41a q41c (g := (mkF m 64 #[.val (.long p1), .second, .val (.int p2), .val (.ref b1), .val (.int (1 : Int32)), .val (.long (p1 &&& (9223372036854775807 : Int64))), .second, .val (.long (0 : Int64)), .second, .unset, .unset, .unset, .unset, .unset, .unset] [(.ref b1)])) rfl (by rw [hml]; rfl) (Steps.refl _) (argsL := []) (rest := []) (lenOf pd_3 rfl) rfl (by show 2 * 0 + _ ≤ _; exact Nat.le_of_eq rfl) (hb hby at_64) (fun _ _ => ⟨rfl, e2, (by decide : 1 + 0 ≤ _), (by decide : 1 + 0 ≤ _)⟩)
      dsimp only [Pt.U, Pt.locs, Pt.cells, Pt.slots] at X41 l41 y41 z41 st41 hQ41
      subst l41 y41 z41
      obtain ⟨rfl, N41q, e41⟩ := hQ41
      have N41 := Fr.app N2 N41q
      obtain ⟨cq42, kq42, q42a, q42b, q42c⟩ := isOf hZ e41 A1
      obtain ⟨_, _, ⟨T42, L42, k42, n42⟩, -, X42, ⟨Lc42, hQ42, l42, y42, z42⟩, st42⟩ := X41.virtualBack hx (y := (⟨"com/example/anchovy/anchovy/clock/LamportClock", "onSend", "()J"⟩ : MethodName)) (z := (⟨"com/example/anchovy/anchovy/clock/LamportClock", "onSend", "()J"⟩ : MethodName)) hown (mvT hZ (hw _ (List.mem_of_getElem? (i := 31) rfl))) (mvT hZ (hw _ (List.mem_of_getElem? (i := 32) rfl))) (notFace_of_selects (args := #[]) (mvT hZ (hw _ (List.mem_of_getElem? (i := 34) rfl)))) (mvT hZ (hw _ (List.mem_of_getElem? (i := 34) rfl))) (mvT hZ (hw _ (List.mem_of_getElem? (i := 33) rfl))) (by decide) (backOf (W := 0) (rmS l Z a0 hw [] b1 (0 : Int64) h1 n0 Zs1 A1 F1_time g_b1 (by decide)) hZ (hw _ (List.mem_of_getElem? (i := 35) rfl)) (hw _ (List.mem_of_getElem? (i := 2) rfl)) (by decide) (by decide)) q42a q42c (g := (mkF m 70 #[.val (.long p1), .second, .val (.int p2), .val (.ref b1), .val (.int (1 : Int32)), .val (.long (p1 &&& (9223372036854775807 : Int64))), .second, .val (.long (0 : Int64)), .second, .val (.long (0 : Int64)), .second, .unset, .unset, .unset, .unset] [(.ref b1)])) rfl (by rw [hml]; rfl) (Steps.refl _) (argsL := []) (rest := []) (lenOf pd_3 rfl) rfl (by show 2 * 0 + _ ≤ _; exact Nat.le_of_eq rfl) (hb hby at_70) (fun _ _ => ⟨rfl, e41, (by decide : 1 + 0 ≤ _), (by decide : 1 + 0 ≤ _)⟩)
      dsimp only [Pt.U, Pt.locs, Pt.cells, Pt.slots] at X42 l42 y42 z42 st42 hQ42
      subst l42 y42 z42
      obtain ⟨rfl, N42q, Kq42, Eq42, Fq42_time⟩ := hQ42
      have N42 := Fr.app N41 N42q
      have c43 := A1.keep Kq42
      have Zs42 : n0 ≤ T42.heap.size := Nat.le_trans Zs1 Kq42.1
      obtain ⟨cq44, kq44, q44a, q44b, q44c⟩ := isOf hZ rfl c43
      obtain ⟨_, _, ⟨T44, L44, k44, n44⟩, -, X44, ⟨Lc44, hQ44, l44, y44, z44⟩, st44⟩ := X42.virtualBack hx (y := (⟨"com/example/anchovy/anchovy/clock/LamportClock", "time", "()J"⟩ : MethodName)) (z := (⟨"com/example/anchovy/anchovy/clock/LamportClock", "time", "()J"⟩ : MethodName)) hown (mvT hZ (hw _ (List.mem_of_getElem? (i := 26) rfl))) (mvT hZ (hw _ (List.mem_of_getElem? (i := 27) rfl))) (notFace_of_selects (args := #[]) (mvT hZ (hw _ (List.mem_of_getElem? (i := 29) rfl)))) (mvT hZ (hw _ (List.mem_of_getElem? (i := 29) rfl))) (mvT hZ (hw _ (List.mem_of_getElem? (i := 28) rfl))) (by decide) (backOf (W := 0) (rmT l Z a0 hw [] b1 ((0 : Int64) + (1 : Int64)) T42.heap n0 Zs42 c43 Fq42_time) hZ (hw _ (List.mem_of_getElem? (i := 30) rfl)) (hw _ (List.mem_of_getElem? (i := 2) rfl)) (by decide) (by decide)) q44a q44c (g := (mkF m 76 #[.val (.long p1), .second, .val (.int p2), .val (.ref b1), .val (.int (1 : Int32)), .val (.long (p1 &&& (9223372036854775807 : Int64))), .second, .val (.long (0 : Int64)), .second, .val (.long (0 : Int64)), .second, .val (.long ((0 : Int64) + (1 : Int64))), .second, .unset, .unset] [(.ref b1)])) rfl (by rw [hml]; rfl) (Steps.refl _) (argsL := []) (rest := []) (lenOf pd_3 rfl) rfl (by show 2 * 0 + _ ≤ _; exact Nat.le_of_eq rfl) (hb hby at_76) (fun _ _ => ⟨rfl, rfl, (by decide : 1 + 0 ≤ _), (by decide : 1 + 0 ≤ _)⟩)
      dsimp only [Pt.U, Pt.locs, Pt.cells, Pt.slots] at X44 l44 y44 z44 st44 hQ44
      subst l44 y44 z44
      obtain ⟨rfl, N44q, e44⟩ := hQ44
      have N44 := Fr.app N42 N44q
      have hc86_45 : (0 : Int64) = (0 : Int64) := rfl
      have hc96_46 : ((0 : Int64) + (1 : Int64)) = ((0 : Int64) + (1 : Int64)) := rfl
      have hc104_47 : ((0 : Int64) + (1 : Int64)) = ((0 : Int64) + (1 : Int64)) := rfl
      have P48 : ∀ t, Steps p.tables e below (T44.setTop (mkF m 112 #[.val (.long p1), .second, .val (.int p2), .val (.ref b1), .val (.int (1 : Int32)), .val (.long (p1 &&& (9223372036854775807 : Int64))), .second, .val (.long (0 : Int64)), .second, .val (.long (0 : Int64)), .second, .val (.long ((0 : Int64) + (1 : Int64))), .second, .val (.long ((0 : Int64) + (1 : Int64))), .second] [(.int (1 : Int32))])) t → Steps p.tables e below (s₁.setTop (entryFrame m #[(.long p1), (.int p2)] maxLocals)) t := fun t kt => P30 t (by
        show Steps p.tables e below (T2.setTop (mkF m 34 #[.val (.long p1), .second, .val (.int p2), .val (.ref b1), .val (.int (1 : Int32)), .val (.long (p1 &&& (9223372036854775807 : Int64))), .second, .unset, .unset, .unset, .unset, .unset, .unset, .unset, .unset] [(.int (XT.cmpL (p1 &&& (9223372036854775807 : Int64)) (9223372036854775805 : Int64)))])) _
        refine XS.ifYes X2.here hx rfl (pc0 := 34) (pc' := 42) rfl (hb hby at_34) rfl (XT.ll_le_t hc34_29) (by decide) (by decide) ?_
        show Steps p.tables e below (T2.setTop (mkF m 42 #[.val (.long p1), .second, .val (.int p2), .val (.ref b1), .val (.int (1 : Int32)), .val (.long (p1 &&& (9223372036854775807 : Int64))), .second, .unset, .unset, .unset, .unset, .unset, .unset, .unset, .unset] [])) _
        refine XT.lconst X2.here hx rfl (hb hby at_42) ?_
        show Steps p.tables e below (T2.setTop (mkF m 43 #[.val (.long p1), .second, .val (.int p2), .val (.ref b1), .val (.int (1 : Int32)), .val (.long (p1 &&& (9223372036854775807 : Int64))), .second, .unset, .unset, .unset, .unset, .unset, .unset, .unset, .unset] [(.long (0 : Int64))])) _
        refine XT.lstore X2.here hx rfl (hb hby at_43) rfl (l' := #[.val (.long p1), .second, .val (.int p2), .val (.ref b1), .val (.int (1 : Int32)), .val (.long (p1 &&& (9223372036854775807 : Int64))), .second, .val (.long (0 : Int64)), .second, .unset, .unset, .unset, .unset, .unset, .unset]) rfl ?_
        show Steps p.tables e below (T2.setTop (mkF m 45 #[.val (.long p1), .second, .val (.int p2), .val (.ref b1), .val (.int (1 : Int32)), .val (.long (p1 &&& (9223372036854775807 : Int64))), .second, .val (.long (0 : Int64)), .second, .unset, .unset, .unset, .unset, .unset, .unset] [])) _
        refine XS.iload X2.here hx rfl (hb hby at_45) rfl ?_
        show Steps p.tables e below (T2.setTop (mkF m 47 #[.val (.long p1), .second, .val (.int p2), .val (.ref b1), .val (.int (1 : Int32)), .val (.long (p1 &&& (9223372036854775807 : Int64))), .second, .val (.long (0 : Int64)), .second, .unset, .unset, .unset, .unset, .unset, .unset] [(.int (1 : Int32))])) _
        refine XS.ifYes X2.here hx rfl (pc0 := 47) (pc' := 63) rfl (hb hby at_47) rfl (XT.i0_ne_t hc47_40) (by decide) (by decide) ?_
        show Steps p.tables e below (T2.setTop (mkF m 63 #[.val (.long p1), .second, .val (.int p2), .val (.ref b1), .val (.int (1 : Int32)), .val (.long (p1 &&& (9223372036854775807 : Int64))), .second, .val (.long (0 : Int64)), .second, .unset, .unset, .unset, .unset, .unset, .unset] [])) _
        refine XS.aloadN X2.here hx rfl (hb hby at_63) rfl rfl ?_
        show Steps p.tables e below (T2.setTop (mkF m 64 #[.val (.long p1), .second, .val (.int p2), .val (.ref b1), .val (.int (1 : Int32)), .val (.long (p1 &&& (9223372036854775807 : Int64))), .second, .val (.long (0 : Int64)), .second, .unset, .unset, .unset, .unset, .unset, .unset] [(.ref b1)])) _
        refine st41.trans ?_
        show Steps p.tables e below (T41.setTop (mkF m 67 #[.val (.long p1), .second, .val (.int p2), .val (.ref b1), .val (.int (1 : Int32)), .val (.long (p1 &&& (9223372036854775807 : Int64))), .second, .val (.long (0 : Int64)), .second, .unset, .unset, .unset, .unset, .unset, .unset] [(.long (0 : Int64))])) _
        refine XT.lstore X41.here hx rfl (hb hby at_67) rfl (l' := #[.val (.long p1), .second, .val (.int p2), .val (.ref b1), .val (.int (1 : Int32)), .val (.long (p1 &&& (9223372036854775807 : Int64))), .second, .val (.long (0 : Int64)), .second, .val (.long (0 : Int64)), .second, .unset, .unset, .unset, .unset]) rfl ?_
        show Steps p.tables e below (T41.setTop (mkF m 69 #[.val (.long p1), .second, .val (.int p2), .val (.ref b1), .val (.int (1 : Int32)), .val (.long (p1 &&& (9223372036854775807 : Int64))), .second, .val (.long (0 : Int64)), .second, .val (.long (0 : Int64)), .second, .unset, .unset, .unset, .unset] [])) _
        refine XS.aloadN X41.here hx rfl (hb hby at_69) rfl rfl ?_
        show Steps p.tables e below (T41.setTop (mkF m 70 #[.val (.long p1), .second, .val (.int p2), .val (.ref b1), .val (.int (1 : Int32)), .val (.long (p1 &&& (9223372036854775807 : Int64))), .second, .val (.long (0 : Int64)), .second, .val (.long (0 : Int64)), .second, .unset, .unset, .unset, .unset] [(.ref b1)])) _
        refine st42.trans ?_
        show Steps p.tables e below (T42.setTop (mkF m 73 #[.val (.long p1), .second, .val (.int p2), .val (.ref b1), .val (.int (1 : Int32)), .val (.long (p1 &&& (9223372036854775807 : Int64))), .second, .val (.long (0 : Int64)), .second, .val (.long (0 : Int64)), .second, .unset, .unset, .unset, .unset] [(.long ((0 : Int64) + (1 : Int64)))])) _
        refine XT.lstore X42.here hx rfl (hb hby at_73) rfl (l' := #[.val (.long p1), .second, .val (.int p2), .val (.ref b1), .val (.int (1 : Int32)), .val (.long (p1 &&& (9223372036854775807 : Int64))), .second, .val (.long (0 : Int64)), .second, .val (.long (0 : Int64)), .second, .val (.long ((0 : Int64) + (1 : Int64))), .second, .unset, .unset]) rfl ?_
        show Steps p.tables e below (T42.setTop (mkF m 75 #[.val (.long p1), .second, .val (.int p2), .val (.ref b1), .val (.int (1 : Int32)), .val (.long (p1 &&& (9223372036854775807 : Int64))), .second, .val (.long (0 : Int64)), .second, .val (.long (0 : Int64)), .second, .val (.long ((0 : Int64) + (1 : Int64))), .second, .unset, .unset] [])) _
        refine XS.aloadN X42.here hx rfl (hb hby at_75) rfl rfl ?_
        show Steps p.tables e below (T42.setTop (mkF m 76 #[.val (.long p1), .second, .val (.int p2), .val (.ref b1), .val (.int (1 : Int32)), .val (.long (p1 &&& (9223372036854775807 : Int64))), .second, .val (.long (0 : Int64)), .second, .val (.long (0 : Int64)), .second, .val (.long ((0 : Int64) + (1 : Int64))), .second, .unset, .unset] [(.ref b1)])) _
        refine st44.trans ?_
        show Steps p.tables e below (T44.setTop (mkF m 79 #[.val (.long p1), .second, .val (.int p2), .val (.ref b1), .val (.int (1 : Int32)), .val (.long (p1 &&& (9223372036854775807 : Int64))), .second, .val (.long (0 : Int64)), .second, .val (.long (0 : Int64)), .second, .val (.long ((0 : Int64) + (1 : Int64))), .second, .unset, .unset] [(.long ((0 : Int64) + (1 : Int64)))])) _
        refine XT.lstore X44.here hx rfl (hb hby at_79) rfl (l' := #[.val (.long p1), .second, .val (.int p2), .val (.ref b1), .val (.int (1 : Int32)), .val (.long (p1 &&& (9223372036854775807 : Int64))), .second, .val (.long (0 : Int64)), .second, .val (.long (0 : Int64)), .second, .val (.long ((0 : Int64) + (1 : Int64))), .second, .val (.long ((0 : Int64) + (1 : Int64))), .second]) rfl ?_
        show Steps p.tables e below (T44.setTop (mkF m 81 #[.val (.long p1), .second, .val (.int p2), .val (.ref b1), .val (.int (1 : Int32)), .val (.long (p1 &&& (9223372036854775807 : Int64))), .second, .val (.long (0 : Int64)), .second, .val (.long (0 : Int64)), .second, .val (.long ((0 : Int64) + (1 : Int64))), .second, .val (.long ((0 : Int64) + (1 : Int64))), .second] [])) _
        refine XT.lload X44.here hx rfl (hb hby at_81) rfl ?_
        show Steps p.tables e below (T44.setTop (mkF m 83 #[.val (.long p1), .second, .val (.int p2), .val (.ref b1), .val (.int (1 : Int32)), .val (.long (p1 &&& (9223372036854775807 : Int64))), .second, .val (.long (0 : Int64)), .second, .val (.long (0 : Int64)), .second, .val (.long ((0 : Int64) + (1 : Int64))), .second, .val (.long ((0 : Int64) + (1 : Int64))), .second] [(.long (0 : Int64))])) _
        refine XT.lload X44.here hx rfl (hb hby at_83) rfl ?_
        show Steps p.tables e below (T44.setTop (mkF m 85 #[.val (.long p1), .second, .val (.int p2), .val (.ref b1), .val (.int (1 : Int32)), .val (.long (p1 &&& (9223372036854775807 : Int64))), .second, .val (.long (0 : Int64)), .second, .val (.long (0 : Int64)), .second, .val (.long ((0 : Int64) + (1 : Int64))), .second, .val (.long ((0 : Int64) + (1 : Int64))), .second] [(.long (0 : Int64)), (.long (0 : Int64))])) _
        refine XT.lcmp X44.here hx rfl (hb hby at_85) rfl ?_
        show Steps p.tables e below (T44.setTop (mkF m 86 #[.val (.long p1), .second, .val (.int p2), .val (.ref b1), .val (.int (1 : Int32)), .val (.long (p1 &&& (9223372036854775807 : Int64))), .second, .val (.long (0 : Int64)), .second, .val (.long (0 : Int64)), .second, .val (.long ((0 : Int64) + (1 : Int64))), .second, .val (.long ((0 : Int64) + (1 : Int64))), .second] [(.int (XT.cmpL (0 : Int64) (0 : Int64)))])) _
        refine XS.ifNo X44.here hx rfl (hb hby at_86) rfl (XT.ll_ne_f hc86_45) ?_
        show Steps p.tables e below (T44.setTop (mkF m 89 #[.val (.long p1), .second, .val (.int p2), .val (.ref b1), .val (.int (1 : Int32)), .val (.long (p1 &&& (9223372036854775807 : Int64))), .second, .val (.long (0 : Int64)), .second, .val (.long (0 : Int64)), .second, .val (.long ((0 : Int64) + (1 : Int64))), .second, .val (.long ((0 : Int64) + (1 : Int64))), .second] [])) _
        refine XT.lload X44.here hx rfl (hb hby at_89) rfl ?_
        show Steps p.tables e below (T44.setTop (mkF m 91 #[.val (.long p1), .second, .val (.int p2), .val (.ref b1), .val (.int (1 : Int32)), .val (.long (p1 &&& (9223372036854775807 : Int64))), .second, .val (.long (0 : Int64)), .second, .val (.long (0 : Int64)), .second, .val (.long ((0 : Int64) + (1 : Int64))), .second, .val (.long ((0 : Int64) + (1 : Int64))), .second] [(.long ((0 : Int64) + (1 : Int64)))])) _
        refine XT.lload X44.here hx rfl (hb hby at_91) rfl ?_
        show Steps p.tables e below (T44.setTop (mkF m 93 #[.val (.long p1), .second, .val (.int p2), .val (.ref b1), .val (.int (1 : Int32)), .val (.long (p1 &&& (9223372036854775807 : Int64))), .second, .val (.long (0 : Int64)), .second, .val (.long (0 : Int64)), .second, .val (.long ((0 : Int64) + (1 : Int64))), .second, .val (.long ((0 : Int64) + (1 : Int64))), .second] [(.long (0 : Int64)), (.long ((0 : Int64) + (1 : Int64)))])) _
        refine XT.lconst X44.here hx rfl (hb hby at_93) ?_
        show Steps p.tables e below (T44.setTop (mkF m 94 #[.val (.long p1), .second, .val (.int p2), .val (.ref b1), .val (.int (1 : Int32)), .val (.long (p1 &&& (9223372036854775807 : Int64))), .second, .val (.long (0 : Int64)), .second, .val (.long (0 : Int64)), .second, .val (.long ((0 : Int64) + (1 : Int64))), .second, .val (.long ((0 : Int64) + (1 : Int64))), .second] [(.long (1 : Int64)), (.long (0 : Int64)), (.long ((0 : Int64) + (1 : Int64)))])) _
        refine XT.ladd X44.here hx rfl (hb hby at_94) rfl ?_
        show Steps p.tables e below (T44.setTop (mkF m 95 #[.val (.long p1), .second, .val (.int p2), .val (.ref b1), .val (.int (1 : Int32)), .val (.long (p1 &&& (9223372036854775807 : Int64))), .second, .val (.long (0 : Int64)), .second, .val (.long (0 : Int64)), .second, .val (.long ((0 : Int64) + (1 : Int64))), .second, .val (.long ((0 : Int64) + (1 : Int64))), .second] [(.long ((0 : Int64) + (1 : Int64))), (.long ((0 : Int64) + (1 : Int64)))])) _
        refine XT.lcmp X44.here hx rfl (hb hby at_95) rfl ?_
        show Steps p.tables e below (T44.setTop (mkF m 96 #[.val (.long p1), .second, .val (.int p2), .val (.ref b1), .val (.int (1 : Int32)), .val (.long (p1 &&& (9223372036854775807 : Int64))), .second, .val (.long (0 : Int64)), .second, .val (.long (0 : Int64)), .second, .val (.long ((0 : Int64) + (1 : Int64))), .second, .val (.long ((0 : Int64) + (1 : Int64))), .second] [(.int (XT.cmpL ((0 : Int64) + (1 : Int64)) ((0 : Int64) + (1 : Int64))))])) _
        refine XS.ifNo X44.here hx rfl (hb hby at_96) rfl (XT.ll_ne_f hc96_46) ?_
        show Steps p.tables e below (T44.setTop (mkF m 99 #[.val (.long p1), .second, .val (.int p2), .val (.ref b1), .val (.int (1 : Int32)), .val (.long (p1 &&& (9223372036854775807 : Int64))), .second, .val (.long (0 : Int64)), .second, .val (.long (0 : Int64)), .second, .val (.long ((0 : Int64) + (1 : Int64))), .second, .val (.long ((0 : Int64) + (1 : Int64))), .second] [])) _
        refine XT.lload X44.here hx rfl (hb hby at_99) rfl ?_
        show Steps p.tables e below (T44.setTop (mkF m 101 #[.val (.long p1), .second, .val (.int p2), .val (.ref b1), .val (.int (1 : Int32)), .val (.long (p1 &&& (9223372036854775807 : Int64))), .second, .val (.long (0 : Int64)), .second, .val (.long (0 : Int64)), .second, .val (.long ((0 : Int64) + (1 : Int64))), .second, .val (.long ((0 : Int64) + (1 : Int64))), .second] [(.long ((0 : Int64) + (1 : Int64)))])) _
        refine XT.lload X44.here hx rfl (hb hby at_101) rfl ?_
        show Steps p.tables e below (T44.setTop (mkF m 103 #[.val (.long p1), .second, .val (.int p2), .val (.ref b1), .val (.int (1 : Int32)), .val (.long (p1 &&& (9223372036854775807 : Int64))), .second, .val (.long (0 : Int64)), .second, .val (.long (0 : Int64)), .second, .val (.long ((0 : Int64) + (1 : Int64))), .second, .val (.long ((0 : Int64) + (1 : Int64))), .second] [(.long ((0 : Int64) + (1 : Int64))), (.long ((0 : Int64) + (1 : Int64)))])) _
        refine XT.lcmp X44.here hx rfl (hb hby at_103) rfl ?_
        show Steps p.tables e below (T44.setTop (mkF m 104 #[.val (.long p1), .second, .val (.int p2), .val (.ref b1), .val (.int (1 : Int32)), .val (.long (p1 &&& (9223372036854775807 : Int64))), .second, .val (.long (0 : Int64)), .second, .val (.long (0 : Int64)), .second, .val (.long ((0 : Int64) + (1 : Int64))), .second, .val (.long ((0 : Int64) + (1 : Int64))), .second] [(.int (XT.cmpL ((0 : Int64) + (1 : Int64)) ((0 : Int64) + (1 : Int64))))])) _
        refine XS.ifNo X44.here hx rfl (hb hby at_104) rfl (XT.ll_ne_f hc104_47) ?_
        show Steps p.tables e below (T44.setTop (mkF m 107 #[.val (.long p1), .second, .val (.int p2), .val (.ref b1), .val (.int (1 : Int32)), .val (.long (p1 &&& (9223372036854775807 : Int64))), .second, .val (.long (0 : Int64)), .second, .val (.long (0 : Int64)), .second, .val (.long ((0 : Int64) + (1 : Int64))), .second, .val (.long ((0 : Int64) + (1 : Int64))), .second] [])) _
        refine XS.iconst X44.here hx rfl (hb hby at_107) ?_
        show Steps p.tables e below (T44.setTop (mkF m 108 #[.val (.long p1), .second, .val (.int p2), .val (.ref b1), .val (.int (1 : Int32)), .val (.long (p1 &&& (9223372036854775807 : Int64))), .second, .val (.long (0 : Int64)), .second, .val (.long (0 : Int64)), .second, .val (.long ((0 : Int64) + (1 : Int64))), .second, .val (.long ((0 : Int64) + (1 : Int64))), .second] [(.int (1 : Int32))])) _
        refine XS.goto X44.here hx rfl (pc0 := 108) (pc' := 112) rfl (hb hby at_108) (by decide) (by decide) ?_
        exact kt)
      obtain ⟨fs, hr, hrun, hended, hW, hsame⟩ := X44.leave (v := some (.int (1 : Int32))) (fun h => by rw [Bd.returns] at h; cases h)
      refine ⟨_, _, P48 _ ?_, hrun, hended, _, _, rfl, ?_, ⟨_, rfl⟩, hW, hsame.mono (by decide) (by decide)⟩
      · exact retN X44 hx (t := .boolean) Bd.returns (by simp) (hb hby at_112) hr
      · show Q0 Z p1 p2 h0 n0 _ T44.heap _
        rw [e44]
        exact ⟨rfl, N44⟩
set_option maxRecDepth 65536 in
set_option maxHeartbeats 40000000 in
theorem comes_1 {Post : Tables → Env → Array Value → State → Outcome → State → Prop} (hpost : ∀ tb e args s v u, (limb_1_1.after args s (.returned v) u = true ∧ limb_1_2.after args s (.returned v) u = true ∧ True) → FrameEnd s (.returned v) u (Jvm.fieldLocs frame_1_writes args s ++ Jvm.arrayLocs frame_1_arrays args s ++ Jvm.staticLocs frame_1_statics s) 16 128 → Post tb e args s (.returned v) u) :
    ArmFor flags0 classFile x code maxLocals ret World_1 tables_1 room_1 Calls_1 rest_1 Pre_1 Post := by
  intro l hfl _ _ p e ha hc hk s m args below hf hA hF happ hP
  obtain ⟨hcalls, hrest, hpre⟩ := hP
  obtain ⟨-, -, -, hnamed, -, -, -, hat⟩ := (Spec.applies_iff hf).mp happ
  obtain ⟨hg, hn⟩ := and_e (Cond.before_iff.mp (show (Jvm.Cond.and given_1 narrow_1).before args s = true from hpre))
  obtain ⟨g1, g2⟩ := and_e hg
  obtain ⟨g3, g4⟩ := and_e g2
  obtain ⟨w0, w1, rfl⟩ : ∃ w0 w1 : Value, args = #[w0, w1] := by
    have hs : args.size = 2 := by simpa [Cond.value, given_1] using g1
    obtain ⟨L⟩ := args
    match L, hs with
    | [w0, w1], _ => exact ⟨w0, w1, rfl⟩
  have hw := fun d (hd : d ∈ tables_1) => atoms_spec (ws := Jvm.Cond.code x code maxLocals ret :: tables_1) hat d (List.mem_cons_of_mem _ hd)
  obtain ⟨i0, ei0⟩ := isL_v g3
  obtain rfl : w0 = (.long i0) := Option.some.inj ei0
  obtain ⟨i1, ei1⟩ := is_v g4
  obtain rfl : w1 = (.int i1) := Option.some.inj ei1
  obtain ⟨n, o, h1, h2, h3, _, L, rfl, ⟨rfl, N⟩, hq⟩ := rm0 l s _ hw tables_1 i0 i1 s.heap s.heap.size (Nat.le_refl _) p e ha hc hk s m _ below hf ((Spec.applies_iff_loose hf).mp happ).1 ⟨rfl, State.Warmed39.refl s, rfl⟩ trivial
  refine ⟨n, _, h1, h2, h3, hpost _ _ _ _ _ _ ⟨Cond.after_iff.mpr rfl, Cond.after_iff.mpr (eq_i res_at (Term.int_eval (1)) rfl), trivial⟩ ⟨hq.1, hq.2.1, (hq.2.2.sift fun y hy => Or.inr (N y hy)).mono (by decide) (by decide)⟩⟩
theorem main_1_1 : Claimed_1_1 := comes_1 fun _ _ _ _ _ _ h hF => ⟨h.1, hF⟩
theorem main_1_2 : Claimed_1_2 := comes_1 fun _ _ _ _ _ _ h hF => ⟨h.2.1, hF⟩
end Jvm.Pilot.@@N@@
namespace Jvm.Pilot.@@N@@
open Jvm Jvm.ClassFile Sem Op Lib Jvm.Free Jvm.Stand Jvm.Pilot.@@N@@.Jvm.D
/-! MADE BY PROGRAM (witnessworld.py) out of the Statement's table words and the real class files: 10 classes; the members and pool entries that the words name. The judged class is class 1, her method 1. -/
namespace start1
open Jvm.ClassFile
def u (s : String) : CpInfo := .utf8 (stringToUtf16 s)
/-- a pool by its gaps: so many unusable entries, then the entry; so many at the end -/
def gap : Nat → List CpInfo → List CpInfo
  | 0, r => r
  | n + 1, r => .unusable :: gap n r
def poolList (es : List (Nat × CpInfo)) (last : Nat) : List CpInfo := es.foldr (fun e r => gap e.1 (e.2 :: r)) (gap last [])
def pool (es : List (Nat × CpInfo)) (last : Nat) : Array CpInfo := ⟨poolList es last⟩
def fileOf (pool : Array CpInfo) (this : Nat) (attrs : Array Attribute := #[]) (ms : Array MethodInfo := #[]) (fl : Nat := 33) (sup : Nat := 0) (ifs : Array Nat := #[]) (fds : Array FieldInfo := #[]) : ClassFile where
  minorVersion := 0
  majorVersion := 65
  constantPool := pool
  accessFlags := fl
  thisClass := this
  superClass := sup
  interfaces := ifs
  fields := fds
  methods := ms
  attributes := attrs
def plain (name : String) (sup : Option ClassId) : Class where
  name := name
  kind := .ordinary
  loader := none
  accessFlags := 33
  super := sup
  interfaces := #[]
  cf := none
  fields := #[]
  methods := #[]
  instanceTypes := #[]
  staticTypes := #[]
  resolved := #[]
  callSites := []
  init := .initialized
  statics := none
  mirror := none

def pool0 : Array CpInfo := pool [(5, u "<init>"), (0, u "()V"), (1, .class_ 10), (1, u "java/lang/Object")] 113

def k0c0 : Code := { maxStack := 0, maxLocals := 1, code := object_method_1_code, exceptionTable := #[], attributes := #[] }
def k0m0 : Method := { name := "<init>", desc := "()V", sig := { parameters := [], returnType := none }, accessFlags := 1, code := some k0c0 }
/-- java/lang/Object -/
def k0 : Class := { plain "java/lang/Object" none with
  accessFlags := 33
  interfaces := #[]
  cf := some (fileOf pool0 8 #[] #[{ accessFlags := 1, nameIndex := 5, descriptorIndex := 6, attributes := #[] }] 33 0 #[] #[])
  fields := #[]
  methods := #[k0m0]
  instanceTypes := #[]
  staticTypes := #[]
  resolved := Array.replicate 124 none
  statics := none }

def pool1 : Array CpInfo := pool [(2, .class_ 4), (0, .nameAndType 5 6), (0, u "java/lang/Object"), (0, u "<init>"), (0, u "()V"), (0, .class_ 8), (0, u "com/example/anchovy/anchovy/clock/LamportClock"), (0, .methodref 7 3), (2, .long 9223372036854775807), (1, .long 9223372036854775805), (1, .methodref 7 17), (0, .nameAndType 18 19), (0, u "onReceive"), (0, u "(J)J"), (0, .methodref 7 21), (0, .nameAndType 22 23), (0, u "time"), (0, u "()J"), (0, .methodref 7 25), (0, .nameAndType 26 23), (0, u "onSend"), (0, .class_ 28), (0, u "com/example/anchovy/anchovy/clock/LamportClockOnSendPinLaw"), (2, u "law"), (0, u "(JI)Z")] 3

def k1m0 : Method := { name := "<init>", desc := "()V", sig := { parameters := [], returnType := none }, accessFlags := 1, code := none }
def k1c1 : Code := { maxStack := 6, maxLocals := 15, code := code, exceptionTable := #[], attributes := #[] }
def k1m1 : Method := { name := "law", desc := "(JI)Z", sig := { parameters := [.long, .int], returnType := some .boolean }, accessFlags := 9, code := some k1c1 }
/-- com/example/anchovy/anchovy/clock/LamportClockOnSendPinLaw -/
def k1 : Class := { plain "com/example/anchovy/anchovy/clock/LamportClockOnSendPinLaw" (some 0) with
  accessFlags := 49
  interfaces := #[]
  cf := some (fileOf pool1 27 #[] #[{ accessFlags := 1, nameIndex := 5, descriptorIndex := 6, attributes := #[] }, { accessFlags := 9, nameIndex := 31, descriptorIndex := 32, attributes := #[] }] 49 2 #[] #[])
  fields := #[]
  methods := #[k1m0, k1m1]
  instanceTypes := #[]
  staticTypes := #[]
  resolved := Array.replicate 36 none
  statics := none }

def pool2 : Array CpInfo := pool [(1, .methodref 2 3), (0, .class_ 4), (0, .nameAndType 5 6), (0, u "java/lang/Object"), (0, u "<init>"), (0, u "()V"), (0, .fieldref 8 9), (0, .class_ 10), (0, .nameAndType 11 12), (0, u "com/example/anchovy/anchovy/clock/LamportClock"), (0, u "time"), (0, u "J"), (0, .methodref 14 15), (0, .class_ 16), (0, .nameAndType 17 18), (0, u "java/lang/Math"), (0, u "incrementExact"), (0, u "(J)J"), (9, .methodref 14 29), (0, .nameAndType 30 31), (0, u "max"), (0, u "(JJ)J"), (2, u "()J"), (0, u "onSend"), (0, u "onReceive")] 18

def k2c0 : Code := { maxStack := 1, maxLocals := 1, code := prog_6_method_1_code, exceptionTable := #[], attributes := #[] }
def k2m0 : Method := { name := "<init>", desc := "()V", sig := { parameters := [], returnType := none }, accessFlags := 1, code := some k2c0 }
def k2c1 : Code := { maxStack := 2, maxLocals := 1, code := prog_6_method_2_code, exceptionTable := #[], attributes := #[] }
def k2m1 : Method := { name := "time", desc := "()J", sig := { parameters := [], returnType := some .long }, accessFlags := 1, code := some k2c1 }
def k2c2 : Code := { maxStack := 3, maxLocals := 1, code := prog_6_method_3_code, exceptionTable := #[], attributes := #[] }
def k2m2 : Method := { name := "onSend", desc := "()J", sig := { parameters := [], returnType := some .long }, accessFlags := 1, code := some k2c2 }
def k2c3 : Code := { maxStack := 5, maxLocals := 3, code := prog_6_method_4_code, exceptionTable := #[], attributes := #[] }
def k2m3 : Method := { name := "onReceive", desc := "(J)J", sig := { parameters := [.long], returnType := some .long }, accessFlags := 1, code := some k2c3 }
/-- com/example/anchovy/anchovy/clock/LamportClock -/
def k2 : Class := { plain "com/example/anchovy/anchovy/clock/LamportClock" (some 0) with
  accessFlags := 49
  interfaces := #[]
  cf := some (fileOf pool2 8 #[] #[{ accessFlags := 1, nameIndex := 5, descriptorIndex := 6, attributes := #[] }, { accessFlags := 1, nameIndex := 11, descriptorIndex := 34, attributes := #[] }, { accessFlags := 1, nameIndex := 35, descriptorIndex := 34, attributes := #[] }, { accessFlags := 1, nameIndex := 36, descriptorIndex := 18, attributes := #[] }] 49 2 #[] #[{ accessFlags := 2, nameIndex := 11, descriptorIndex := 12, attributes := #[] }])
  fields := #[{ name := "time", type := .long, accessFlags := 2, slot := 0, constantValue := 0 }]
  methods := #[k2m0, k2m1, k2m2, k2m3]
  instanceTypes := #[.long]
  staticTypes := #[]
  resolved := Array.replicate 55 none
  statics := none }

def pool3 : Array CpInfo := pool [(1, .class_ 2), (0, u "java/lang/Math"), (1, .class_ 6), (1, u "java/lang/Object"), (0, u "<init>"), (0, u "()V"), (89, .class_ 100), (1, u "java/lang/Math$RandomNumberGeneratorHolder"), (20, u "(JJ)J"), (3, u "(J)J"), (9, .long 9223372036854775807), (36, u "negativeZeroFloatBits"), (0, u "J"), (2, u "negativeZeroDoubleBits"), (21, u "max"), (46, u "$assertionsDisabled"), (0, u "Z"), (91, u "twoToTheDoubleScaleDown"), (0, u "D"), (4, u "twoToTheDoubleScaleUp"), (9, u "E"), (3, u "PI"), (2, u "TAU"), (2, u "DEGREES_TO_RADIANS"), (0, u "RADIANS_TO_DEGREES"), (36, u "incrementExact")] 57

def k3m0 : Method := { name := "<init>", desc := "()V", sig := { parameters := [], returnType := none }, accessFlags := 2, code := none }
def k3c1 : Code := { maxStack := 4, maxLocals := 2, code := jdk_29_method_38_code, exceptionTable := #[], attributes := #[] }
def k3m1 : Method := { name := "incrementExact", desc := "(J)J", sig := { parameters := [.long], returnType := some .long }, accessFlags := 9, code := some k3c1 }
def k3c2 : Code := { maxStack := 4, maxLocals := 4, code := jdk_29_method_66_code, exceptionTable := #[], attributes := #[] }
def k3m2 : Method := { name := "max", desc := "(JJ)J", sig := { parameters := [.long, .long], returnType := some .long }, accessFlags := 9, code := some k3c2 }
/-- java/lang/Math -/
def k3 : Class := { plain "java/lang/Math" (some 0) with
  accessFlags := 49
  interfaces := #[]
  cf := some (fileOf pool3 1 #[.nestMembers #[98]] #[{ accessFlags := 2, nameIndex := 7, descriptorIndex := 8, attributes := #[] }, { accessFlags := 9, nameIndex := 402, descriptorIndex := 125, attributes := #[] }, { accessFlags := 9, nameIndex := 198, descriptorIndex := 121, attributes := #[] }] 49 4 #[] #[{ accessFlags := 25, nameIndex := 354, descriptorIndex := 339, attributes := #[] }, { accessFlags := 25, nameIndex := 358, descriptorIndex := 339, attributes := #[] }, { accessFlags := 25, nameIndex := 361, descriptorIndex := 339, attributes := #[] }, { accessFlags := 26, nameIndex := 364, descriptorIndex := 339, attributes := #[] }, { accessFlags := 26, nameIndex := 365, descriptorIndex := 339, attributes := #[] }, { accessFlags := 26, nameIndex := 172, descriptorIndex := 173, attributes := #[] }, { accessFlags := 26, nameIndex := 176, descriptorIndex := 173, attributes := #[] }, { accessFlags := 8, nameIndex := 344, descriptorIndex := 339, attributes := #[] }, { accessFlags := 8, nameIndex := 338, descriptorIndex := 339, attributes := #[] }, { accessFlags := 4120, nameIndex := 245, descriptorIndex := 246, attributes := #[] }])
  fields := #[{ name := "E", type := .double, accessFlags := 25, slot := 0, constantValue := 0 }, { name := "PI", type := .double, accessFlags := 25, slot := 1, constantValue := 0 }, { name := "TAU", type := .double, accessFlags := 25, slot := 2, constantValue := 0 }, { name := "DEGREES_TO_RADIANS", type := .double, accessFlags := 26, slot := 3, constantValue := 0 }, { name := "RADIANS_TO_DEGREES", type := .double, accessFlags := 26, slot := 4, constantValue := 0 }, { name := "negativeZeroFloatBits", type := .long, accessFlags := 26, slot := 5, constantValue := 0 }, { name := "negativeZeroDoubleBits", type := .long, accessFlags := 26, slot := 6, constantValue := 0 }, { name := "twoToTheDoubleScaleUp", type := .double, accessFlags := 8, slot := 7, constantValue := 0 }, { name := "twoToTheDoubleScaleDown", type := .double, accessFlags := 8, slot := 8, constantValue := 0 }, { name := "$assertionsDisabled", type := .boolean, accessFlags := 4120, slot := 9, constantValue := 0 }]
  methods := #[k3m0, k3m1, k3m2]
  instanceTypes := #[]
  staticTypes := #[.double, .double, .double, .double, .double, .long, .long, .double, .double, .boolean]
  resolved := Array.replicate 460 none
  statics := none }

def pool4 : Array CpInfo := pool [(1, u "java/lang/Cloneable"), (0, .class_ 1), (0, u "java/lang/Object"), (0, .class_ 3)] 3

/-- java/lang/Cloneable -/
def k4 : Class := { plain "java/lang/Cloneable" (some 0) with
  accessFlags := 1537
  interfaces := #[]
  cf := some (fileOf pool4 2 #[] #[] 1537 4 #[] #[])
  fields := #[]
  methods := #[]
  instanceTypes := #[]
  staticTypes := #[]
  resolved := Array.replicate 8 none
  statics := none }

def pool5 : Array CpInfo := pool [(1, u "java/io/Serializable"), (0, .class_ 1), (0, u "java/lang/Object"), (0, .class_ 3)] 3

/-- java/io/Serializable -/
def k5 : Class := { plain "java/io/Serializable" (some 0) with
  accessFlags := 1537
  interfaces := #[]
  cf := some (fileOf pool5 2 #[] #[] 1537 4 #[] #[])
  fields := #[]
  methods := #[]
  instanceTypes := #[]
  staticTypes := #[]
  resolved := Array.replicate 8 none
  statics := none }

/-- the primitive byte -/
def k6 : Class := { plain "byte" none with kind := .primitive 'B', accessFlags := 0x411 }
/-- [B -/
def k7 : Class := { plain "[B" (some 0) with kind := .array 6 .byte, interfaces := #[4, 5], accessFlags := 1041 }

/-- the primitive int -/
def k8 : Class := { plain "int" none with kind := .primitive 'I', accessFlags := 0x411 }
/-- [I -/
def k9 : Class := { plain "[I" (some 0) with kind := .array 8 .int, interfaces := #[4, 5], accessFlags := 1041 }

def heap : Heap := #[]
def classes : Array Class := #[k0, k1, k2, k3, k4, k5, k6, k7, k8, k9]
def interned : List (Array UInt16 × Addr) := []
def slotsUsed : Nat := 0
def theMethod : MethodId := ⟨1, 1⟩
def args0 : Array Value := #[.long 5, .int 7]
def aboutOver (below : List Frame) : State where
  vm := { classes := classes, interned := interned.toArray }
  heap := heap
  slotsUsed := slotsUsed
  threads := #[{ frames := .invoking theMethod args0 :: below }]
def below0 : List Frame := [.native { method := ⟨0, 0⟩, args := #[] }]
def about1 : State := aboutOver below0
def p0 : Program := .bare "" "" ""
def e0 : Env := launch0.env 0 0 0
theorem w_frames : about1.frames = Frame.invoking theMethod args0 :: below0 := rfl
set_option maxRecDepth 65536 in
theorem w_args : argsFit about1.vm theMethod args0 = true := by decide +kernel
set_option maxRecDepth 65536 in
theorem w_heap : heapFits about1 = true := by decide +kernel
set_option maxRecDepth 65536 in
theorem w_runnable : about1.curStatus? = some .runnable := by decide +kernel
set_option maxRecDepth 65536 in
theorem w_alone : about1.alone = true := by decide +kernel
set_option maxRecDepth 65536 in
theorem w_named : about1.methodNamed? x = some theMethod := by decide +kernel
set_option maxRecDepth 65536 in
theorem w_hears : about1.hears theMethod below0 = true := by decide +kernel
set_option maxRecDepth 65536 in
theorem w_ripe : about1.ripe theMethod args0 below0 = true := by decide +kernel
theorem w_running : about1.status = .running := rfl
set_option maxRecDepth 65536 in
theorem w_room : about1.hasRoom e0.platform room_1 = true :=
  launch0.hasRoom_least _ room_1 (by decide +kernel) (by decide +kernel) (by decide +kernel) (by decide +kernel) (by decide +kernel) (by decide +kernel)
theorem allAtoms_all (ts : List Jvm.Cond) (a : Array Jvm.Value) (st : Jvm.State) : (allAtoms ts).before a st = ts.all (fun c => c.before a st) := by
  induction ts with
  | nil => rfl
  | cons c t ih =>
    show (Jvm.Cond.and c (allAtoms t)).before a st = _
    rw [Jvm.Cond.before_and, ih, List.all_cons]
def words1 : List Jvm.Cond := Jvm.Cond.code x code maxLocals ret :: tables_1
/-- a 'code' word, met by the world's own term for the bytes: nothing is compared byte by byte -/
theorem code_word {y : MethodName} {bytes : ByteArray} {mx : Nat} {rt : Option FieldType} {a : Array Value} {s : State} {m : MethodId} {meth : Method} {c : Code} (h1 : s.methodNamed? y = some m) (h2 : s.vm.method? m = some meth) (h3 : meth.code = some c) (h4 : c.code = bytes)
    (h5 : (c.maxLocals == mx && c.exceptionTable.isEmpty && decide (c.maxStack ≤ mostOperands) && decide (meth.sig.returnType = rt) && !meth.locks && decide (parseMethodDescriptor y.desc = some meth.sig)) = true) : (Jvm.Cond.code y bytes mx rt).before a s = true := by
  simp only [Bool.and_eq_true, beq_iff_eq, Bool.not_eq_true', decide_eq_true_eq] at h5
  obtain ⟨⟨⟨⟨⟨g1, g2⟩, g3⟩, g4⟩, g5⟩, g6⟩ := h5
  simp [Cond.before, Cond.holds, Cond.value, h1, h2, h3, h4, g1, g2, g3, g4, g5, g6]
def isCode : Jvm.Cond → Bool
  | .code _ _ _ _ => true
  | _ => false
theorem all_split {L : List Jvm.Cond} {P : Jvm.Cond → Bool} (h1 : L.all (fun c => isCode c || P c) = true) (h2 : ∀ c ∈ L.filter isCode, P c = true) : L.all P = true := by
  refine List.all_eq_true.mpr fun c hc => ?_
  have h := List.all_eq_true.mp h1 c hc
  rcases Bool.eq_false_or_eq_true (isCode c) with hi | hi
  · exact h2 c (List.mem_filter.mpr ⟨hc, hi⟩)
  · simpa [hi] using h
set_option maxRecDepth 65536 in
theorem w_c0 : (Jvm.Cond.code x code maxLocals ret).before args0 about1 = true := code_word (m := ⟨1, 1⟩) (meth := k1m1) (c := k1c1) (by decide +kernel) rfl rfl rfl (by decide +kernel)
set_option maxRecDepth 65536 in
theorem w_c1 : (Jvm.Cond.code ({ cls := "com/example/anchovy/anchovy/clock/LamportClock", name := "<init>", desc := "()V" } : Jvm.MethodName) prog_6_method_1_code (1 : Nat) (Option.none : Option Jvm.ClassFile.FieldType)).before args0 about1 = true := code_word (m := ⟨2, 0⟩) (meth := k2m0) (c := k2c0) (by decide +kernel) rfl rfl rfl (by decide +kernel)
set_option maxRecDepth 65536 in
theorem w_c2 : (Jvm.Cond.code ({ cls := "java/lang/Object", name := "<init>", desc := "()V" } : Jvm.MethodName) object_method_1_code (1 : Nat) (Option.none : Option Jvm.ClassFile.FieldType)).before args0 about1 = true := code_word (m := ⟨0, 0⟩) (meth := k0m0) (c := k0c0) (by decide +kernel) rfl rfl rfl (by decide +kernel)
set_option maxRecDepth 65536 in
theorem w_c3 : (Jvm.Cond.code ({ cls := "com/example/anchovy/anchovy/clock/LamportClock", name := "onReceive", desc := "(J)J" } : Jvm.MethodName) prog_6_method_4_code (3 : Nat) (Option.some Jvm.ClassFile.FieldType.long)).before args0 about1 = true := code_word (m := ⟨2, 3⟩) (meth := k2m3) (c := k2c3) (by decide +kernel) rfl rfl rfl (by decide +kernel)
set_option maxRecDepth 65536 in
theorem w_c4 : (Jvm.Cond.code ({ cls := "java/lang/Math", name := "max", desc := "(JJ)J" } : Jvm.MethodName) jdk_29_method_66_code (4 : Nat) (Option.some Jvm.ClassFile.FieldType.long)).before args0 about1 = true := code_word (m := ⟨3, 2⟩) (meth := k3m2) (c := k3c2) (by decide +kernel) rfl rfl rfl (by decide +kernel)
set_option maxRecDepth 65536 in
theorem w_c5 : (Jvm.Cond.code ({ cls := "java/lang/Math", name := "incrementExact", desc := "(J)J" } : Jvm.MethodName) jdk_29_method_38_code (2 : Nat) (Option.some Jvm.ClassFile.FieldType.long)).before args0 about1 = true := code_word (m := ⟨3, 1⟩) (meth := k3m1) (c := k3c1) (by decide +kernel) rfl rfl rfl (by decide +kernel)
set_option maxRecDepth 65536 in
theorem w_c6 : (Jvm.Cond.code ({ cls := "com/example/anchovy/anchovy/clock/LamportClock", name := "time", desc := "()J" } : Jvm.MethodName) prog_6_method_2_code (1 : Nat) (Option.some Jvm.ClassFile.FieldType.long)).before args0 about1 = true := code_word (m := ⟨2, 1⟩) (meth := k2m1) (c := k2c1) (by decide +kernel) rfl rfl rfl (by decide +kernel)
set_option maxRecDepth 65536 in
theorem w_c7 : (Jvm.Cond.code ({ cls := "com/example/anchovy/anchovy/clock/LamportClock", name := "onSend", desc := "()J" } : Jvm.MethodName) prog_6_method_3_code (1 : Nat) (Option.some Jvm.ClassFile.FieldType.long)).before args0 about1 = true := code_word (m := ⟨2, 2⟩) (meth := k2m2) (c := k2c2) (by decide +kernel) rfl rfl rfl (by decide +kernel)
def codes1 : List Jvm.Cond := [Jvm.Cond.code x code maxLocals ret, Jvm.Cond.code ({ cls := "com/example/anchovy/anchovy/clock/LamportClock", name := "<init>", desc := "()V" } : Jvm.MethodName) prog_6_method_1_code (1 : Nat) (Option.none : Option Jvm.ClassFile.FieldType), Jvm.Cond.code ({ cls := "java/lang/Object", name := "<init>", desc := "()V" } : Jvm.MethodName) object_method_1_code (1 : Nat) (Option.none : Option Jvm.ClassFile.FieldType), Jvm.Cond.code ({ cls := "com/example/anchovy/anchovy/clock/LamportClock", name := "onReceive", desc := "(J)J" } : Jvm.MethodName) prog_6_method_4_code (3 : Nat) (Option.some Jvm.ClassFile.FieldType.long), Jvm.Cond.code ({ cls := "java/lang/Math", name := "max", desc := "(JJ)J" } : Jvm.MethodName) jdk_29_method_66_code (4 : Nat) (Option.some Jvm.ClassFile.FieldType.long), Jvm.Cond.code ({ cls := "java/lang/Math", name := "incrementExact", desc := "(J)J" } : Jvm.MethodName) jdk_29_method_38_code (2 : Nat) (Option.some Jvm.ClassFile.FieldType.long), Jvm.Cond.code ({ cls := "com/example/anchovy/anchovy/clock/LamportClock", name := "time", desc := "()J" } : Jvm.MethodName) prog_6_method_2_code (1 : Nat) (Option.some Jvm.ClassFile.FieldType.long), Jvm.Cond.code ({ cls := "com/example/anchovy/anchovy/clock/LamportClock", name := "onSend", desc := "()J" } : Jvm.MethodName) prog_6_method_3_code (1 : Nat) (Option.some Jvm.ClassFile.FieldType.long)]
set_option maxRecDepth 65536 in
theorem codes_eq : words1.filter isCode = codes1 := rfl
theorem w_codes : ∀ c ∈ words1.filter isCode, c.before args0 about1 = true := by
  rw [codes_eq]
  intro c hc
  simp only [codes1, List.mem_cons, List.not_mem_nil, or_false] at hc
  rcases hc with rfl | rfl | rfl | rfl | rfl | rfl | rfl | rfl
  · exact w_c0
  · exact w_c1
  · exact w_c2
  · exact w_c3
  · exact w_c4
  · exact w_c5
  · exact w_c6
  · exact w_c7
set_option maxRecDepth 65536 in
theorem w_t1 : (words1.take 24).all (fun c => isCode c || c.before args0 about1) = true := by decide +kernel
set_option maxRecDepth 65536 in
theorem w_t2 : (words1.drop 24).all (fun c => isCode c || c.before args0 about1) = true := by decide +kernel
theorem w_tables : (allAtoms (Jvm.Cond.code x code maxLocals ret :: tables_1)).before args0 about1 = true := by
  rw [allAtoms_all]
  show words1.all (fun c => c.before args0 about1) = true
  refine all_split ?_ w_codes
  rw [← List.take_append_drop 24 words1, List.all_append, w_t1, w_t2]
  rfl
set_option maxRecDepth 65536 in
theorem w_case : (Jvm.Cond.and given_1 narrow_1).before args0 about1 = true := by decide +kernel
theorem w_applies : (headSpec (Jvm.Cond.code x code maxLocals ret :: tables_1) room_1).applies x e0.platform about1 = true :=
  (Spec.applies_iff w_frames).mpr ⟨w_running, w_runnable, w_alone, w_named, w_hears, w_ripe, w_room, w_tables⟩
theorem atStart : AtStart classFile x code maxLocals ret World_1 tables_1 room_1 Calls_1 rest_1 Pre_1 launch0 p0 e0 about1 theMethod args0 below0 :=
  ⟨lists_1, trivial, launch0.admits_env _ _ _, launch0.least_env, fairChoices_fair.cas, fairChoices_fair.clock, w_frames, w_args, w_heap, w_applies, trivial, trivial, w_case⟩
end start1
theorem witness_1 : WitnessClaimed_1 := ⟨start1.p0, start1.e0, start1.about1, start1.theMethod, start1.args0, start1.below0, start1.atStart⟩
end Jvm.Pilot.@@N@@
