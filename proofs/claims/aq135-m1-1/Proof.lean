import JvmDerived
import JvmDerived.Pilot.@@N@@Statement
import JvmDerived.Pilot.@@N@@Code
set_option linter.unusedVariables false
set_option linter.unusedSimpArgs false
@@BLOCK:NumsL.lean.txt@@
namespace Jvm.RoadKit
open Sem ClassFile Op Lib Jvm.Stand Jvm.Free Jvm.LawKit
section New
variable {p : Program} {l : Launch} {e : Env} {R : Room} {s : State} {m : MethodId} {args : Array Value} {below : List Frame} {meth : Method} {c : Code} {T : State} {locs : List Loc} {cells slots : Nat}
theorem retI (X : Stand p l e R s m args below meth c T locs cells slots) (hx : p.tables.exec = Jvm.exec) {pc : Nat} {Ls : Array Slot} {z : Int32} {rest : List Value} (hret : meth.sig.returnType = some .int) (hd : decode c.code pc = .ok (.ireturn, 1)) {fs : List Frame}
    (hl : ∀ (f : JFrame) (acts : List Action), f.method = m → f.locked = none → f.entered = [] → (doReturn e (T.setTop f) acts (some (.int z))).1 = T.setFrames fs) : Steps p.tables e below (T.setTop (mkF m pc Ls (.int z :: rest))) (T.setFrames fs) := by
  have hm' : T.vm.method? m = some meth := X.method'
  have hn : narrow .int (.int z) = .int z := rfl
  show Steps p.tables e below (T.setTop { method := m, pc := pc, locals := Ls, stack := _ :: rest, locked := none }) _
  jvm_step X.here [X.here.top, hx, hd, hm', hret, hn]
  first | (intro acts; rw [hl _ acts rfl rfl rfl]) | rw [hl _ _ rfl rfl rfl]
  exact Steps.refl _
end New
end Jvm.RoadKit
namespace Jvm.Pilot.@@N@@
open Jvm Jvm.ClassFile Sem Op Lib Jvm.Free Jvm.Stand Jvm.LawKit Jvm.RoadKit Bundle Jvm.Pilot.@@N@@.Jvm.D
def own_len (x : Int32) : Int32 := if (XT.ushr x (7 : Int32)) = (0 : Int32) then 1 else if (XT.ushr (XT.ushr x (7 : Int32)) (7 : Int32)) = (0 : Int32) then 2 else if (XT.ushr (XT.ushr (XT.ushr x (7 : Int32)) (7 : Int32)) (7 : Int32)) = (0 : Int32) then 3 else if (XT.ushr (XT.ushr (XT.ushr (XT.ushr x (7 : Int32)) (7 : Int32)) (7 : Int32)) (7 : Int32)) = (0 : Int32) then 4 else 5
theorem own_toInt (x : Int32) : x.toInt = (x.toUInt32.toNat : Int).bmod (2 ^ 32) := by
  show x.toBitVec.toInt = _
  rw [BitVec.toInt_eq_toNat_bmod]; rfl
theorem own_ushr7 (x : Int32) : (XT.ushr x (7 : Int32)).toUInt32.toNat = x.toUInt32.toNat / 128 := by
  show (x.toUInt32 >>> (7 : UInt32)).toNat = _
  rw [UInt32.toNat_shiftRight]
  show x.toUInt32.toNat >>> 7 = _
  rw [Nat.shiftRight_eq_div_pow]
theorem own_zero (x : Int32) : x = (0 : Int32) ↔ x.toUInt32.toNat = 0 := by
  refine ⟨fun h => by rw [h]; rfl, fun h => ?_⟩
  have q : x.toUInt32 = (0 : Int32).toUInt32 := UInt32.toNat_inj.mp h
  exact congrArg UInt32.toInt32 q
theorem own_five (x : Int32) : (XT.ushr (XT.ushr (XT.ushr (XT.ushr (XT.ushr x (7 : Int32)) (7 : Int32)) (7 : Int32)) (7 : Int32)) (7 : Int32)) = (0 : Int32) := by
  have h := x.toUInt32.toNat_lt
  rw [own_zero]
  simp only [own_ushr7]
  generalize x.toUInt32.toNat = n at *
  omega
theorem own_u (x : Int32) : (x.toInt64 &&& (4294967295 : Int64)).toInt = (x.toUInt32.toNat : Int) := by
  have h1 : (x.toInt64 &&& (4294967295 : Int64)).toInt = x.toInt64.toInt % 2 ^ 32 := Jvm.Kit.i64_mask x.toInt64 4294967295 (k := 32) (by decide) (by decide)
  have h2 := x.toUInt32.toNat_lt
  rw [h1, Int32.toInt_toInt64, own_toInt, Int.bmod_def]
  generalize x.toUInt32.toNat = n at *
  omega
theorem own_lt (x : Int32) (k : Nat) (hk : k < 2 ^ 62) : (x.toInt64 &&& (4294967295 : Int64)) < Int64.ofNat k ↔ x.toUInt32.toNat < k := by
  rw [Int64.lt_iff_toInt_lt, own_u, Int64.toInt_ofNat_of_lt (by omega)]; omega
theorem own_len_eq (x : Int32) : own_len x = if x.toUInt32.toNat < 128 then 1 else if x.toUInt32.toNat < 16384 then 2 else if x.toUInt32.toNat < 2097152 then 3 else if x.toUInt32.toNat < 268435456 then 4 else 5 := by
  unfold own_len
  simp only [own_zero, own_ushr7]
  generalize x.toUInt32.toNat = n
  by_cases h1 : n < 128
  · rw [if_pos h1, if_pos (by omega)]
  · rw [if_neg h1, if_neg (by omega)]
    by_cases h2 : n < 16384
    · rw [if_pos h2, if_pos (by omega)]
    · rw [if_neg h2, if_neg (by omega)]
      by_cases h3 : n < 2097152
      · rw [if_pos h3, if_pos (by omega)]
      · rw [if_neg h3, if_neg (by omega)]
        by_cases h4 : n < 268435456
        · rw [if_pos h4, if_pos (by omega)]
        · rw [if_neg h4, if_neg (by omega)]
theorem d1_0 : decode prog_69_method_3_code 0 = .ok (.iconst 1, 1) := by decide +kernel
theorem d1_1 : decode prog_69_method_3_code 1 = .ok (.istore_n 1, 1) := by decide +kernel
theorem d1_2 : decode prog_69_method_3_code 2 = .ok (.iload_n 0, 1) := by decide +kernel
theorem d1_3 : decode prog_69_method_3_code 3 = .ok (.bipush 7, 2) := by decide +kernel
theorem d1_5 : decode prog_69_method_3_code 5 = .ok (.iushr, 1) := by decide +kernel
theorem d1_6 : decode prog_69_method_3_code 6 = .ok (.istore_n 2, 1) := by decide +kernel
theorem d1_7 : decode prog_69_method_3_code 7 = .ok (.iload_n 2, 1) := by decide +kernel
theorem d1_8 : decode prog_69_method_3_code 8 = .ok (.ifCond .eq 14, 3) := by decide +kernel
theorem d1_11 : decode prog_69_method_3_code 11 = .ok (.iinc 1 1, 3) := by decide +kernel
theorem d1_14 : decode prog_69_method_3_code 14 = .ok (.iload_n 2, 1) := by decide +kernel
theorem d1_15 : decode prog_69_method_3_code 15 = .ok (.bipush 7, 2) := by decide +kernel
theorem d1_17 : decode prog_69_method_3_code 17 = .ok (.iushr, 1) := by decide +kernel
theorem d1_18 : decode prog_69_method_3_code 18 = .ok (.istore_n 2, 1) := by decide +kernel
theorem d1_19 : decode prog_69_method_3_code 19 = .ok (.goto (-12), 3) := by decide +kernel
theorem d1_22 : decode prog_69_method_3_code 22 = .ok (.iload_n 1, 1) := by decide +kernel
theorem d1_23 : decode prog_69_method_3_code 23 = .ok (.ireturn, 1) := by decide +kernel
theorem pn_0 : plainName "com/example/rootward/rootward/VarintOutput" = true := by first | (simp [plainName, overriddenIn]; done) | decide +kernel
theorem ef_rm1 (m : MethodId) (x0 : Int32) : entryFrame m #[(.int x0)] 3 = mkF m 0 #[.val (.int x0), .unset, .unset] [] := by first | (simp [entryFrame, mkF, argsToLocals, Value.category]; done) | rfl
def Q1 (Z : State) (p1 : Int32) (h0 : Heap) (n0 : Nat) (v : Option Value) (h : Heap) (L : List Loc) : Prop := v = some (.int (own_len p1)) ∧ Fr n0 L ∧ h = h0
set_option maxRecDepth 65536 in
set_option maxHeartbeats 40000000 in
theorem rm1 (l : Launch) (Z : State) (a0 : Array Value) (hw : ∀ d ∈ tables_1, d.before a0 Z = true) (ws : List Jvm.Cond) (p1 : Int32) (h0 : Heap) (n0 : Nat) (Z0 : n0 ≤ h0.size) :
    MetFree l (⟨"com/example/rootward/rootward/VarintOutput", "length", "(I)I"⟩ : MethodName) (head1 (Jvm.Cond.code (⟨"com/example/rootward/rootward/VarintOutput", "length", "(I)I"⟩ : MethodName) prog_69_method_3_code 3 (some .int) :: ws) ({ frames := 0, cells := 0, slots := 0, locals := 0 } : Room)) (fun a U => a = #[(.int p1)] ∧ Z.Warmed39 U.vm ∧ U.heap = h0) (fun _ _ _ _ _ => True) (fun _ U o U' => ∃ v L, o = .returned v ∧ Q1 Z p1 h0 n0 v U'.heap L ∧ FrameEnd U o U' L ({ frames := 0, cells := 0, slots := 0, locals := 0 } : Room).cells ({ frames := 0, cells := 0, slots := 0, locals := 0 } : Room).slots) := by
  refine MetFree.of_bodySF (plainFor_of_name pn_0) hisR ?_
  intro p e s m args below meth c s₁ Bd hml0 hP hK
  obtain ⟨rfl, hZ, hh⟩ := hP
  have hx := Bd.exec
  have hby := Bd.bytes
  have hml : c.maxLocals = 3 := hml0
  have hown : s.vm.findClass "com/example/rootward/rootward/VarintOutput" = some m.cls := findClass_of_methodNamed Bd.named
  have hnm := (name_of_methodNamed Bd.named Bd.method).1
  have X0 : Stand p l e ({ frames := 0, cells := 0, slots := 0, locals := 0 } : Room) s m #[(.int p1)] below meth c s₁ [] 0 0 := Stand.of_body Bd
  have e0 : s₁.heap = h0 := by rw [← hh, Bd.state]; rfl
  have N0 := Fr.nil n0
  have pre0 : ∀ t, Steps p.tables e below (s₁.setTop (mkF m 0 #[.val (.int p1), .unset, .unset] [])) t → Steps p.tables e below (s₁.setTop (entryFrame m #[(.int p1)] 3)) t := fun t k => castTop (ef_rm1 m p1) k
  have P2 : ∀ t, Steps p.tables e below (s₁.setTop (mkF m 8 #[.val (.int p1), .val (.int (1 : Int32)), .val (.int (XT.ushr p1 (7 : Int32)))] [(.int (XT.ushr p1 (7 : Int32)))])) t → Steps p.tables e below (s₁.setTop (entryFrame m #[(.int p1)] 3)) t := fun t kt => pre0 t (by
    show Steps p.tables e below (s₁.setTop (mkF m 0 #[.val (.int p1), .unset, .unset] [])) _
    refine XS.iconst X0.here hx rfl (hb hby d1_0) ?_
    show Steps p.tables e below (s₁.setTop (mkF m 1 #[.val (.int p1), .unset, .unset] [(.int (1 : Int32))])) _
    refine XS.istoreN X0.here hx rfl (hb hby d1_1) rfl (l' := #[.val (.int p1), .val (.int (1 : Int32)), .unset]) rfl ?_
    show Steps p.tables e below (s₁.setTop (mkF m 2 #[.val (.int p1), .val (.int (1 : Int32)), .unset] [])) _
    refine XS.iloadN X0.here hx rfl (hb hby d1_2) rfl ?_
    show Steps p.tables e below (s₁.setTop (mkF m 3 #[.val (.int p1), .val (.int (1 : Int32)), .unset] [(.int p1)])) _
    refine XS.bipush X0.here hx rfl (hb hby d1_3) ?_
    show Steps p.tables e below (s₁.setTop (mkF m 5 #[.val (.int p1), .val (.int (1 : Int32)), .unset] [(.int (7 : Int32)), (.int p1)])) _
    refine XT.iushr X0.here hx rfl (hb hby d1_5) rfl ?_
    show Steps p.tables e below (s₁.setTop (mkF m 6 #[.val (.int p1), .val (.int (1 : Int32)), .unset] [(.int (XT.ushr p1 (7 : Int32)))])) _
    refine XS.istoreN X0.here hx rfl (hb hby d1_6) rfl (l' := #[.val (.int p1), .val (.int (1 : Int32)), .val (.int (XT.ushr p1 (7 : Int32)))]) rfl ?_
    show Steps p.tables e below (s₁.setTop (mkF m 7 #[.val (.int p1), .val (.int (1 : Int32)), .val (.int (XT.ushr p1 (7 : Int32)))] [])) _
    refine XS.iloadN X0.here hx rfl (hb hby d1_7) rfl ?_
    exact kt)
  by_cases hc8_1 : (XT.ushr p1 (7 : Int32)) = (0 : Int32)
  · skip
    have P3 : ∀ t, Steps p.tables e below (s₁.setTop (mkF m 23 #[.val (.int p1), .val (.int (1 : Int32)), .val (.int (XT.ushr p1 (7 : Int32)))] [(.int (1 : Int32))])) t → Steps p.tables e below (s₁.setTop (entryFrame m #[(.int p1)] 3)) t := fun t kt => P2 t (by
      show Steps p.tables e below (s₁.setTop (mkF m 8 #[.val (.int p1), .val (.int (1 : Int32)), .val (.int (XT.ushr p1 (7 : Int32)))] [(.int (XT.ushr p1 (7 : Int32)))])) _
      refine XS.ifYes X0.here hx rfl (pc0 := 8) (pc' := 22) rfl (hb hby d1_8) rfl (XT.i0_eq_t hc8_1) (by decide) (by decide) ?_
      show Steps p.tables e below (s₁.setTop (mkF m 22 #[.val (.int p1), .val (.int (1 : Int32)), .val (.int (XT.ushr p1 (7 : Int32)))] [])) _
      refine XS.iloadN X0.here hx rfl (hb hby d1_22) rfl ?_
      exact kt)
    obtain ⟨fs, hr, hrun, hended, hW, hsame⟩ := X0.leave (v := some (.int (1 : Int32))) (fun h => by rw [Bd.returns] at h; cases h)
    refine ⟨_, _, P3 _ ?_, hrun, hended, _, _, rfl, ?_, ⟨_, rfl⟩, hW, hsame.mono (by decide) (by decide)⟩
    · exact retI X0 hx Bd.returns (hb hby d1_23) hr
    · show Q1 Z p1 h0 n0 _ s₁.heap _
      rw [e0]
      exact ⟨by simp [own_len, hc8_1], N0, rfl⟩
  · skip
    have P5 : ∀ t, Steps p.tables e below (s₁.setTop (mkF m 8 #[.val (.int p1), .val (.int ((1 : Int32) + (1 : Int32))), .val (.int (XT.ushr (XT.ushr p1 (7 : Int32)) (7 : Int32)))] [(.int (XT.ushr (XT.ushr p1 (7 : Int32)) (7 : Int32)))])) t → Steps p.tables e below (s₁.setTop (entryFrame m #[(.int p1)] 3)) t := fun t kt => P2 t (by
      show Steps p.tables e below (s₁.setTop (mkF m 8 #[.val (.int p1), .val (.int (1 : Int32)), .val (.int (XT.ushr p1 (7 : Int32)))] [(.int (XT.ushr p1 (7 : Int32)))])) _
      refine XS.ifNo X0.here hx rfl (hb hby d1_8) rfl (XT.i0_eq_f hc8_1) ?_
      show Steps p.tables e below (s₁.setTop (mkF m 11 #[.val (.int p1), .val (.int (1 : Int32)), .val (.int (XT.ushr p1 (7 : Int32)))] [])) _
      refine XS.iinc X0.here hx rfl (hb hby d1_11) rfl (l' := #[.val (.int p1), .val (.int ((1 : Int32) + (1 : Int32))), .val (.int (XT.ushr p1 (7 : Int32)))]) rfl ?_
      show Steps p.tables e below (s₁.setTop (mkF m 14 #[.val (.int p1), .val (.int ((1 : Int32) + (1 : Int32))), .val (.int (XT.ushr p1 (7 : Int32)))] [])) _
      refine XS.iloadN X0.here hx rfl (hb hby d1_14) rfl ?_
      show Steps p.tables e below (s₁.setTop (mkF m 15 #[.val (.int p1), .val (.int ((1 : Int32) + (1 : Int32))), .val (.int (XT.ushr p1 (7 : Int32)))] [(.int (XT.ushr p1 (7 : Int32)))])) _
      refine XS.bipush X0.here hx rfl (hb hby d1_15) ?_
      show Steps p.tables e below (s₁.setTop (mkF m 17 #[.val (.int p1), .val (.int ((1 : Int32) + (1 : Int32))), .val (.int (XT.ushr p1 (7 : Int32)))] [(.int (7 : Int32)), (.int (XT.ushr p1 (7 : Int32)))])) _
      refine XT.iushr X0.here hx rfl (hb hby d1_17) rfl ?_
      show Steps p.tables e below (s₁.setTop (mkF m 18 #[.val (.int p1), .val (.int ((1 : Int32) + (1 : Int32))), .val (.int (XT.ushr p1 (7 : Int32)))] [(.int (XT.ushr (XT.ushr p1 (7 : Int32)) (7 : Int32)))])) _
      refine XS.istoreN X0.here hx rfl (hb hby d1_18) rfl (l' := #[.val (.int p1), .val (.int ((1 : Int32) + (1 : Int32))), .val (.int (XT.ushr (XT.ushr p1 (7 : Int32)) (7 : Int32)))]) rfl ?_
      show Steps p.tables e below (s₁.setTop (mkF m 19 #[.val (.int p1), .val (.int ((1 : Int32) + (1 : Int32))), .val (.int (XT.ushr (XT.ushr p1 (7 : Int32)) (7 : Int32)))] [])) _
      refine XS.goto X0.here hx rfl (pc0 := 19) (pc' := 7) rfl (hb hby d1_19) (by decide) (by decide) ?_
      show Steps p.tables e below (s₁.setTop (mkF m 7 #[.val (.int p1), .val (.int ((1 : Int32) + (1 : Int32))), .val (.int (XT.ushr (XT.ushr p1 (7 : Int32)) (7 : Int32)))] [])) _
      refine XS.iloadN X0.here hx rfl (hb hby d1_7) rfl ?_
      exact kt)
    by_cases hc8_4 : (XT.ushr (XT.ushr p1 (7 : Int32)) (7 : Int32)) = (0 : Int32)
    · skip
      have P6 : ∀ t, Steps p.tables e below (s₁.setTop (mkF m 23 #[.val (.int p1), .val (.int ((1 : Int32) + (1 : Int32))), .val (.int (XT.ushr (XT.ushr p1 (7 : Int32)) (7 : Int32)))] [(.int ((1 : Int32) + (1 : Int32)))])) t → Steps p.tables e below (s₁.setTop (entryFrame m #[(.int p1)] 3)) t := fun t kt => P5 t (by
        show Steps p.tables e below (s₁.setTop (mkF m 8 #[.val (.int p1), .val (.int ((1 : Int32) + (1 : Int32))), .val (.int (XT.ushr (XT.ushr p1 (7 : Int32)) (7 : Int32)))] [(.int (XT.ushr (XT.ushr p1 (7 : Int32)) (7 : Int32)))])) _
        refine XS.ifYes X0.here hx rfl (pc0 := 8) (pc' := 22) rfl (hb hby d1_8) rfl (XT.i0_eq_t hc8_4) (by decide) (by decide) ?_
        show Steps p.tables e below (s₁.setTop (mkF m 22 #[.val (.int p1), .val (.int ((1 : Int32) + (1 : Int32))), .val (.int (XT.ushr (XT.ushr p1 (7 : Int32)) (7 : Int32)))] [])) _
        refine XS.iloadN X0.here hx rfl (hb hby d1_22) rfl ?_
        exact kt)
      obtain ⟨fs, hr, hrun, hended, hW, hsame⟩ := X0.leave (v := some (.int ((1 : Int32) + (1 : Int32)))) (fun h => by rw [Bd.returns] at h; cases h)
      refine ⟨_, _, P6 _ ?_, hrun, hended, _, _, rfl, ?_, ⟨_, rfl⟩, hW, hsame.mono (by decide) (by decide)⟩
      · exact retI X0 hx Bd.returns (hb hby d1_23) hr
      · show Q1 Z p1 h0 n0 _ s₁.heap _
        rw [e0]
        exact ⟨by simp [own_len, hc8_1, hc8_4], N0, rfl⟩
    · skip
      have P8 : ∀ t, Steps p.tables e below (s₁.setTop (mkF m 8 #[.val (.int p1), .val (.int (((1 : Int32) + (1 : Int32)) + (1 : Int32))), .val (.int (XT.ushr (XT.ushr (XT.ushr p1 (7 : Int32)) (7 : Int32)) (7 : Int32)))] [(.int (XT.ushr (XT.ushr (XT.ushr p1 (7 : Int32)) (7 : Int32)) (7 : Int32)))])) t → Steps p.tables e below (s₁.setTop (entryFrame m #[(.int p1)] 3)) t := fun t kt => P5 t (by
        show Steps p.tables e below (s₁.setTop (mkF m 8 #[.val (.int p1), .val (.int ((1 : Int32) + (1 : Int32))), .val (.int (XT.ushr (XT.ushr p1 (7 : Int32)) (7 : Int32)))] [(.int (XT.ushr (XT.ushr p1 (7 : Int32)) (7 : Int32)))])) _
        refine XS.ifNo X0.here hx rfl (hb hby d1_8) rfl (XT.i0_eq_f hc8_4) ?_
        show Steps p.tables e below (s₁.setTop (mkF m 11 #[.val (.int p1), .val (.int ((1 : Int32) + (1 : Int32))), .val (.int (XT.ushr (XT.ushr p1 (7 : Int32)) (7 : Int32)))] [])) _
        refine XS.iinc X0.here hx rfl (hb hby d1_11) rfl (l' := #[.val (.int p1), .val (.int (((1 : Int32) + (1 : Int32)) + (1 : Int32))), .val (.int (XT.ushr (XT.ushr p1 (7 : Int32)) (7 : Int32)))]) rfl ?_
        show Steps p.tables e below (s₁.setTop (mkF m 14 #[.val (.int p1), .val (.int (((1 : Int32) + (1 : Int32)) + (1 : Int32))), .val (.int (XT.ushr (XT.ushr p1 (7 : Int32)) (7 : Int32)))] [])) _
        refine XS.iloadN X0.here hx rfl (hb hby d1_14) rfl ?_
        show Steps p.tables e below (s₁.setTop (mkF m 15 #[.val (.int p1), .val (.int (((1 : Int32) + (1 : Int32)) + (1 : Int32))), .val (.int (XT.ushr (XT.ushr p1 (7 : Int32)) (7 : Int32)))] [(.int (XT.ushr (XT.ushr p1 (7 : Int32)) (7 : Int32)))])) _
        refine XS.bipush X0.here hx rfl (hb hby d1_15) ?_
        show Steps p.tables e below (s₁.setTop (mkF m 17 #[.val (.int p1), .val (.int (((1 : Int32) + (1 : Int32)) + (1 : Int32))), .val (.int (XT.ushr (XT.ushr p1 (7 : Int32)) (7 : Int32)))] [(.int (7 : Int32)), (.int (XT.ushr (XT.ushr p1 (7 : Int32)) (7 : Int32)))])) _
        refine XT.iushr X0.here hx rfl (hb hby d1_17) rfl ?_
        show Steps p.tables e below (s₁.setTop (mkF m 18 #[.val (.int p1), .val (.int (((1 : Int32) + (1 : Int32)) + (1 : Int32))), .val (.int (XT.ushr (XT.ushr p1 (7 : Int32)) (7 : Int32)))] [(.int (XT.ushr (XT.ushr (XT.ushr p1 (7 : Int32)) (7 : Int32)) (7 : Int32)))])) _
        refine XS.istoreN X0.here hx rfl (hb hby d1_18) rfl (l' := #[.val (.int p1), .val (.int (((1 : Int32) + (1 : Int32)) + (1 : Int32))), .val (.int (XT.ushr (XT.ushr (XT.ushr p1 (7 : Int32)) (7 : Int32)) (7 : Int32)))]) rfl ?_
        show Steps p.tables e below (s₁.setTop (mkF m 19 #[.val (.int p1), .val (.int (((1 : Int32) + (1 : Int32)) + (1 : Int32))), .val (.int (XT.ushr (XT.ushr (XT.ushr p1 (7 : Int32)) (7 : Int32)) (7 : Int32)))] [])) _
        refine XS.goto X0.here hx rfl (pc0 := 19) (pc' := 7) rfl (hb hby d1_19) (by decide) (by decide) ?_
        show Steps p.tables e below (s₁.setTop (mkF m 7 #[.val (.int p1), .val (.int (((1 : Int32) + (1 : Int32)) + (1 : Int32))), .val (.int (XT.ushr (XT.ushr (XT.ushr p1 (7 : Int32)) (7 : Int32)) (7 : Int32)))] [])) _
        refine XS.iloadN X0.here hx rfl (hb hby d1_7) rfl ?_
        exact kt)
      by_cases hc8_7 : (XT.ushr (XT.ushr (XT.ushr p1 (7 : Int32)) (7 : Int32)) (7 : Int32)) = (0 : Int32)
      · skip
        have P9 : ∀ t, Steps p.tables e below (s₁.setTop (mkF m 23 #[.val (.int p1), .val (.int (((1 : Int32) + (1 : Int32)) + (1 : Int32))), .val (.int (XT.ushr (XT.ushr (XT.ushr p1 (7 : Int32)) (7 : Int32)) (7 : Int32)))] [(.int (((1 : Int32) + (1 : Int32)) + (1 : Int32)))])) t → Steps p.tables e below (s₁.setTop (entryFrame m #[(.int p1)] 3)) t := fun t kt => P8 t (by
          show Steps p.tables e below (s₁.setTop (mkF m 8 #[.val (.int p1), .val (.int (((1 : Int32) + (1 : Int32)) + (1 : Int32))), .val (.int (XT.ushr (XT.ushr (XT.ushr p1 (7 : Int32)) (7 : Int32)) (7 : Int32)))] [(.int (XT.ushr (XT.ushr (XT.ushr p1 (7 : Int32)) (7 : Int32)) (7 : Int32)))])) _
          refine XS.ifYes X0.here hx rfl (pc0 := 8) (pc' := 22) rfl (hb hby d1_8) rfl (XT.i0_eq_t hc8_7) (by decide) (by decide) ?_
          show Steps p.tables e below (s₁.setTop (mkF m 22 #[.val (.int p1), .val (.int (((1 : Int32) + (1 : Int32)) + (1 : Int32))), .val (.int (XT.ushr (XT.ushr (XT.ushr p1 (7 : Int32)) (7 : Int32)) (7 : Int32)))] [])) _
          refine XS.iloadN X0.here hx rfl (hb hby d1_22) rfl ?_
          exact kt)
        obtain ⟨fs, hr, hrun, hended, hW, hsame⟩ := X0.leave (v := some (.int (((1 : Int32) + (1 : Int32)) + (1 : Int32)))) (fun h => by rw [Bd.returns] at h; cases h)
        refine ⟨_, _, P9 _ ?_, hrun, hended, _, _, rfl, ?_, ⟨_, rfl⟩, hW, hsame.mono (by decide) (by decide)⟩
        · exact retI X0 hx Bd.returns (hb hby d1_23) hr
        · show Q1 Z p1 h0 n0 _ s₁.heap _
          rw [e0]
          exact ⟨by simp [own_len, hc8_1, hc8_4, hc8_7], N0, rfl⟩
      · skip
        have P11 : ∀ t, Steps p.tables e below (s₁.setTop (mkF m 8 #[.val (.int p1), .val (.int ((((1 : Int32) + (1 : Int32)) + (1 : Int32)) + (1 : Int32))), .val (.int (XT.ushr (XT.ushr (XT.ushr (XT.ushr p1 (7 : Int32)) (7 : Int32)) (7 : Int32)) (7 : Int32)))] [(.int (XT.ushr (XT.ushr (XT.ushr (XT.ushr p1 (7 : Int32)) (7 : Int32)) (7 : Int32)) (7 : Int32)))])) t → Steps p.tables e below (s₁.setTop (entryFrame m #[(.int p1)] 3)) t := fun t kt => P8 t (by
          show Steps p.tables e below (s₁.setTop (mkF m 8 #[.val (.int p1), .val (.int (((1 : Int32) + (1 : Int32)) + (1 : Int32))), .val (.int (XT.ushr (XT.ushr (XT.ushr p1 (7 : Int32)) (7 : Int32)) (7 : Int32)))] [(.int (XT.ushr (XT.ushr (XT.ushr p1 (7 : Int32)) (7 : Int32)) (7 : Int32)))])) _
          refine XS.ifNo X0.here hx rfl (hb hby d1_8) rfl (XT.i0_eq_f hc8_7) ?_
          show Steps p.tables e below (s₁.setTop (mkF m 11 #[.val (.int p1), .val (.int (((1 : Int32) + (1 : Int32)) + (1 : Int32))), .val (.int (XT.ushr (XT.ushr (XT.ushr p1 (7 : Int32)) (7 : Int32)) (7 : Int32)))] [])) _
          refine XS.iinc X0.here hx rfl (hb hby d1_11) rfl (l' := #[.val (.int p1), .val (.int ((((1 : Int32) + (1 : Int32)) + (1 : Int32)) + (1 : Int32))), .val (.int (XT.ushr (XT.ushr (XT.ushr p1 (7 : Int32)) (7 : Int32)) (7 : Int32)))]) rfl ?_
          show Steps p.tables e below (s₁.setTop (mkF m 14 #[.val (.int p1), .val (.int ((((1 : Int32) + (1 : Int32)) + (1 : Int32)) + (1 : Int32))), .val (.int (XT.ushr (XT.ushr (XT.ushr p1 (7 : Int32)) (7 : Int32)) (7 : Int32)))] [])) _
          refine XS.iloadN X0.here hx rfl (hb hby d1_14) rfl ?_
          show Steps p.tables e below (s₁.setTop (mkF m 15 #[.val (.int p1), .val (.int ((((1 : Int32) + (1 : Int32)) + (1 : Int32)) + (1 : Int32))), .val (.int (XT.ushr (XT.ushr (XT.ushr p1 (7 : Int32)) (7 : Int32)) (7 : Int32)))] [(.int (XT.ushr (XT.ushr (XT.ushr p1 (7 : Int32)) (7 : Int32)) (7 : Int32)))])) _
          refine XS.bipush X0.here hx rfl (hb hby d1_15) ?_
          show Steps p.tables e below (s₁.setTop (mkF m 17 #[.val (.int p1), .val (.int ((((1 : Int32) + (1 : Int32)) + (1 : Int32)) + (1 : Int32))), .val (.int (XT.ushr (XT.ushr (XT.ushr p1 (7 : Int32)) (7 : Int32)) (7 : Int32)))] [(.int (7 : Int32)), (.int (XT.ushr (XT.ushr (XT.ushr p1 (7 : Int32)) (7 : Int32)) (7 : Int32)))])) _
          refine XT.iushr X0.here hx rfl (hb hby d1_17) rfl ?_
          show Steps p.tables e below (s₁.setTop (mkF m 18 #[.val (.int p1), .val (.int ((((1 : Int32) + (1 : Int32)) + (1 : Int32)) + (1 : Int32))), .val (.int (XT.ushr (XT.ushr (XT.ushr p1 (7 : Int32)) (7 : Int32)) (7 : Int32)))] [(.int (XT.ushr (XT.ushr (XT.ushr (XT.ushr p1 (7 : Int32)) (7 : Int32)) (7 : Int32)) (7 : Int32)))])) _
          refine XS.istoreN X0.here hx rfl (hb hby d1_18) rfl (l' := #[.val (.int p1), .val (.int ((((1 : Int32) + (1 : Int32)) + (1 : Int32)) + (1 : Int32))), .val (.int (XT.ushr (XT.ushr (XT.ushr (XT.ushr p1 (7 : Int32)) (7 : Int32)) (7 : Int32)) (7 : Int32)))]) rfl ?_
          show Steps p.tables e below (s₁.setTop (mkF m 19 #[.val (.int p1), .val (.int ((((1 : Int32) + (1 : Int32)) + (1 : Int32)) + (1 : Int32))), .val (.int (XT.ushr (XT.ushr (XT.ushr (XT.ushr p1 (7 : Int32)) (7 : Int32)) (7 : Int32)) (7 : Int32)))] [])) _
          refine XS.goto X0.here hx rfl (pc0 := 19) (pc' := 7) rfl (hb hby d1_19) (by decide) (by decide) ?_
          show Steps p.tables e below (s₁.setTop (mkF m 7 #[.val (.int p1), .val (.int ((((1 : Int32) + (1 : Int32)) + (1 : Int32)) + (1 : Int32))), .val (.int (XT.ushr (XT.ushr (XT.ushr (XT.ushr p1 (7 : Int32)) (7 : Int32)) (7 : Int32)) (7 : Int32)))] [])) _
          refine XS.iloadN X0.here hx rfl (hb hby d1_7) rfl ?_
          exact kt)
        by_cases hc8_10 : (XT.ushr (XT.ushr (XT.ushr (XT.ushr p1 (7 : Int32)) (7 : Int32)) (7 : Int32)) (7 : Int32)) = (0 : Int32)
        · skip
          have P12 : ∀ t, Steps p.tables e below (s₁.setTop (mkF m 23 #[.val (.int p1), .val (.int ((((1 : Int32) + (1 : Int32)) + (1 : Int32)) + (1 : Int32))), .val (.int (XT.ushr (XT.ushr (XT.ushr (XT.ushr p1 (7 : Int32)) (7 : Int32)) (7 : Int32)) (7 : Int32)))] [(.int ((((1 : Int32) + (1 : Int32)) + (1 : Int32)) + (1 : Int32)))])) t → Steps p.tables e below (s₁.setTop (entryFrame m #[(.int p1)] 3)) t := fun t kt => P11 t (by
            show Steps p.tables e below (s₁.setTop (mkF m 8 #[.val (.int p1), .val (.int ((((1 : Int32) + (1 : Int32)) + (1 : Int32)) + (1 : Int32))), .val (.int (XT.ushr (XT.ushr (XT.ushr (XT.ushr p1 (7 : Int32)) (7 : Int32)) (7 : Int32)) (7 : Int32)))] [(.int (XT.ushr (XT.ushr (XT.ushr (XT.ushr p1 (7 : Int32)) (7 : Int32)) (7 : Int32)) (7 : Int32)))])) _
            refine XS.ifYes X0.here hx rfl (pc0 := 8) (pc' := 22) rfl (hb hby d1_8) rfl (XT.i0_eq_t hc8_10) (by decide) (by decide) ?_
            show Steps p.tables e below (s₁.setTop (mkF m 22 #[.val (.int p1), .val (.int ((((1 : Int32) + (1 : Int32)) + (1 : Int32)) + (1 : Int32))), .val (.int (XT.ushr (XT.ushr (XT.ushr (XT.ushr p1 (7 : Int32)) (7 : Int32)) (7 : Int32)) (7 : Int32)))] [])) _
            refine XS.iloadN X0.here hx rfl (hb hby d1_22) rfl ?_
            exact kt)
          obtain ⟨fs, hr, hrun, hended, hW, hsame⟩ := X0.leave (v := some (.int ((((1 : Int32) + (1 : Int32)) + (1 : Int32)) + (1 : Int32)))) (fun h => by rw [Bd.returns] at h; cases h)
          refine ⟨_, _, P12 _ ?_, hrun, hended, _, _, rfl, ?_, ⟨_, rfl⟩, hW, hsame.mono (by decide) (by decide)⟩
          · exact retI X0 hx Bd.returns (hb hby d1_23) hr
          · show Q1 Z p1 h0 n0 _ s₁.heap _
            rw [e0]
            exact ⟨by simp [own_len, hc8_1, hc8_4, hc8_7, hc8_10], N0, rfl⟩
        · skip
          have hc8_13 : (XT.ushr (XT.ushr (XT.ushr (XT.ushr (XT.ushr p1 (7 : Int32)) (7 : Int32)) (7 : Int32)) (7 : Int32)) (7 : Int32)) = (0 : Int32) := own_five p1
          have P14 : ∀ t, Steps p.tables e below (s₁.setTop (mkF m 23 #[.val (.int p1), .val (.int (((((1 : Int32) + (1 : Int32)) + (1 : Int32)) + (1 : Int32)) + (1 : Int32))), .val (.int (XT.ushr (XT.ushr (XT.ushr (XT.ushr (XT.ushr p1 (7 : Int32)) (7 : Int32)) (7 : Int32)) (7 : Int32)) (7 : Int32)))] [(.int (((((1 : Int32) + (1 : Int32)) + (1 : Int32)) + (1 : Int32)) + (1 : Int32)))])) t → Steps p.tables e below (s₁.setTop (entryFrame m #[(.int p1)] 3)) t := fun t kt => P11 t (by
            show Steps p.tables e below (s₁.setTop (mkF m 8 #[.val (.int p1), .val (.int ((((1 : Int32) + (1 : Int32)) + (1 : Int32)) + (1 : Int32))), .val (.int (XT.ushr (XT.ushr (XT.ushr (XT.ushr p1 (7 : Int32)) (7 : Int32)) (7 : Int32)) (7 : Int32)))] [(.int (XT.ushr (XT.ushr (XT.ushr (XT.ushr p1 (7 : Int32)) (7 : Int32)) (7 : Int32)) (7 : Int32)))])) _
            refine XS.ifNo X0.here hx rfl (hb hby d1_8) rfl (XT.i0_eq_f hc8_10) ?_
            show Steps p.tables e below (s₁.setTop (mkF m 11 #[.val (.int p1), .val (.int ((((1 : Int32) + (1 : Int32)) + (1 : Int32)) + (1 : Int32))), .val (.int (XT.ushr (XT.ushr (XT.ushr (XT.ushr p1 (7 : Int32)) (7 : Int32)) (7 : Int32)) (7 : Int32)))] [])) _
            refine XS.iinc X0.here hx rfl (hb hby d1_11) rfl (l' := #[.val (.int p1), .val (.int (((((1 : Int32) + (1 : Int32)) + (1 : Int32)) + (1 : Int32)) + (1 : Int32))), .val (.int (XT.ushr (XT.ushr (XT.ushr (XT.ushr p1 (7 : Int32)) (7 : Int32)) (7 : Int32)) (7 : Int32)))]) rfl ?_
            show Steps p.tables e below (s₁.setTop (mkF m 14 #[.val (.int p1), .val (.int (((((1 : Int32) + (1 : Int32)) + (1 : Int32)) + (1 : Int32)) + (1 : Int32))), .val (.int (XT.ushr (XT.ushr (XT.ushr (XT.ushr p1 (7 : Int32)) (7 : Int32)) (7 : Int32)) (7 : Int32)))] [])) _
            refine XS.iloadN X0.here hx rfl (hb hby d1_14) rfl ?_
            show Steps p.tables e below (s₁.setTop (mkF m 15 #[.val (.int p1), .val (.int (((((1 : Int32) + (1 : Int32)) + (1 : Int32)) + (1 : Int32)) + (1 : Int32))), .val (.int (XT.ushr (XT.ushr (XT.ushr (XT.ushr p1 (7 : Int32)) (7 : Int32)) (7 : Int32)) (7 : Int32)))] [(.int (XT.ushr (XT.ushr (XT.ushr (XT.ushr p1 (7 : Int32)) (7 : Int32)) (7 : Int32)) (7 : Int32)))])) _
            refine XS.bipush X0.here hx rfl (hb hby d1_15) ?_
            show Steps p.tables e below (s₁.setTop (mkF m 17 #[.val (.int p1), .val (.int (((((1 : Int32) + (1 : Int32)) + (1 : Int32)) + (1 : Int32)) + (1 : Int32))), .val (.int (XT.ushr (XT.ushr (XT.ushr (XT.ushr p1 (7 : Int32)) (7 : Int32)) (7 : Int32)) (7 : Int32)))] [(.int (7 : Int32)), (.int (XT.ushr (XT.ushr (XT.ushr (XT.ushr p1 (7 : Int32)) (7 : Int32)) (7 : Int32)) (7 : Int32)))])) _
            refine XT.iushr X0.here hx rfl (hb hby d1_17) rfl ?_
            show Steps p.tables e below (s₁.setTop (mkF m 18 #[.val (.int p1), .val (.int (((((1 : Int32) + (1 : Int32)) + (1 : Int32)) + (1 : Int32)) + (1 : Int32))), .val (.int (XT.ushr (XT.ushr (XT.ushr (XT.ushr p1 (7 : Int32)) (7 : Int32)) (7 : Int32)) (7 : Int32)))] [(.int (XT.ushr (XT.ushr (XT.ushr (XT.ushr (XT.ushr p1 (7 : Int32)) (7 : Int32)) (7 : Int32)) (7 : Int32)) (7 : Int32)))])) _
            refine XS.istoreN X0.here hx rfl (hb hby d1_18) rfl (l' := #[.val (.int p1), .val (.int (((((1 : Int32) + (1 : Int32)) + (1 : Int32)) + (1 : Int32)) + (1 : Int32))), .val (.int (XT.ushr (XT.ushr (XT.ushr (XT.ushr (XT.ushr p1 (7 : Int32)) (7 : Int32)) (7 : Int32)) (7 : Int32)) (7 : Int32)))]) rfl ?_
            show Steps p.tables e below (s₁.setTop (mkF m 19 #[.val (.int p1), .val (.int (((((1 : Int32) + (1 : Int32)) + (1 : Int32)) + (1 : Int32)) + (1 : Int32))), .val (.int (XT.ushr (XT.ushr (XT.ushr (XT.ushr (XT.ushr p1 (7 : Int32)) (7 : Int32)) (7 : Int32)) (7 : Int32)) (7 : Int32)))] [])) _
            refine XS.goto X0.here hx rfl (pc0 := 19) (pc' := 7) rfl (hb hby d1_19) (by decide) (by decide) ?_
            show Steps p.tables e below (s₁.setTop (mkF m 7 #[.val (.int p1), .val (.int (((((1 : Int32) + (1 : Int32)) + (1 : Int32)) + (1 : Int32)) + (1 : Int32))), .val (.int (XT.ushr (XT.ushr (XT.ushr (XT.ushr (XT.ushr p1 (7 : Int32)) (7 : Int32)) (7 : Int32)) (7 : Int32)) (7 : Int32)))] [])) _
            refine XS.iloadN X0.here hx rfl (hb hby d1_7) rfl ?_
            show Steps p.tables e below (s₁.setTop (mkF m 8 #[.val (.int p1), .val (.int (((((1 : Int32) + (1 : Int32)) + (1 : Int32)) + (1 : Int32)) + (1 : Int32))), .val (.int (XT.ushr (XT.ushr (XT.ushr (XT.ushr (XT.ushr p1 (7 : Int32)) (7 : Int32)) (7 : Int32)) (7 : Int32)) (7 : Int32)))] [(.int (XT.ushr (XT.ushr (XT.ushr (XT.ushr (XT.ushr p1 (7 : Int32)) (7 : Int32)) (7 : Int32)) (7 : Int32)) (7 : Int32)))])) _
            refine XS.ifYes X0.here hx rfl (pc0 := 8) (pc' := 22) rfl (hb hby d1_8) rfl (XT.i0_eq_t hc8_13) (by decide) (by decide) ?_
            show Steps p.tables e below (s₁.setTop (mkF m 22 #[.val (.int p1), .val (.int (((((1 : Int32) + (1 : Int32)) + (1 : Int32)) + (1 : Int32)) + (1 : Int32))), .val (.int (XT.ushr (XT.ushr (XT.ushr (XT.ushr (XT.ushr p1 (7 : Int32)) (7 : Int32)) (7 : Int32)) (7 : Int32)) (7 : Int32)))] [])) _
            refine XS.iloadN X0.here hx rfl (hb hby d1_22) rfl ?_
            exact kt)
          obtain ⟨fs, hr, hrun, hended, hW, hsame⟩ := X0.leave (v := some (.int (((((1 : Int32) + (1 : Int32)) + (1 : Int32)) + (1 : Int32)) + (1 : Int32)))) (fun h => by rw [Bd.returns] at h; cases h)
          refine ⟨_, _, P14 _ ?_, hrun, hended, _, _, rfl, ?_, ⟨_, rfl⟩, hW, hsame.mono (by decide) (by decide)⟩
          · exact retI X0 hx Bd.returns (hb hby d1_23) hr
          · show Q1 Z p1 h0 n0 _ s₁.heap _
            rw [e0]
            exact ⟨by simp [own_len, hc8_1, hc8_4, hc8_7, hc8_10, hc8_13], N0, rfl⟩
theorem pn_1 : plainName "com/example/rootward/rootward/VarintOutputLengthPinLaw" = true := by first | (simp [plainName, overriddenIn]; done) | decide +kernel
theorem pd_0 : parseMethodDescriptor "(I)I" = some ⟨[.int], some .int⟩ := by decide +kernel
theorem ef_rm0 (m : MethodId) (x0 : Int32) (x1 : Int32) : entryFrame m #[(.int x0), (.int x1)] maxLocals = mkF m 0 #[.val (.int x0), .val (.int x1), .unset, .unset, .unset, .unset] [] := by first | (simp [entryFrame, mkF, argsToLocals, Value.category, maxLocals]; done) | rfl
def Q0 (Z : State) (p1 : Int32) (p2 : Int32) (h0 : Heap) (n0 : Nat) (v : Option Value) (h : Heap) (L : List Loc) : Prop := v = some (.int 1) ∧ Fr n0 L
set_option maxRecDepth 65536 in
set_option maxHeartbeats 40000000 in
theorem rm0 (l : Launch) (Z : State) (a0 : Array Value) (hw : ∀ d ∈ tables_1, d.before a0 Z = true) (ws : List Jvm.Cond) (p1 : Int32) (p2 : Int32) (h0 : Heap) (n0 : Nat) (Z0 : n0 ≤ h0.size) :
    MetFree l x (head1 (Jvm.Cond.code x code maxLocals ret :: ws) room_1) (fun a U => a = #[(.int p1), (.int p2)] ∧ Z.Warmed39 U.vm ∧ U.heap = h0) (fun _ _ _ _ _ => True) (fun _ U o U' => ∃ v L, o = .returned v ∧ Q0 Z p1 p2 h0 n0 v U'.heap L ∧ FrameEnd U o U' L room_1.cells room_1.slots) := by
  refine MetFree.of_bodySF (plainFor_of_name pn_1) hisR ?_
  intro p e s m args below meth c s₁ Bd hml0 hP hK
  obtain ⟨rfl, hZ, hh⟩ := hP
  have hx := Bd.exec
  have hby := Bd.bytes
  have hml : c.maxLocals = 6 := hml0
  have hown : s.vm.findClass "com/example/rootward/rootward/VarintOutputLengthPinLaw" = some m.cls := findClass_of_methodNamed Bd.named
  have hnm := (name_of_methodNamed Bd.named Bd.method).1
  have X0 : Stand p l e room_1 s m #[(.int p1), (.int p2)] below meth c s₁ [] 0 0 := Stand.of_body Bd
  have e0 : s₁.heap = h0 := by rw [← hh, Bd.state]; rfl
  have N0 := Fr.nil n0
  have pre0 : ∀ t, Steps p.tables e below (s₁.setTop (mkF m 0 #[.val (.int p1), .val (.int p2), .unset, .unset, .unset, .unset] [])) t → Steps p.tables e below (s₁.setTop (entryFrame m #[(.int p1), (.int p2)] maxLocals)) t := fun t k => castTop (ef_rm0 m p1 p2) k
  have P2 : ∀ t, Steps p.tables e below (s₁.setTop (mkF m 19 #[.val (.int p1), .val (.int p2), .val (.int (XT.ushr p1 (p2 &&& (31 : Int32)))), .val (.long ((XT.ushr p1 (p2 &&& (31 : Int32))).toInt64 &&& (4294967295 : Int64))), .second, .unset] [(.int (XT.cmpL ((XT.ushr p1 (p2 &&& (31 : Int32))).toInt64 &&& (4294967295 : Int64)) (128 : Int64)))])) t → Steps p.tables e below (s₁.setTop (entryFrame m #[(.int p1), (.int p2)] maxLocals)) t := fun t kt => pre0 t (by
    show Steps p.tables e below (s₁.setTop (mkF m 0 #[.val (.int p1), .val (.int p2), .unset, .unset, .unset, .unset] [])) _
    refine XS.iloadN X0.here hx rfl (hb hby at_0) rfl ?_
    show Steps p.tables e below (s₁.setTop (mkF m 1 #[.val (.int p1), .val (.int p2), .unset, .unset, .unset, .unset] [(.int p1)])) _
    refine XS.iloadN X0.here hx rfl (hb hby at_1) rfl ?_
    show Steps p.tables e below (s₁.setTop (mkF m 2 #[.val (.int p1), .val (.int p2), .unset, .unset, .unset, .unset] [(.int p2), (.int p1)])) _
    refine XS.bipush X0.here hx rfl (hb hby at_2) ?_
    show Steps p.tables e below (s₁.setTop (mkF m 4 #[.val (.int p1), .val (.int p2), .unset, .unset, .unset, .unset] [(.int (31 : Int32)), (.int p2), (.int p1)])) _
    refine XS.iand X0.here hx rfl (hb hby at_4) rfl ?_
    show Steps p.tables e below (s₁.setTop (mkF m 5 #[.val (.int p1), .val (.int p2), .unset, .unset, .unset, .unset] [(.int (p2 &&& (31 : Int32))), (.int p1)])) _
    refine XT.iushr X0.here hx rfl (hb hby at_5) rfl ?_
    show Steps p.tables e below (s₁.setTop (mkF m 6 #[.val (.int p1), .val (.int p2), .unset, .unset, .unset, .unset] [(.int (XT.ushr p1 (p2 &&& (31 : Int32))))])) _
    refine XS.istoreN X0.here hx rfl (hb hby at_6) rfl (l' := #[.val (.int p1), .val (.int p2), .val (.int (XT.ushr p1 (p2 &&& (31 : Int32)))), .unset, .unset, .unset]) rfl ?_
    show Steps p.tables e below (s₁.setTop (mkF m 7 #[.val (.int p1), .val (.int p2), .val (.int (XT.ushr p1 (p2 &&& (31 : Int32)))), .unset, .unset, .unset] [])) _
    refine XS.iloadN X0.here hx rfl (hb hby at_7) rfl ?_
    show Steps p.tables e below (s₁.setTop (mkF m 8 #[.val (.int p1), .val (.int p2), .val (.int (XT.ushr p1 (p2 &&& (31 : Int32)))), .unset, .unset, .unset] [(.int (XT.ushr p1 (p2 &&& (31 : Int32))))])) _
    refine XT.i2l X0.here hx rfl (hb hby at_8) rfl ?_
    show Steps p.tables e below (s₁.setTop (mkF m 9 #[.val (.int p1), .val (.int p2), .val (.int (XT.ushr p1 (p2 &&& (31 : Int32)))), .unset, .unset, .unset] [(.long (XT.ushr p1 (p2 &&& (31 : Int32))).toInt64)])) _
    refine X0.ldc2J hx hown (mvT hZ (hw _ (List.mem_of_getElem? (i := 0) rfl))) rfl (hb hby at_9) ?_
    show Steps p.tables e below (s₁.setTop (mkF m 12 #[.val (.int p1), .val (.int p2), .val (.int (XT.ushr p1 (p2 &&& (31 : Int32)))), .unset, .unset, .unset] [(.long (4294967295 : Int64)), (.long (XT.ushr p1 (p2 &&& (31 : Int32))).toInt64)])) _
    refine XT.land X0.here hx rfl (hb hby at_12) rfl ?_
    show Steps p.tables e below (s₁.setTop (mkF m 13 #[.val (.int p1), .val (.int p2), .val (.int (XT.ushr p1 (p2 &&& (31 : Int32)))), .unset, .unset, .unset] [(.long ((XT.ushr p1 (p2 &&& (31 : Int32))).toInt64 &&& (4294967295 : Int64)))])) _
    refine XT.lstoreN X0.here hx rfl (hb hby at_13) rfl (l' := #[.val (.int p1), .val (.int p2), .val (.int (XT.ushr p1 (p2 &&& (31 : Int32)))), .val (.long ((XT.ushr p1 (p2 &&& (31 : Int32))).toInt64 &&& (4294967295 : Int64))), .second, .unset]) rfl ?_
    show Steps p.tables e below (s₁.setTop (mkF m 14 #[.val (.int p1), .val (.int p2), .val (.int (XT.ushr p1 (p2 &&& (31 : Int32)))), .val (.long ((XT.ushr p1 (p2 &&& (31 : Int32))).toInt64 &&& (4294967295 : Int64))), .second, .unset] [])) _
    refine XT.lloadN X0.here hx rfl (hb hby at_14) rfl ?_
    show Steps p.tables e below (s₁.setTop (mkF m 15 #[.val (.int p1), .val (.int p2), .val (.int (XT.ushr p1 (p2 &&& (31 : Int32)))), .val (.long ((XT.ushr p1 (p2 &&& (31 : Int32))).toInt64 &&& (4294967295 : Int64))), .second, .unset] [(.long ((XT.ushr p1 (p2 &&& (31 : Int32))).toInt64 &&& (4294967295 : Int64)))])) _
    refine X0.ldc2J hx hown (mvT hZ (hw _ (List.mem_of_getElem? (i := 1) rfl))) rfl (hb hby at_15) ?_
    show Steps p.tables e below (s₁.setTop (mkF m 18 #[.val (.int p1), .val (.int p2), .val (.int (XT.ushr p1 (p2 &&& (31 : Int32)))), .val (.long ((XT.ushr p1 (p2 &&& (31 : Int32))).toInt64 &&& (4294967295 : Int64))), .second, .unset] [(.long (128 : Int64)), (.long ((XT.ushr p1 (p2 &&& (31 : Int32))).toInt64 &&& (4294967295 : Int64)))])) _
    refine XT.lcmp X0.here hx rfl (hb hby at_18) rfl ?_
    exact kt)
  by_cases hc19_1 : ((XT.ushr p1 (p2 &&& (31 : Int32))).toInt64 &&& (4294967295 : Int64)) < (128 : Int64)
  · skip
    obtain ⟨_, _, ⟨T3, L3, k3, n3⟩, -, X3, ⟨Lc3, hQ3, l3, y3, z3⟩, st3⟩ := Jvm.LawKit.callS X0 hx (y := (⟨"com/example/rootward/rootward/VarintOutput", "length", "(I)I"⟩ : MethodName)) hown (mvT hZ (hw _ (List.mem_of_getElem? (i := 2) rfl))) (mvT hZ (hw _ (List.mem_of_getElem? (i := 3) rfl))) (mvT hZ (hw _ (List.mem_of_getElem? (i := 4) rfl))) (mvT hZ (hw _ (List.mem_of_getElem? (i := 5) rfl))) (by decide) (backOf (W := 0) (rm1 l Z a0 hw [] (XT.ushr p1 (p2 &&& (31 : Int32))) h0 n0 Z0) hZ (hw _ (List.mem_of_getElem? (i := 5) rfl)) (hw _ (List.mem_of_getElem? (i := 4) rfl)) (by decide) (by decide)) (g := (mkF m 74 #[.val (.int p1), .val (.int p2), .val (.int (XT.ushr p1 (p2 &&& (31 : Int32)))), .val (.long ((XT.ushr p1 (p2 &&& (31 : Int32))).toInt64 &&& (4294967295 : Int64))), .second, .val (.int (1 : Int32))] [(.int (XT.ushr p1 (p2 &&& (31 : Int32))))])) rfl (by rw [hml]; rfl) (argsL := [(.int (XT.ushr p1 (p2 &&& (31 : Int32))))]) (rest := []) (lenOf pd_0 rfl) rfl (by show 2 * 0 + _ ≤ _; exact Nat.le_of_eq rfl) (hb hby at_74) (fun _ _ => ⟨rfl, e0, (by decide : 0 + 0 ≤ _), (by decide : 0 + 0 ≤ _)⟩)
    dsimp only [Pt.U, Pt.locs, Pt.cells, Pt.slots] at X3 l3 y3 z3 st3 hQ3
    subst l3 y3 z3
    obtain ⟨rfl, N3q, e3⟩ := hQ3
    have N3 := Fr.app N0 N3q
    have hc79_4 : (own_len (XT.ushr p1 (p2 &&& (31 : Int32)))) = (1 : Int32) := by rw [own_len_eq]; rw [if_pos ((own_lt _ 128 (by decide)).mp hc19_1)]
    have P5 : ∀ t, Steps p.tables e below (T3.setTop (mkF m 87 #[.val (.int p1), .val (.int p2), .val (.int (XT.ushr p1 (p2 &&& (31 : Int32)))), .val (.long ((XT.ushr p1 (p2 &&& (31 : Int32))).toInt64 &&& (4294967295 : Int64))), .second, .val (.int (1 : Int32))] [(.int (1 : Int32))])) t → Steps p.tables e below (s₁.setTop (entryFrame m #[(.int p1), (.int p2)] maxLocals)) t := fun t kt => P2 t (by
      show Steps p.tables e below (s₁.setTop (mkF m 19 #[.val (.int p1), .val (.int p2), .val (.int (XT.ushr p1 (p2 &&& (31 : Int32)))), .val (.long ((XT.ushr p1 (p2 &&& (31 : Int32))).toInt64 &&& (4294967295 : Int64))), .second, .unset] [(.int (XT.cmpL ((XT.ushr p1 (p2 &&& (31 : Int32))).toInt64 &&& (4294967295 : Int64)) (128 : Int64)))])) _
      refine XS.ifNo X0.here hx rfl (hb hby at_19) rfl (XT.ll_ge_f hc19_1) ?_
      show Steps p.tables e below (s₁.setTop (mkF m 22 #[.val (.int p1), .val (.int p2), .val (.int (XT.ushr p1 (p2 &&& (31 : Int32)))), .val (.long ((XT.ushr p1 (p2 &&& (31 : Int32))).toInt64 &&& (4294967295 : Int64))), .second, .unset] [])) _
      refine XS.iconst X0.here hx rfl (hb hby at_22) ?_
      show Steps p.tables e below (s₁.setTop (mkF m 23 #[.val (.int p1), .val (.int p2), .val (.int (XT.ushr p1 (p2 &&& (31 : Int32)))), .val (.long ((XT.ushr p1 (p2 &&& (31 : Int32))).toInt64 &&& (4294967295 : Int64))), .second, .unset] [(.int (1 : Int32))])) _
      refine XS.istore X0.here hx rfl (hb hby at_23) rfl (l' := #[.val (.int p1), .val (.int p2), .val (.int (XT.ushr p1 (p2 &&& (31 : Int32)))), .val (.long ((XT.ushr p1 (p2 &&& (31 : Int32))).toInt64 &&& (4294967295 : Int64))), .second, .val (.int (1 : Int32))]) rfl ?_
      show Steps p.tables e below (s₁.setTop (mkF m 25 #[.val (.int p1), .val (.int p2), .val (.int (XT.ushr p1 (p2 &&& (31 : Int32)))), .val (.long ((XT.ushr p1 (p2 &&& (31 : Int32))).toInt64 &&& (4294967295 : Int64))), .second, .val (.int (1 : Int32))] [])) _
      refine XS.goto X0.here hx rfl (pc0 := 25) (pc' := 73) rfl (hb hby at_25) (by decide) (by decide) ?_
      show Steps p.tables e below (s₁.setTop (mkF m 73 #[.val (.int p1), .val (.int p2), .val (.int (XT.ushr p1 (p2 &&& (31 : Int32)))), .val (.long ((XT.ushr p1 (p2 &&& (31 : Int32))).toInt64 &&& (4294967295 : Int64))), .second, .val (.int (1 : Int32))] [])) _
      refine XS.iloadN X0.here hx rfl (hb hby at_73) rfl ?_
      show Steps p.tables e below (s₁.setTop (mkF m 74 #[.val (.int p1), .val (.int p2), .val (.int (XT.ushr p1 (p2 &&& (31 : Int32)))), .val (.long ((XT.ushr p1 (p2 &&& (31 : Int32))).toInt64 &&& (4294967295 : Int64))), .second, .val (.int (1 : Int32))] [(.int (XT.ushr p1 (p2 &&& (31 : Int32))))])) _
      refine st3 _ ?_
      show Steps p.tables e below (T3.setTop (mkF m 77 #[.val (.int p1), .val (.int p2), .val (.int (XT.ushr p1 (p2 &&& (31 : Int32)))), .val (.long ((XT.ushr p1 (p2 &&& (31 : Int32))).toInt64 &&& (4294967295 : Int64))), .second, .val (.int (1 : Int32))] [(.int (own_len (XT.ushr p1 (p2 &&& (31 : Int32)))))])) _
      refine XS.iload X3.here hx rfl (hb hby at_77) rfl ?_
      show Steps p.tables e below (T3.setTop (mkF m 79 #[.val (.int p1), .val (.int p2), .val (.int (XT.ushr p1 (p2 &&& (31 : Int32)))), .val (.long ((XT.ushr p1 (p2 &&& (31 : Int32))).toInt64 &&& (4294967295 : Int64))), .second, .val (.int (1 : Int32))] [(.int (1 : Int32)), (.int (own_len (XT.ushr p1 (p2 &&& (31 : Int32)))))])) _
      refine XS.icmpNo X3.here hx rfl (hb hby at_79) rfl (XT.ii_ne_f hc79_4) ?_
      show Steps p.tables e below (T3.setTop (mkF m 82 #[.val (.int p1), .val (.int p2), .val (.int (XT.ushr p1 (p2 &&& (31 : Int32)))), .val (.long ((XT.ushr p1 (p2 &&& (31 : Int32))).toInt64 &&& (4294967295 : Int64))), .second, .val (.int (1 : Int32))] [])) _
      refine XS.iconst X3.here hx rfl (hb hby at_82) ?_
      show Steps p.tables e below (T3.setTop (mkF m 83 #[.val (.int p1), .val (.int p2), .val (.int (XT.ushr p1 (p2 &&& (31 : Int32)))), .val (.long ((XT.ushr p1 (p2 &&& (31 : Int32))).toInt64 &&& (4294967295 : Int64))), .second, .val (.int (1 : Int32))] [(.int (1 : Int32))])) _
      refine XS.goto X3.here hx rfl (pc0 := 83) (pc' := 87) rfl (hb hby at_83) (by decide) (by decide) ?_
      exact kt)
    obtain ⟨fs, hr, hrun, hended, hW, hsame⟩ := X3.leave (v := some (.int (1 : Int32))) (fun h => by rw [Bd.returns] at h; cases h)
    refine ⟨_, _, P5 _ ?_, hrun, hended, _, _, rfl, ?_, ⟨_, rfl⟩, hW, hsame.mono (by decide) (by decide)⟩
    · exact retN X3 hx (t := .boolean) Bd.returns (by simp) (hb hby at_87) hr
    · show Q0 Z p1 p2 h0 n0 _ T3.heap _
      rw [e3]
      exact ⟨rfl, N3⟩
  · skip
    have P7 : ∀ t, Steps p.tables e below (s₁.setTop (mkF m 33 #[.val (.int p1), .val (.int p2), .val (.int (XT.ushr p1 (p2 &&& (31 : Int32)))), .val (.long ((XT.ushr p1 (p2 &&& (31 : Int32))).toInt64 &&& (4294967295 : Int64))), .second, .unset] [(.int (XT.cmpL ((XT.ushr p1 (p2 &&& (31 : Int32))).toInt64 &&& (4294967295 : Int64)) (16384 : Int64)))])) t → Steps p.tables e below (s₁.setTop (entryFrame m #[(.int p1), (.int p2)] maxLocals)) t := fun t kt => P2 t (by
      show Steps p.tables e below (s₁.setTop (mkF m 19 #[.val (.int p1), .val (.int p2), .val (.int (XT.ushr p1 (p2 &&& (31 : Int32)))), .val (.long ((XT.ushr p1 (p2 &&& (31 : Int32))).toInt64 &&& (4294967295 : Int64))), .second, .unset] [(.int (XT.cmpL ((XT.ushr p1 (p2 &&& (31 : Int32))).toInt64 &&& (4294967295 : Int64)) (128 : Int64)))])) _
      refine XS.ifYes X0.here hx rfl (pc0 := 19) (pc' := 28) rfl (hb hby at_19) rfl (XT.ll_ge_t hc19_1) (by decide) (by decide) ?_
      show Steps p.tables e below (s₁.setTop (mkF m 28 #[.val (.int p1), .val (.int p2), .val (.int (XT.ushr p1 (p2 &&& (31 : Int32)))), .val (.long ((XT.ushr p1 (p2 &&& (31 : Int32))).toInt64 &&& (4294967295 : Int64))), .second, .unset] [])) _
      refine XT.lloadN X0.here hx rfl (hb hby at_28) rfl ?_
      show Steps p.tables e below (s₁.setTop (mkF m 29 #[.val (.int p1), .val (.int p2), .val (.int (XT.ushr p1 (p2 &&& (31 : Int32)))), .val (.long ((XT.ushr p1 (p2 &&& (31 : Int32))).toInt64 &&& (4294967295 : Int64))), .second, .unset] [(.long ((XT.ushr p1 (p2 &&& (31 : Int32))).toInt64 &&& (4294967295 : Int64)))])) _
      refine X0.ldc2J hx hown (mvT hZ (hw _ (List.mem_of_getElem? (i := 6) rfl))) rfl (hb hby at_29) ?_
      show Steps p.tables e below (s₁.setTop (mkF m 32 #[.val (.int p1), .val (.int p2), .val (.int (XT.ushr p1 (p2 &&& (31 : Int32)))), .val (.long ((XT.ushr p1 (p2 &&& (31 : Int32))).toInt64 &&& (4294967295 : Int64))), .second, .unset] [(.long (16384 : Int64)), (.long ((XT.ushr p1 (p2 &&& (31 : Int32))).toInt64 &&& (4294967295 : Int64)))])) _
      refine XT.lcmp X0.here hx rfl (hb hby at_32) rfl ?_
      exact kt)
    by_cases hc33_6 : ((XT.ushr p1 (p2 &&& (31 : Int32))).toInt64 &&& (4294967295 : Int64)) < (16384 : Int64)
    · skip
      obtain ⟨_, _, ⟨T8, L8, k8, n8⟩, -, X8, ⟨Lc8, hQ8, l8, y8, z8⟩, st8⟩ := Jvm.LawKit.callS X0 hx (y := (⟨"com/example/rootward/rootward/VarintOutput", "length", "(I)I"⟩ : MethodName)) hown (mvT hZ (hw _ (List.mem_of_getElem? (i := 2) rfl))) (mvT hZ (hw _ (List.mem_of_getElem? (i := 3) rfl))) (mvT hZ (hw _ (List.mem_of_getElem? (i := 4) rfl))) (mvT hZ (hw _ (List.mem_of_getElem? (i := 5) rfl))) (by decide) (backOf (W := 0) (rm1 l Z a0 hw [] (XT.ushr p1 (p2 &&& (31 : Int32))) h0 n0 Z0) hZ (hw _ (List.mem_of_getElem? (i := 5) rfl)) (hw _ (List.mem_of_getElem? (i := 4) rfl)) (by decide) (by decide)) (g := (mkF m 74 #[.val (.int p1), .val (.int p2), .val (.int (XT.ushr p1 (p2 &&& (31 : Int32)))), .val (.long ((XT.ushr p1 (p2 &&& (31 : Int32))).toInt64 &&& (4294967295 : Int64))), .second, .val (.int (2 : Int32))] [(.int (XT.ushr p1 (p2 &&& (31 : Int32))))])) rfl (by rw [hml]; rfl) (argsL := [(.int (XT.ushr p1 (p2 &&& (31 : Int32))))]) (rest := []) (lenOf pd_0 rfl) rfl (by show 2 * 0 + _ ≤ _; exact Nat.le_of_eq rfl) (hb hby at_74) (fun _ _ => ⟨rfl, e0, (by decide : 0 + 0 ≤ _), (by decide : 0 + 0 ≤ _)⟩)
      dsimp only [Pt.U, Pt.locs, Pt.cells, Pt.slots] at X8 l8 y8 z8 st8 hQ8
      subst l8 y8 z8
      obtain ⟨rfl, N8q, e8⟩ := hQ8
      have N8 := Fr.app N0 N8q
      have hc79_9 : (own_len (XT.ushr p1 (p2 &&& (31 : Int32)))) = (2 : Int32) := by rw [own_len_eq]; rw [if_neg (fun q => hc19_1 ((own_lt _ 128 (by decide)).mpr q))]; rw [if_pos ((own_lt _ 16384 (by decide)).mp hc33_6)]
      have P10 : ∀ t, Steps p.tables e below (T8.setTop (mkF m 87 #[.val (.int p1), .val (.int p2), .val (.int (XT.ushr p1 (p2 &&& (31 : Int32)))), .val (.long ((XT.ushr p1 (p2 &&& (31 : Int32))).toInt64 &&& (4294967295 : Int64))), .second, .val (.int (2 : Int32))] [(.int (1 : Int32))])) t → Steps p.tables e below (s₁.setTop (entryFrame m #[(.int p1), (.int p2)] maxLocals)) t := fun t kt => P7 t (by
        show Steps p.tables e below (s₁.setTop (mkF m 33 #[.val (.int p1), .val (.int p2), .val (.int (XT.ushr p1 (p2 &&& (31 : Int32)))), .val (.long ((XT.ushr p1 (p2 &&& (31 : Int32))).toInt64 &&& (4294967295 : Int64))), .second, .unset] [(.int (XT.cmpL ((XT.ushr p1 (p2 &&& (31 : Int32))).toInt64 &&& (4294967295 : Int64)) (16384 : Int64)))])) _
        refine XS.ifNo X0.here hx rfl (hb hby at_33) rfl (XT.ll_ge_f hc33_6) ?_
        show Steps p.tables e below (s₁.setTop (mkF m 36 #[.val (.int p1), .val (.int p2), .val (.int (XT.ushr p1 (p2 &&& (31 : Int32)))), .val (.long ((XT.ushr p1 (p2 &&& (31 : Int32))).toInt64 &&& (4294967295 : Int64))), .second, .unset] [])) _
        refine XS.iconst X0.here hx rfl (hb hby at_36) ?_
        show Steps p.tables e below (s₁.setTop (mkF m 37 #[.val (.int p1), .val (.int p2), .val (.int (XT.ushr p1 (p2 &&& (31 : Int32)))), .val (.long ((XT.ushr p1 (p2 &&& (31 : Int32))).toInt64 &&& (4294967295 : Int64))), .second, .unset] [(.int (2 : Int32))])) _
        refine XS.istore X0.here hx rfl (hb hby at_37) rfl (l' := #[.val (.int p1), .val (.int p2), .val (.int (XT.ushr p1 (p2 &&& (31 : Int32)))), .val (.long ((XT.ushr p1 (p2 &&& (31 : Int32))).toInt64 &&& (4294967295 : Int64))), .second, .val (.int (2 : Int32))]) rfl ?_
        show Steps p.tables e below (s₁.setTop (mkF m 39 #[.val (.int p1), .val (.int p2), .val (.int (XT.ushr p1 (p2 &&& (31 : Int32)))), .val (.long ((XT.ushr p1 (p2 &&& (31 : Int32))).toInt64 &&& (4294967295 : Int64))), .second, .val (.int (2 : Int32))] [])) _
        refine XS.goto X0.here hx rfl (pc0 := 39) (pc' := 73) rfl (hb hby at_39) (by decide) (by decide) ?_
        show Steps p.tables e below (s₁.setTop (mkF m 73 #[.val (.int p1), .val (.int p2), .val (.int (XT.ushr p1 (p2 &&& (31 : Int32)))), .val (.long ((XT.ushr p1 (p2 &&& (31 : Int32))).toInt64 &&& (4294967295 : Int64))), .second, .val (.int (2 : Int32))] [])) _
        refine XS.iloadN X0.here hx rfl (hb hby at_73) rfl ?_
        show Steps p.tables e below (s₁.setTop (mkF m 74 #[.val (.int p1), .val (.int p2), .val (.int (XT.ushr p1 (p2 &&& (31 : Int32)))), .val (.long ((XT.ushr p1 (p2 &&& (31 : Int32))).toInt64 &&& (4294967295 : Int64))), .second, .val (.int (2 : Int32))] [(.int (XT.ushr p1 (p2 &&& (31 : Int32))))])) _
        refine st8 _ ?_
        show Steps p.tables e below (T8.setTop (mkF m 77 #[.val (.int p1), .val (.int p2), .val (.int (XT.ushr p1 (p2 &&& (31 : Int32)))), .val (.long ((XT.ushr p1 (p2 &&& (31 : Int32))).toInt64 &&& (4294967295 : Int64))), .second, .val (.int (2 : Int32))] [(.int (own_len (XT.ushr p1 (p2 &&& (31 : Int32)))))])) _
        refine XS.iload X8.here hx rfl (hb hby at_77) rfl ?_
        show Steps p.tables e below (T8.setTop (mkF m 79 #[.val (.int p1), .val (.int p2), .val (.int (XT.ushr p1 (p2 &&& (31 : Int32)))), .val (.long ((XT.ushr p1 (p2 &&& (31 : Int32))).toInt64 &&& (4294967295 : Int64))), .second, .val (.int (2 : Int32))] [(.int (2 : Int32)), (.int (own_len (XT.ushr p1 (p2 &&& (31 : Int32)))))])) _
        refine XS.icmpNo X8.here hx rfl (hb hby at_79) rfl (XT.ii_ne_f hc79_9) ?_
        show Steps p.tables e below (T8.setTop (mkF m 82 #[.val (.int p1), .val (.int p2), .val (.int (XT.ushr p1 (p2 &&& (31 : Int32)))), .val (.long ((XT.ushr p1 (p2 &&& (31 : Int32))).toInt64 &&& (4294967295 : Int64))), .second, .val (.int (2 : Int32))] [])) _
        refine XS.iconst X8.here hx rfl (hb hby at_82) ?_
        show Steps p.tables e below (T8.setTop (mkF m 83 #[.val (.int p1), .val (.int p2), .val (.int (XT.ushr p1 (p2 &&& (31 : Int32)))), .val (.long ((XT.ushr p1 (p2 &&& (31 : Int32))).toInt64 &&& (4294967295 : Int64))), .second, .val (.int (2 : Int32))] [(.int (1 : Int32))])) _
        refine XS.goto X8.here hx rfl (pc0 := 83) (pc' := 87) rfl (hb hby at_83) (by decide) (by decide) ?_
        exact kt)
      obtain ⟨fs, hr, hrun, hended, hW, hsame⟩ := X8.leave (v := some (.int (1 : Int32))) (fun h => by rw [Bd.returns] at h; cases h)
      refine ⟨_, _, P10 _ ?_, hrun, hended, _, _, rfl, ?_, ⟨_, rfl⟩, hW, hsame.mono (by decide) (by decide)⟩
      · exact retN X8 hx (t := .boolean) Bd.returns (by simp) (hb hby at_87) hr
      · show Q0 Z p1 p2 h0 n0 _ T8.heap _
        rw [e8]
        exact ⟨rfl, N8⟩
    · skip
      have P12 : ∀ t, Steps p.tables e below (s₁.setTop (mkF m 47 #[.val (.int p1), .val (.int p2), .val (.int (XT.ushr p1 (p2 &&& (31 : Int32)))), .val (.long ((XT.ushr p1 (p2 &&& (31 : Int32))).toInt64 &&& (4294967295 : Int64))), .second, .unset] [(.int (XT.cmpL ((XT.ushr p1 (p2 &&& (31 : Int32))).toInt64 &&& (4294967295 : Int64)) (2097152 : Int64)))])) t → Steps p.tables e below (s₁.setTop (entryFrame m #[(.int p1), (.int p2)] maxLocals)) t := fun t kt => P7 t (by
        show Steps p.tables e below (s₁.setTop (mkF m 33 #[.val (.int p1), .val (.int p2), .val (.int (XT.ushr p1 (p2 &&& (31 : Int32)))), .val (.long ((XT.ushr p1 (p2 &&& (31 : Int32))).toInt64 &&& (4294967295 : Int64))), .second, .unset] [(.int (XT.cmpL ((XT.ushr p1 (p2 &&& (31 : Int32))).toInt64 &&& (4294967295 : Int64)) (16384 : Int64)))])) _
        refine XS.ifYes X0.here hx rfl (pc0 := 33) (pc' := 42) rfl (hb hby at_33) rfl (XT.ll_ge_t hc33_6) (by decide) (by decide) ?_
        show Steps p.tables e below (s₁.setTop (mkF m 42 #[.val (.int p1), .val (.int p2), .val (.int (XT.ushr p1 (p2 &&& (31 : Int32)))), .val (.long ((XT.ushr p1 (p2 &&& (31 : Int32))).toInt64 &&& (4294967295 : Int64))), .second, .unset] [])) _
        refine XT.lloadN X0.here hx rfl (hb hby at_42) rfl ?_
        show Steps p.tables e below (s₁.setTop (mkF m 43 #[.val (.int p1), .val (.int p2), .val (.int (XT.ushr p1 (p2 &&& (31 : Int32)))), .val (.long ((XT.ushr p1 (p2 &&& (31 : Int32))).toInt64 &&& (4294967295 : Int64))), .second, .unset] [(.long ((XT.ushr p1 (p2 &&& (31 : Int32))).toInt64 &&& (4294967295 : Int64)))])) _
        refine X0.ldc2J hx hown (mvT hZ (hw _ (List.mem_of_getElem? (i := 7) rfl))) rfl (hb hby at_43) ?_
        show Steps p.tables e below (s₁.setTop (mkF m 46 #[.val (.int p1), .val (.int p2), .val (.int (XT.ushr p1 (p2 &&& (31 : Int32)))), .val (.long ((XT.ushr p1 (p2 &&& (31 : Int32))).toInt64 &&& (4294967295 : Int64))), .second, .unset] [(.long (2097152 : Int64)), (.long ((XT.ushr p1 (p2 &&& (31 : Int32))).toInt64 &&& (4294967295 : Int64)))])) _
        refine XT.lcmp X0.here hx rfl (hb hby at_46) rfl ?_
        exact kt)
      by_cases hc47_11 : ((XT.ushr p1 (p2 &&& (31 : Int32))).toInt64 &&& (4294967295 : Int64)) < (2097152 : Int64)
      · skip
        obtain ⟨_, _, ⟨T13, L13, k13, n13⟩, -, X13, ⟨Lc13, hQ13, l13, y13, z13⟩, st13⟩ := Jvm.LawKit.callS X0 hx (y := (⟨"com/example/rootward/rootward/VarintOutput", "length", "(I)I"⟩ : MethodName)) hown (mvT hZ (hw _ (List.mem_of_getElem? (i := 2) rfl))) (mvT hZ (hw _ (List.mem_of_getElem? (i := 3) rfl))) (mvT hZ (hw _ (List.mem_of_getElem? (i := 4) rfl))) (mvT hZ (hw _ (List.mem_of_getElem? (i := 5) rfl))) (by decide) (backOf (W := 0) (rm1 l Z a0 hw [] (XT.ushr p1 (p2 &&& (31 : Int32))) h0 n0 Z0) hZ (hw _ (List.mem_of_getElem? (i := 5) rfl)) (hw _ (List.mem_of_getElem? (i := 4) rfl)) (by decide) (by decide)) (g := (mkF m 74 #[.val (.int p1), .val (.int p2), .val (.int (XT.ushr p1 (p2 &&& (31 : Int32)))), .val (.long ((XT.ushr p1 (p2 &&& (31 : Int32))).toInt64 &&& (4294967295 : Int64))), .second, .val (.int (3 : Int32))] [(.int (XT.ushr p1 (p2 &&& (31 : Int32))))])) rfl (by rw [hml]; rfl) (argsL := [(.int (XT.ushr p1 (p2 &&& (31 : Int32))))]) (rest := []) (lenOf pd_0 rfl) rfl (by show 2 * 0 + _ ≤ _; exact Nat.le_of_eq rfl) (hb hby at_74) (fun _ _ => ⟨rfl, e0, (by decide : 0 + 0 ≤ _), (by decide : 0 + 0 ≤ _)⟩)
        dsimp only [Pt.U, Pt.locs, Pt.cells, Pt.slots] at X13 l13 y13 z13 st13 hQ13
        subst l13 y13 z13
        obtain ⟨rfl, N13q, e13⟩ := hQ13
        have N13 := Fr.app N0 N13q
        have hc79_14 : (own_len (XT.ushr p1 (p2 &&& (31 : Int32)))) = (3 : Int32) := by rw [own_len_eq]; rw [if_neg (fun q => hc19_1 ((own_lt _ 128 (by decide)).mpr q))]; rw [if_neg (fun q => hc33_6 ((own_lt _ 16384 (by decide)).mpr q))]; rw [if_pos ((own_lt _ 2097152 (by decide)).mp hc47_11)]
        have P15 : ∀ t, Steps p.tables e below (T13.setTop (mkF m 87 #[.val (.int p1), .val (.int p2), .val (.int (XT.ushr p1 (p2 &&& (31 : Int32)))), .val (.long ((XT.ushr p1 (p2 &&& (31 : Int32))).toInt64 &&& (4294967295 : Int64))), .second, .val (.int (3 : Int32))] [(.int (1 : Int32))])) t → Steps p.tables e below (s₁.setTop (entryFrame m #[(.int p1), (.int p2)] maxLocals)) t := fun t kt => P12 t (by
          show Steps p.tables e below (s₁.setTop (mkF m 47 #[.val (.int p1), .val (.int p2), .val (.int (XT.ushr p1 (p2 &&& (31 : Int32)))), .val (.long ((XT.ushr p1 (p2 &&& (31 : Int32))).toInt64 &&& (4294967295 : Int64))), .second, .unset] [(.int (XT.cmpL ((XT.ushr p1 (p2 &&& (31 : Int32))).toInt64 &&& (4294967295 : Int64)) (2097152 : Int64)))])) _
          refine XS.ifNo X0.here hx rfl (hb hby at_47) rfl (XT.ll_ge_f hc47_11) ?_
          show Steps p.tables e below (s₁.setTop (mkF m 50 #[.val (.int p1), .val (.int p2), .val (.int (XT.ushr p1 (p2 &&& (31 : Int32)))), .val (.long ((XT.ushr p1 (p2 &&& (31 : Int32))).toInt64 &&& (4294967295 : Int64))), .second, .unset] [])) _
          refine XS.iconst X0.here hx rfl (hb hby at_50) ?_
          show Steps p.tables e below (s₁.setTop (mkF m 51 #[.val (.int p1), .val (.int p2), .val (.int (XT.ushr p1 (p2 &&& (31 : Int32)))), .val (.long ((XT.ushr p1 (p2 &&& (31 : Int32))).toInt64 &&& (4294967295 : Int64))), .second, .unset] [(.int (3 : Int32))])) _
          refine XS.istore X0.here hx rfl (hb hby at_51) rfl (l' := #[.val (.int p1), .val (.int p2), .val (.int (XT.ushr p1 (p2 &&& (31 : Int32)))), .val (.long ((XT.ushr p1 (p2 &&& (31 : Int32))).toInt64 &&& (4294967295 : Int64))), .second, .val (.int (3 : Int32))]) rfl ?_
          show Steps p.tables e below (s₁.setTop (mkF m 53 #[.val (.int p1), .val (.int p2), .val (.int (XT.ushr p1 (p2 &&& (31 : Int32)))), .val (.long ((XT.ushr p1 (p2 &&& (31 : Int32))).toInt64 &&& (4294967295 : Int64))), .second, .val (.int (3 : Int32))] [])) _
          refine XS.goto X0.here hx rfl (pc0 := 53) (pc' := 73) rfl (hb hby at_53) (by decide) (by decide) ?_
          show Steps p.tables e below (s₁.setTop (mkF m 73 #[.val (.int p1), .val (.int p2), .val (.int (XT.ushr p1 (p2 &&& (31 : Int32)))), .val (.long ((XT.ushr p1 (p2 &&& (31 : Int32))).toInt64 &&& (4294967295 : Int64))), .second, .val (.int (3 : Int32))] [])) _
          refine XS.iloadN X0.here hx rfl (hb hby at_73) rfl ?_
          show Steps p.tables e below (s₁.setTop (mkF m 74 #[.val (.int p1), .val (.int p2), .val (.int (XT.ushr p1 (p2 &&& (31 : Int32)))), .val (.long ((XT.ushr p1 (p2 &&& (31 : Int32))).toInt64 &&& (4294967295 : Int64))), .second, .val (.int (3 : Int32))] [(.int (XT.ushr p1 (p2 &&& (31 : Int32))))])) _
          refine st13 _ ?_
          show Steps p.tables e below (T13.setTop (mkF m 77 #[.val (.int p1), .val (.int p2), .val (.int (XT.ushr p1 (p2 &&& (31 : Int32)))), .val (.long ((XT.ushr p1 (p2 &&& (31 : Int32))).toInt64 &&& (4294967295 : Int64))), .second, .val (.int (3 : Int32))] [(.int (own_len (XT.ushr p1 (p2 &&& (31 : Int32)))))])) _
          refine XS.iload X13.here hx rfl (hb hby at_77) rfl ?_
          show Steps p.tables e below (T13.setTop (mkF m 79 #[.val (.int p1), .val (.int p2), .val (.int (XT.ushr p1 (p2 &&& (31 : Int32)))), .val (.long ((XT.ushr p1 (p2 &&& (31 : Int32))).toInt64 &&& (4294967295 : Int64))), .second, .val (.int (3 : Int32))] [(.int (3 : Int32)), (.int (own_len (XT.ushr p1 (p2 &&& (31 : Int32)))))])) _
          refine XS.icmpNo X13.here hx rfl (hb hby at_79) rfl (XT.ii_ne_f hc79_14) ?_
          show Steps p.tables e below (T13.setTop (mkF m 82 #[.val (.int p1), .val (.int p2), .val (.int (XT.ushr p1 (p2 &&& (31 : Int32)))), .val (.long ((XT.ushr p1 (p2 &&& (31 : Int32))).toInt64 &&& (4294967295 : Int64))), .second, .val (.int (3 : Int32))] [])) _
          refine XS.iconst X13.here hx rfl (hb hby at_82) ?_
          show Steps p.tables e below (T13.setTop (mkF m 83 #[.val (.int p1), .val (.int p2), .val (.int (XT.ushr p1 (p2 &&& (31 : Int32)))), .val (.long ((XT.ushr p1 (p2 &&& (31 : Int32))).toInt64 &&& (4294967295 : Int64))), .second, .val (.int (3 : Int32))] [(.int (1 : Int32))])) _
          refine XS.goto X13.here hx rfl (pc0 := 83) (pc' := 87) rfl (hb hby at_83) (by decide) (by decide) ?_
          exact kt)
        obtain ⟨fs, hr, hrun, hended, hW, hsame⟩ := X13.leave (v := some (.int (1 : Int32))) (fun h => by rw [Bd.returns] at h; cases h)
        refine ⟨_, _, P15 _ ?_, hrun, hended, _, _, rfl, ?_, ⟨_, rfl⟩, hW, hsame.mono (by decide) (by decide)⟩
        · exact retN X13 hx (t := .boolean) Bd.returns (by simp) (hb hby at_87) hr
        · show Q0 Z p1 p2 h0 n0 _ T13.heap _
          rw [e13]
          exact ⟨rfl, N13⟩
      · skip
        have P17 : ∀ t, Steps p.tables e below (s₁.setTop (mkF m 61 #[.val (.int p1), .val (.int p2), .val (.int (XT.ushr p1 (p2 &&& (31 : Int32)))), .val (.long ((XT.ushr p1 (p2 &&& (31 : Int32))).toInt64 &&& (4294967295 : Int64))), .second, .unset] [(.int (XT.cmpL ((XT.ushr p1 (p2 &&& (31 : Int32))).toInt64 &&& (4294967295 : Int64)) (268435456 : Int64)))])) t → Steps p.tables e below (s₁.setTop (entryFrame m #[(.int p1), (.int p2)] maxLocals)) t := fun t kt => P12 t (by
          show Steps p.tables e below (s₁.setTop (mkF m 47 #[.val (.int p1), .val (.int p2), .val (.int (XT.ushr p1 (p2 &&& (31 : Int32)))), .val (.long ((XT.ushr p1 (p2 &&& (31 : Int32))).toInt64 &&& (4294967295 : Int64))), .second, .unset] [(.int (XT.cmpL ((XT.ushr p1 (p2 &&& (31 : Int32))).toInt64 &&& (4294967295 : Int64)) (2097152 : Int64)))])) _
          refine XS.ifYes X0.here hx rfl (pc0 := 47) (pc' := 56) rfl (hb hby at_47) rfl (XT.ll_ge_t hc47_11) (by decide) (by decide) ?_
          show Steps p.tables e below (s₁.setTop (mkF m 56 #[.val (.int p1), .val (.int p2), .val (.int (XT.ushr p1 (p2 &&& (31 : Int32)))), .val (.long ((XT.ushr p1 (p2 &&& (31 : Int32))).toInt64 &&& (4294967295 : Int64))), .second, .unset] [])) _
          refine XT.lloadN X0.here hx rfl (hb hby at_56) rfl ?_
          show Steps p.tables e below (s₁.setTop (mkF m 57 #[.val (.int p1), .val (.int p2), .val (.int (XT.ushr p1 (p2 &&& (31 : Int32)))), .val (.long ((XT.ushr p1 (p2 &&& (31 : Int32))).toInt64 &&& (4294967295 : Int64))), .second, .unset] [(.long ((XT.ushr p1 (p2 &&& (31 : Int32))).toInt64 &&& (4294967295 : Int64)))])) _
          refine X0.ldc2J hx hown (mvT hZ (hw _ (List.mem_of_getElem? (i := 8) rfl))) rfl (hb hby at_57) ?_
          show Steps p.tables e below (s₁.setTop (mkF m 60 #[.val (.int p1), .val (.int p2), .val (.int (XT.ushr p1 (p2 &&& (31 : Int32)))), .val (.long ((XT.ushr p1 (p2 &&& (31 : Int32))).toInt64 &&& (4294967295 : Int64))), .second, .unset] [(.long (268435456 : Int64)), (.long ((XT.ushr p1 (p2 &&& (31 : Int32))).toInt64 &&& (4294967295 : Int64)))])) _
          refine XT.lcmp X0.here hx rfl (hb hby at_60) rfl ?_
          exact kt)
        by_cases hc61_16 : ((XT.ushr p1 (p2 &&& (31 : Int32))).toInt64 &&& (4294967295 : Int64)) < (268435456 : Int64)
        · skip
          obtain ⟨_, _, ⟨T18, L18, k18, n18⟩, -, X18, ⟨Lc18, hQ18, l18, y18, z18⟩, st18⟩ := Jvm.LawKit.callS X0 hx (y := (⟨"com/example/rootward/rootward/VarintOutput", "length", "(I)I"⟩ : MethodName)) hown (mvT hZ (hw _ (List.mem_of_getElem? (i := 2) rfl))) (mvT hZ (hw _ (List.mem_of_getElem? (i := 3) rfl))) (mvT hZ (hw _ (List.mem_of_getElem? (i := 4) rfl))) (mvT hZ (hw _ (List.mem_of_getElem? (i := 5) rfl))) (by decide) (backOf (W := 0) (rm1 l Z a0 hw [] (XT.ushr p1 (p2 &&& (31 : Int32))) h0 n0 Z0) hZ (hw _ (List.mem_of_getElem? (i := 5) rfl)) (hw _ (List.mem_of_getElem? (i := 4) rfl)) (by decide) (by decide)) (g := (mkF m 74 #[.val (.int p1), .val (.int p2), .val (.int (XT.ushr p1 (p2 &&& (31 : Int32)))), .val (.long ((XT.ushr p1 (p2 &&& (31 : Int32))).toInt64 &&& (4294967295 : Int64))), .second, .val (.int (4 : Int32))] [(.int (XT.ushr p1 (p2 &&& (31 : Int32))))])) rfl (by rw [hml]; rfl) (argsL := [(.int (XT.ushr p1 (p2 &&& (31 : Int32))))]) (rest := []) (lenOf pd_0 rfl) rfl (by show 2 * 0 + _ ≤ _; exact Nat.le_of_eq rfl) (hb hby at_74) (fun _ _ => ⟨rfl, e0, (by decide : 0 + 0 ≤ _), (by decide : 0 + 0 ≤ _)⟩)
          dsimp only [Pt.U, Pt.locs, Pt.cells, Pt.slots] at X18 l18 y18 z18 st18 hQ18
          subst l18 y18 z18
          obtain ⟨rfl, N18q, e18⟩ := hQ18
          have N18 := Fr.app N0 N18q
          have hc79_19 : (own_len (XT.ushr p1 (p2 &&& (31 : Int32)))) = (4 : Int32) := by rw [own_len_eq]; rw [if_neg (fun q => hc19_1 ((own_lt _ 128 (by decide)).mpr q))]; rw [if_neg (fun q => hc33_6 ((own_lt _ 16384 (by decide)).mpr q))]; rw [if_neg (fun q => hc47_11 ((own_lt _ 2097152 (by decide)).mpr q))]; rw [if_pos ((own_lt _ 268435456 (by decide)).mp hc61_16)]
          have P20 : ∀ t, Steps p.tables e below (T18.setTop (mkF m 87 #[.val (.int p1), .val (.int p2), .val (.int (XT.ushr p1 (p2 &&& (31 : Int32)))), .val (.long ((XT.ushr p1 (p2 &&& (31 : Int32))).toInt64 &&& (4294967295 : Int64))), .second, .val (.int (4 : Int32))] [(.int (1 : Int32))])) t → Steps p.tables e below (s₁.setTop (entryFrame m #[(.int p1), (.int p2)] maxLocals)) t := fun t kt => P17 t (by
            show Steps p.tables e below (s₁.setTop (mkF m 61 #[.val (.int p1), .val (.int p2), .val (.int (XT.ushr p1 (p2 &&& (31 : Int32)))), .val (.long ((XT.ushr p1 (p2 &&& (31 : Int32))).toInt64 &&& (4294967295 : Int64))), .second, .unset] [(.int (XT.cmpL ((XT.ushr p1 (p2 &&& (31 : Int32))).toInt64 &&& (4294967295 : Int64)) (268435456 : Int64)))])) _
            refine XS.ifNo X0.here hx rfl (hb hby at_61) rfl (XT.ll_ge_f hc61_16) ?_
            show Steps p.tables e below (s₁.setTop (mkF m 64 #[.val (.int p1), .val (.int p2), .val (.int (XT.ushr p1 (p2 &&& (31 : Int32)))), .val (.long ((XT.ushr p1 (p2 &&& (31 : Int32))).toInt64 &&& (4294967295 : Int64))), .second, .unset] [])) _
            refine XS.iconst X0.here hx rfl (hb hby at_64) ?_
            show Steps p.tables e below (s₁.setTop (mkF m 65 #[.val (.int p1), .val (.int p2), .val (.int (XT.ushr p1 (p2 &&& (31 : Int32)))), .val (.long ((XT.ushr p1 (p2 &&& (31 : Int32))).toInt64 &&& (4294967295 : Int64))), .second, .unset] [(.int (4 : Int32))])) _
            refine XS.istore X0.here hx rfl (hb hby at_65) rfl (l' := #[.val (.int p1), .val (.int p2), .val (.int (XT.ushr p1 (p2 &&& (31 : Int32)))), .val (.long ((XT.ushr p1 (p2 &&& (31 : Int32))).toInt64 &&& (4294967295 : Int64))), .second, .val (.int (4 : Int32))]) rfl ?_
            show Steps p.tables e below (s₁.setTop (mkF m 67 #[.val (.int p1), .val (.int p2), .val (.int (XT.ushr p1 (p2 &&& (31 : Int32)))), .val (.long ((XT.ushr p1 (p2 &&& (31 : Int32))).toInt64 &&& (4294967295 : Int64))), .second, .val (.int (4 : Int32))] [])) _
            refine XS.goto X0.here hx rfl (pc0 := 67) (pc' := 73) rfl (hb hby at_67) (by decide) (by decide) ?_
            show Steps p.tables e below (s₁.setTop (mkF m 73 #[.val (.int p1), .val (.int p2), .val (.int (XT.ushr p1 (p2 &&& (31 : Int32)))), .val (.long ((XT.ushr p1 (p2 &&& (31 : Int32))).toInt64 &&& (4294967295 : Int64))), .second, .val (.int (4 : Int32))] [])) _
            refine XS.iloadN X0.here hx rfl (hb hby at_73) rfl ?_
            show Steps p.tables e below (s₁.setTop (mkF m 74 #[.val (.int p1), .val (.int p2), .val (.int (XT.ushr p1 (p2 &&& (31 : Int32)))), .val (.long ((XT.ushr p1 (p2 &&& (31 : Int32))).toInt64 &&& (4294967295 : Int64))), .second, .val (.int (4 : Int32))] [(.int (XT.ushr p1 (p2 &&& (31 : Int32))))])) _
            refine st18 _ ?_
            show Steps p.tables e below (T18.setTop (mkF m 77 #[.val (.int p1), .val (.int p2), .val (.int (XT.ushr p1 (p2 &&& (31 : Int32)))), .val (.long ((XT.ushr p1 (p2 &&& (31 : Int32))).toInt64 &&& (4294967295 : Int64))), .second, .val (.int (4 : Int32))] [(.int (own_len (XT.ushr p1 (p2 &&& (31 : Int32)))))])) _
            refine XS.iload X18.here hx rfl (hb hby at_77) rfl ?_
            show Steps p.tables e below (T18.setTop (mkF m 79 #[.val (.int p1), .val (.int p2), .val (.int (XT.ushr p1 (p2 &&& (31 : Int32)))), .val (.long ((XT.ushr p1 (p2 &&& (31 : Int32))).toInt64 &&& (4294967295 : Int64))), .second, .val (.int (4 : Int32))] [(.int (4 : Int32)), (.int (own_len (XT.ushr p1 (p2 &&& (31 : Int32)))))])) _
            refine XS.icmpNo X18.here hx rfl (hb hby at_79) rfl (XT.ii_ne_f hc79_19) ?_
            show Steps p.tables e below (T18.setTop (mkF m 82 #[.val (.int p1), .val (.int p2), .val (.int (XT.ushr p1 (p2 &&& (31 : Int32)))), .val (.long ((XT.ushr p1 (p2 &&& (31 : Int32))).toInt64 &&& (4294967295 : Int64))), .second, .val (.int (4 : Int32))] [])) _
            refine XS.iconst X18.here hx rfl (hb hby at_82) ?_
            show Steps p.tables e below (T18.setTop (mkF m 83 #[.val (.int p1), .val (.int p2), .val (.int (XT.ushr p1 (p2 &&& (31 : Int32)))), .val (.long ((XT.ushr p1 (p2 &&& (31 : Int32))).toInt64 &&& (4294967295 : Int64))), .second, .val (.int (4 : Int32))] [(.int (1 : Int32))])) _
            refine XS.goto X18.here hx rfl (pc0 := 83) (pc' := 87) rfl (hb hby at_83) (by decide) (by decide) ?_
            exact kt)
          obtain ⟨fs, hr, hrun, hended, hW, hsame⟩ := X18.leave (v := some (.int (1 : Int32))) (fun h => by rw [Bd.returns] at h; cases h)
          refine ⟨_, _, P20 _ ?_, hrun, hended, _, _, rfl, ?_, ⟨_, rfl⟩, hW, hsame.mono (by decide) (by decide)⟩
          · exact retN X18 hx (t := .boolean) Bd.returns (by simp) (hb hby at_87) hr
          · show Q0 Z p1 p2 h0 n0 _ T18.heap _
            rw [e18]
            exact ⟨rfl, N18⟩
        · skip
          obtain ⟨_, _, ⟨T21, L21, k21, n21⟩, -, X21, ⟨Lc21, hQ21, l21, y21, z21⟩, st21⟩ := Jvm.LawKit.callS X0 hx (y := (⟨"com/example/rootward/rootward/VarintOutput", "length", "(I)I"⟩ : MethodName)) hown (mvT hZ (hw _ (List.mem_of_getElem? (i := 2) rfl))) (mvT hZ (hw _ (List.mem_of_getElem? (i := 3) rfl))) (mvT hZ (hw _ (List.mem_of_getElem? (i := 4) rfl))) (mvT hZ (hw _ (List.mem_of_getElem? (i := 5) rfl))) (by decide) (backOf (W := 0) (rm1 l Z a0 hw [] (XT.ushr p1 (p2 &&& (31 : Int32))) h0 n0 Z0) hZ (hw _ (List.mem_of_getElem? (i := 5) rfl)) (hw _ (List.mem_of_getElem? (i := 4) rfl)) (by decide) (by decide)) (g := (mkF m 74 #[.val (.int p1), .val (.int p2), .val (.int (XT.ushr p1 (p2 &&& (31 : Int32)))), .val (.long ((XT.ushr p1 (p2 &&& (31 : Int32))).toInt64 &&& (4294967295 : Int64))), .second, .val (.int (5 : Int32))] [(.int (XT.ushr p1 (p2 &&& (31 : Int32))))])) rfl (by rw [hml]; rfl) (argsL := [(.int (XT.ushr p1 (p2 &&& (31 : Int32))))]) (rest := []) (lenOf pd_0 rfl) rfl (by show 2 * 0 + _ ≤ _; exact Nat.le_of_eq rfl) (hb hby at_74) (fun _ _ => ⟨rfl, e0, (by decide : 0 + 0 ≤ _), (by decide : 0 + 0 ≤ _)⟩)
          dsimp only [Pt.U, Pt.locs, Pt.cells, Pt.slots] at X21 l21 y21 z21 st21 hQ21
          subst l21 y21 z21
          obtain ⟨rfl, N21q, e21⟩ := hQ21
          have N21 := Fr.app N0 N21q
          have hc79_22 : (own_len (XT.ushr p1 (p2 &&& (31 : Int32)))) = (5 : Int32) := by rw [own_len_eq]; rw [if_neg (fun q => hc19_1 ((own_lt _ 128 (by decide)).mpr q))]; rw [if_neg (fun q => hc33_6 ((own_lt _ 16384 (by decide)).mpr q))]; rw [if_neg (fun q => hc47_11 ((own_lt _ 2097152 (by decide)).mpr q))]; rw [if_neg (fun q => hc61_16 ((own_lt _ 268435456 (by decide)).mpr q))]
          have P23 : ∀ t, Steps p.tables e below (T21.setTop (mkF m 87 #[.val (.int p1), .val (.int p2), .val (.int (XT.ushr p1 (p2 &&& (31 : Int32)))), .val (.long ((XT.ushr p1 (p2 &&& (31 : Int32))).toInt64 &&& (4294967295 : Int64))), .second, .val (.int (5 : Int32))] [(.int (1 : Int32))])) t → Steps p.tables e below (s₁.setTop (entryFrame m #[(.int p1), (.int p2)] maxLocals)) t := fun t kt => P17 t (by
            show Steps p.tables e below (s₁.setTop (mkF m 61 #[.val (.int p1), .val (.int p2), .val (.int (XT.ushr p1 (p2 &&& (31 : Int32)))), .val (.long ((XT.ushr p1 (p2 &&& (31 : Int32))).toInt64 &&& (4294967295 : Int64))), .second, .unset] [(.int (XT.cmpL ((XT.ushr p1 (p2 &&& (31 : Int32))).toInt64 &&& (4294967295 : Int64)) (268435456 : Int64)))])) _
            refine XS.ifYes X0.here hx rfl (pc0 := 61) (pc' := 70) rfl (hb hby at_61) rfl (XT.ll_ge_t hc61_16) (by decide) (by decide) ?_
            show Steps p.tables e below (s₁.setTop (mkF m 70 #[.val (.int p1), .val (.int p2), .val (.int (XT.ushr p1 (p2 &&& (31 : Int32)))), .val (.long ((XT.ushr p1 (p2 &&& (31 : Int32))).toInt64 &&& (4294967295 : Int64))), .second, .unset] [])) _
            refine XS.iconst X0.here hx rfl (hb hby at_70) ?_
            show Steps p.tables e below (s₁.setTop (mkF m 71 #[.val (.int p1), .val (.int p2), .val (.int (XT.ushr p1 (p2 &&& (31 : Int32)))), .val (.long ((XT.ushr p1 (p2 &&& (31 : Int32))).toInt64 &&& (4294967295 : Int64))), .second, .unset] [(.int (5 : Int32))])) _
            refine XS.istore X0.here hx rfl (hb hby at_71) rfl (l' := #[.val (.int p1), .val (.int p2), .val (.int (XT.ushr p1 (p2 &&& (31 : Int32)))), .val (.long ((XT.ushr p1 (p2 &&& (31 : Int32))).toInt64 &&& (4294967295 : Int64))), .second, .val (.int (5 : Int32))]) rfl ?_
            show Steps p.tables e below (s₁.setTop (mkF m 73 #[.val (.int p1), .val (.int p2), .val (.int (XT.ushr p1 (p2 &&& (31 : Int32)))), .val (.long ((XT.ushr p1 (p2 &&& (31 : Int32))).toInt64 &&& (4294967295 : Int64))), .second, .val (.int (5 : Int32))] [])) _
            refine XS.iloadN X0.here hx rfl (hb hby at_73) rfl ?_
            show Steps p.tables e below (s₁.setTop (mkF m 74 #[.val (.int p1), .val (.int p2), .val (.int (XT.ushr p1 (p2 &&& (31 : Int32)))), .val (.long ((XT.ushr p1 (p2 &&& (31 : Int32))).toInt64 &&& (4294967295 : Int64))), .second, .val (.int (5 : Int32))] [(.int (XT.ushr p1 (p2 &&& (31 : Int32))))])) _
            refine st21 _ ?_
            show Steps p.tables e below (T21.setTop (mkF m 77 #[.val (.int p1), .val (.int p2), .val (.int (XT.ushr p1 (p2 &&& (31 : Int32)))), .val (.long ((XT.ushr p1 (p2 &&& (31 : Int32))).toInt64 &&& (4294967295 : Int64))), .second, .val (.int (5 : Int32))] [(.int (own_len (XT.ushr p1 (p2 &&& (31 : Int32)))))])) _
            refine XS.iload X21.here hx rfl (hb hby at_77) rfl ?_
            show Steps p.tables e below (T21.setTop (mkF m 79 #[.val (.int p1), .val (.int p2), .val (.int (XT.ushr p1 (p2 &&& (31 : Int32)))), .val (.long ((XT.ushr p1 (p2 &&& (31 : Int32))).toInt64 &&& (4294967295 : Int64))), .second, .val (.int (5 : Int32))] [(.int (5 : Int32)), (.int (own_len (XT.ushr p1 (p2 &&& (31 : Int32)))))])) _
            refine XS.icmpNo X21.here hx rfl (hb hby at_79) rfl (XT.ii_ne_f hc79_22) ?_
            show Steps p.tables e below (T21.setTop (mkF m 82 #[.val (.int p1), .val (.int p2), .val (.int (XT.ushr p1 (p2 &&& (31 : Int32)))), .val (.long ((XT.ushr p1 (p2 &&& (31 : Int32))).toInt64 &&& (4294967295 : Int64))), .second, .val (.int (5 : Int32))] [])) _
            refine XS.iconst X21.here hx rfl (hb hby at_82) ?_
            show Steps p.tables e below (T21.setTop (mkF m 83 #[.val (.int p1), .val (.int p2), .val (.int (XT.ushr p1 (p2 &&& (31 : Int32)))), .val (.long ((XT.ushr p1 (p2 &&& (31 : Int32))).toInt64 &&& (4294967295 : Int64))), .second, .val (.int (5 : Int32))] [(.int (1 : Int32))])) _
            refine XS.goto X21.here hx rfl (pc0 := 83) (pc' := 87) rfl (hb hby at_83) (by decide) (by decide) ?_
            exact kt)
          obtain ⟨fs, hr, hrun, hended, hW, hsame⟩ := X21.leave (v := some (.int (1 : Int32))) (fun h => by rw [Bd.returns] at h; cases h)
          refine ⟨_, _, P23 _ ?_, hrun, hended, _, _, rfl, ?_, ⟨_, rfl⟩, hW, hsame.mono (by decide) (by decide)⟩
          · exact retN X21 hx (t := .boolean) Bd.returns (by simp) (hb hby at_87) hr
          · show Q0 Z p1 p2 h0 n0 _ T21.heap _
            rw [e21]
            exact ⟨rfl, N21⟩
set_option maxRecDepth 65536 in
set_option maxHeartbeats 40000000 in
theorem comes_1 {Post : Tables → Env → Array Value → State → Outcome → State → Prop} (hpost : ∀ tb e args s v u, (limb_1_1.after args s (.returned v) u = true ∧ limb_1_2.after args s (.returned v) u = true ∧ True) → FrameEnd s (.returned v) u (Jvm.fieldLocs frame_1_writes args s ++ Jvm.arrayLocs frame_1_arrays args s ++ Jvm.staticLocs frame_1_statics s) 0 0 → Post tb e args s (.returned v) u) :
    ArmFor flags0 classFile x code maxLocals ret World_1 tables_1 room_1 Calls_1 rest_1 Pre_1 Post := by
  intro l hfl _ _ p e ha hc hk s m args below hf hA hF happ hP
  obtain ⟨hcalls, hrest, hpre⟩ := hP
  obtain ⟨-, -, -, hnamed, -, -, -, hat⟩ := (Spec.applies_iff hf).mp happ
  obtain ⟨hg, hn⟩ := and_e (Cond.before_iff.mp (show (Jvm.Cond.and given_1 narrow_1).before args s = true from hpre))
  obtain ⟨g1, g2⟩ := and_e hg
  obtain ⟨g3, g4⟩ := and_e g2
  obtain ⟨w0, w1, rfl⟩ : ∃ w0 w1 : Value, args = #[w0, w1] := by
    have hs : args.size = 2 := by simpa [Cond.value, given_1] using g1
    obtain ⟨L⟩ := args
    match L, hs with
    | [w0, w1], _ => exact ⟨w0, w1, rfl⟩
  have hw := fun d (hd : d ∈ tables_1) => atoms_spec (ws := Jvm.Cond.code x code maxLocals ret :: tables_1) hat d (List.mem_cons_of_mem _ hd)
  obtain ⟨i0, ei0⟩ := is_v g3
  obtain rfl : w0 = (.int i0) := Option.some.inj ei0
  obtain ⟨i1, ei1⟩ := is_v g4
  obtain rfl : w1 = (.int i1) := Option.some.inj ei1
  obtain ⟨n, o, h1, h2, h3, _, L, rfl, ⟨rfl, N⟩, hq⟩ := rm0 l s _ hw tables_1 i0 i1 s.heap s.heap.size (Nat.le_refl _) p e ha hc hk s m _ below hf ((Spec.applies_iff_loose hf).mp happ).1 ⟨rfl, State.Warmed39.refl s, rfl⟩ trivial
  refine ⟨n, _, h1, h2, h3, hpost _ _ _ _ _ _ ⟨Cond.after_iff.mpr rfl, Cond.after_iff.mpr (eq_i res_at (Term.int_eval (1)) rfl), trivial⟩ ⟨hq.1, hq.2.1, (hq.2.2.sift fun y hy => Or.inr (N y hy)).mono (by decide) (by decide)⟩⟩
theorem main_1_1 : Claimed_1_1 := comes_1 fun _ _ _ _ _ _ h hF => ⟨h.1, hF⟩
theorem main_1_2 : Claimed_1_2 := comes_1 fun _ _ _ _ _ _ h hF => ⟨h.2.1, hF⟩
end Jvm.Pilot.@@N@@
namespace Jvm.Pilot.@@N@@
open Jvm Jvm.ClassFile Sem Op Lib Jvm.Free Jvm.Stand Jvm.Pilot.@@N@@.Jvm.D
/-! MADE BY PROGRAM (witnessworld.py) out of the Statement's table words and the real class files: 9 classes; the members and pool entries that the words name. The judged class is class 1, her method 1. -/
namespace start1
open Jvm.ClassFile
def u (s : String) : CpInfo := .utf8 (stringToUtf16 s)
/-- a pool by its gaps: so many unusable entries, then the entry; so many at the end -/
def gap : Nat → List CpInfo → List CpInfo
  | 0, r => r
  | n + 1, r => .unusable :: gap n r
def poolList (es : List (Nat × CpInfo)) (last : Nat) : List CpInfo := es.foldr (fun e r => gap e.1 (e.2 :: r)) (gap last [])
def pool (es : List (Nat × CpInfo)) (last : Nat) : Array CpInfo := ⟨poolList es last⟩
def fileOf (pool : Array CpInfo) (this : Nat) (attrs : Array Attribute := #[]) (ms : Array MethodInfo := #[]) (fl : Nat := 33) (sup : Nat := 0) (ifs : Array Nat := #[]) (fds : Array FieldInfo := #[]) : ClassFile where
  minorVersion := 0
  majorVersion := 65
  constantPool := pool
  accessFlags := fl
  thisClass := this
  superClass := sup
  interfaces := ifs
  fields := fds
  methods := ms
  attributes := attrs
def plain (name : String) (sup : Option ClassId) : Class where
  name := name
  kind := .ordinary
  loader := none
  accessFlags := 33
  super := sup
  interfaces := #[]
  cf := none
  fields := #[]
  methods := #[]
  instanceTypes := #[]
  staticTypes := #[]
  resolved := #[]
  callSites := []
  init := .initialized
  statics := none
  mirror := none

def pool0 : Array CpInfo := pool [(5, u "<init>"), (0, u "()V"), (1, .class_ 10), (1, u "java/lang/Object")] 113

def k0m0 : Method := { name := "<init>", desc := "()V", sig := { parameters := [], returnType := none }, accessFlags := 1, code := none }
/-- java/lang/Object -/
def k0 : Class := { plain "java/lang/Object" none with
  accessFlags := 33
  interfaces := #[]
  cf := some (fileOf pool0 8 #[] #[{ accessFlags := 1, nameIndex := 5, descriptorIndex := 6, attributes := #[] }] 33 0 #[] #[])
  fields := #[]
  methods := #[k0m0]
  instanceTypes := #[]
  staticTypes := #[]
  resolved := Array.replicate 124 none
  statics := none }

def pool1 : Array CpInfo := pool [(2, .class_ 4), (1, u "java/lang/Object"), (0, u "<init>"), (0, u "()V"), (0, .long 4294967295), (1, .long 128), (1, .long 16384), (1, .long 2097152), (1, .long 268435456), (1, .methodref 18 19), (0, .class_ 20), (0, .nameAndType 21 22), (0, u "com/example/rootward/rootward/VarintOutput"), (0, u "length"), (0, u "(I)I"), (0, .class_ 24), (0, u "com/example/rootward/rootward/VarintOutputLengthPinLaw"), (2, u "law"), (0, u "(II)Z")] 3

def k1m0 : Method := { name := "<init>", desc := "()V", sig := { parameters := [], returnType := none }, accessFlags := 1, code := none }
def k1c1 : Code := { maxStack := 4, maxLocals := 6, code := code, exceptionTable := #[], attributes := #[] }
def k1m1 : Method := { name := "law", desc := "(II)Z", sig := { parameters := [.int, .int], returnType := some .boolean }, accessFlags := 9, code := some k1c1 }
/-- com/example/rootward/rootward/VarintOutputLengthPinLaw -/
def k1 : Class := { plain "com/example/rootward/rootward/VarintOutputLengthPinLaw" (some 0) with
  accessFlags := 49
  interfaces := #[]
  cf := some (fileOf pool1 23 #[] #[{ accessFlags := 1, nameIndex := 5, descriptorIndex := 6, attributes := #[] }, { accessFlags := 9, nameIndex := 27, descriptorIndex := 28, attributes := #[] }] 49 2 #[] #[])
  fields := #[]
  methods := #[k1m0, k1m1]
  instanceTypes := #[]
  staticTypes := #[]
  resolved := Array.replicate 32 none
  statics := none }

def pool2 : Array CpInfo := pool [(2, .class_ 4), (1, u "java/lang/Object"), (2, .class_ 8), (0, u "com/example/rootward/rootward/VarintOutput"), (9, u "buffer"), (0, u "Ljava/nio/ByteBuffer;"), (5, u "crc"), (0, u "Ljava/util/zip/CRC32C;"), (2, u "channel"), (0, u "Ljava/nio/channels/FileChannel;"), (2, u "position"), (0, u "J"), (74, u "BUFFER_SIZE"), (0, u "I"), (8, u "length"), (0, u "(I)I")] 7

def k2c0 : Code := { maxStack := 2, maxLocals := 3, code := prog_69_method_3_code, exceptionTable := #[], attributes := #[] }
def k2m0 : Method := { name := "length", desc := "(I)I", sig := { parameters := [.int], returnType := some .int }, accessFlags := 8, code := some k2c0 }
/-- com/example/rootward/rootward/VarintOutput -/
def k2 : Class := { plain "com/example/rootward/rootward/VarintOutput" (some 0) with
  accessFlags := 48
  interfaces := #[]
  cf := some (fileOf pool2 7 #[] #[{ accessFlags := 8, nameIndex := 119, descriptorIndex := 120, attributes := #[] }] 48 2 #[] #[{ accessFlags := 26, nameIndex := 109, descriptorIndex := 110, attributes := #[] }, { accessFlags := 18, nameIndex := 29, descriptorIndex := 30, attributes := #[] }, { accessFlags := 18, nameIndex := 18, descriptorIndex := 19, attributes := #[] }, { accessFlags := 18, nameIndex := 25, descriptorIndex := 26, attributes := #[] }, { accessFlags := 2, nameIndex := 33, descriptorIndex := 34, attributes := #[] }])
  fields := #[{ name := "BUFFER_SIZE", type := .int, accessFlags := 26, slot := 0, constantValue := 0 }, { name := "channel", type := (.object "java/nio/channels/FileChannel"), accessFlags := 18, slot := 0, constantValue := 0 }, { name := "buffer", type := (.object "java/nio/ByteBuffer"), accessFlags := 18, slot := 1, constantValue := 0 }, { name := "crc", type := (.object "java/util/zip/CRC32C"), accessFlags := 18, slot := 2, constantValue := 0 }, { name := "position", type := .long, accessFlags := 2, slot := 3, constantValue := 0 }]
  methods := #[k2m0]
  instanceTypes := #[(.object "java/nio/channels/FileChannel"), (.object "java/nio/ByteBuffer"), (.object "java/util/zip/CRC32C"), .long]
  staticTypes := #[.int]
  resolved := Array.replicate 128 none
  statics := none }

def pool3 : Array CpInfo := pool [(1, u "java/lang/Cloneable"), (0, .class_ 1), (0, u "java/lang/Object"), (0, .class_ 3)] 3

/-- java/lang/Cloneable -/
def k3 : Class := { plain "java/lang/Cloneable" (some 0) with
  accessFlags := 1537
  interfaces := #[]
  cf := some (fileOf pool3 2 #[] #[] 1537 4 #[] #[])
  fields := #[]
  methods := #[]
  instanceTypes := #[]
  staticTypes := #[]
  resolved := Array.replicate 8 none
  statics := none }

def pool4 : Array CpInfo := pool [(1, u "java/io/Serializable"), (0, .class_ 1), (0, u "java/lang/Object"), (0, .class_ 3)] 3

/-- java/io/Serializable -/
def k4 : Class := { plain "java/io/Serializable" (some 0) with
  accessFlags := 1537
  interfaces := #[]
  cf := some (fileOf pool4 2 #[] #[] 1537 4 #[] #[])
  fields := #[]
  methods := #[]
  instanceTypes := #[]
  staticTypes := #[]
  resolved := Array.replicate 8 none
  statics := none }

/-- the primitive byte -/
def k5 : Class := { plain "byte" none with kind := .primitive 'B', accessFlags := 0x411 }
/-- [B -/
def k6 : Class := { plain "[B" (some 0) with kind := .array 5 .byte, interfaces := #[3, 4], accessFlags := 1041 }

/-- the primitive int -/
def k7 : Class := { plain "int" none with kind := .primitive 'I', accessFlags := 0x411 }
/-- [I -/
def k8 : Class := { plain "[I" (some 0) with kind := .array 7 .int, interfaces := #[3, 4], accessFlags := 1041 }

def heap : Heap := #[]
def classes : Array Class := #[k0, k1, k2, k3, k4, k5, k6, k7, k8]
def interned : List (Array UInt16 × Addr) := []
def slotsUsed : Nat := 0
def theMethod : MethodId := ⟨1, 1⟩
def args0 : Array Value := #[.int 5, .int 7]
def aboutOver (below : List Frame) : State where
  vm := { classes := classes, interned := interned.toArray }
  heap := heap
  slotsUsed := slotsUsed
  threads := #[{ frames := .invoking theMethod args0 :: below }]
def below0 : List Frame := [.native { method := ⟨0, 0⟩, args := #[] }]
def about1 : State := aboutOver below0
def p0 : Program := .bare "" "" ""
def e0 : Env := launch0.env 0 0 0
theorem w_frames : about1.frames = Frame.invoking theMethod args0 :: below0 := rfl
set_option maxRecDepth 65536 in
theorem w_args : argsFit about1.vm theMethod args0 = true := by decide +kernel
set_option maxRecDepth 65536 in
theorem w_heap : heapFits about1 = true := by decide +kernel
set_option maxRecDepth 65536 in
theorem w_runnable : about1.curStatus? = some .runnable := by decide +kernel
set_option maxRecDepth 65536 in
theorem w_alone : about1.alone = true := by decide +kernel
set_option maxRecDepth 65536 in
theorem w_named : about1.methodNamed? x = some theMethod := by decide +kernel
set_option maxRecDepth 65536 in
theorem w_hears : about1.hears theMethod below0 = true := by decide +kernel
set_option maxRecDepth 65536 in
theorem w_ripe : about1.ripe theMethod args0 below0 = true := by decide +kernel
theorem w_running : about1.status = .running := rfl
set_option maxRecDepth 65536 in
theorem w_room : about1.hasRoom e0.platform room_1 = true :=
  launch0.hasRoom_least _ room_1 (by decide +kernel) (by decide +kernel) (by decide +kernel) (by decide +kernel) (by decide +kernel) (by decide +kernel)
theorem allAtoms_all (ts : List Jvm.Cond) (a : Array Jvm.Value) (st : Jvm.State) : (allAtoms ts).before a st = ts.all (fun c => c.before a st) := by
  induction ts with
  | nil => rfl
  | cons c t ih =>
    show (Jvm.Cond.and c (allAtoms t)).before a st = _
    rw [Jvm.Cond.before_and, ih, List.all_cons]
def words1 : List Jvm.Cond := Jvm.Cond.code x code maxLocals ret :: tables_1
/-- a 'code' word, met by the world's own term for the bytes: nothing is compared byte by byte -/
theorem code_word {y : MethodName} {bytes : ByteArray} {mx : Nat} {rt : Option FieldType} {a : Array Value} {s : State} {m : MethodId} {meth : Method} {c : Code} (h1 : s.methodNamed? y = some m) (h2 : s.vm.method? m = some meth) (h3 : meth.code = some c) (h4 : c.code = bytes)
    (h5 : (c.maxLocals == mx && c.exceptionTable.isEmpty && decide (c.maxStack ≤ mostOperands) && decide (meth.sig.returnType = rt) && !meth.locks && decide (parseMethodDescriptor y.desc = some meth.sig)) = true) : (Jvm.Cond.code y bytes mx rt).before a s = true := by
  simp only [Bool.and_eq_true, beq_iff_eq, Bool.not_eq_true', decide_eq_true_eq] at h5
  obtain ⟨⟨⟨⟨⟨g1, g2⟩, g3⟩, g4⟩, g5⟩, g6⟩ := h5
  simp [Cond.before, Cond.holds, Cond.value, h1, h2, h3, h4, g1, g2, g3, g4, g5, g6]
def isCode : Jvm.Cond → Bool
  | .code _ _ _ _ => true
  | _ => false
theorem all_split {L : List Jvm.Cond} {P : Jvm.Cond → Bool} (h1 : L.all (fun c => isCode c || P c) = true) (h2 : ∀ c ∈ L.filter isCode, P c = true) : L.all P = true := by
  refine List.all_eq_true.mpr fun c hc => ?_
  have h := List.all_eq_true.mp h1 c hc
  rcases Bool.eq_false_or_eq_true (isCode c) with hi | hi
  · exact h2 c (List.mem_filter.mpr ⟨hc, hi⟩)
  · simpa [hi] using h
set_option maxRecDepth 65536 in
theorem w_c0 : (Jvm.Cond.code x code maxLocals ret).before args0 about1 = true := code_word (m := ⟨1, 1⟩) (meth := k1m1) (c := k1c1) (by decide +kernel) rfl rfl rfl (by decide +kernel)
set_option maxRecDepth 65536 in
theorem w_c1 : (Jvm.Cond.code ({ cls := "com/example/rootward/rootward/VarintOutput", name := "length", desc := "(I)I" } : Jvm.MethodName) prog_69_method_3_code (3 : Nat) (Option.some Jvm.ClassFile.FieldType.int)).before args0 about1 = true := code_word (m := ⟨2, 0⟩) (meth := k2m0) (c := k2c0) (by decide +kernel) rfl rfl rfl (by decide +kernel)
def codes1 : List Jvm.Cond := [Jvm.Cond.code x code maxLocals ret, Jvm.Cond.code ({ cls := "com/example/rootward/rootward/VarintOutput", name := "length", desc := "(I)I" } : Jvm.MethodName) prog_69_method_3_code (3 : Nat) (Option.some Jvm.ClassFile.FieldType.int)]
set_option maxRecDepth 65536 in
theorem codes_eq : words1.filter isCode = codes1 := rfl
theorem w_codes : ∀ c ∈ words1.filter isCode, c.before args0 about1 = true := by
  rw [codes_eq]
  intro c hc
  simp only [codes1, List.mem_cons, List.not_mem_nil, or_false] at hc
  rcases hc with rfl | rfl
  · exact w_c0
  · exact w_c1
set_option maxRecDepth 65536 in
theorem w_t1 : words1.all (fun c => isCode c || c.before args0 about1) = true := by decide +kernel
theorem w_tables : (allAtoms (Jvm.Cond.code x code maxLocals ret :: tables_1)).before args0 about1 = true := by
  rw [allAtoms_all]
  show words1.all (fun c => c.before args0 about1) = true
  refine all_split ?_ w_codes
  rw [w_t1]
set_option maxRecDepth 65536 in
theorem w_case : (Jvm.Cond.and given_1 narrow_1).before args0 about1 = true := by decide +kernel
theorem w_applies : (headSpec (Jvm.Cond.code x code maxLocals ret :: tables_1) room_1).applies x e0.platform about1 = true :=
  (Spec.applies_iff w_frames).mpr ⟨w_running, w_runnable, w_alone, w_named, w_hears, w_ripe, w_room, w_tables⟩
theorem atStart : AtStart classFile x code maxLocals ret World_1 tables_1 room_1 Calls_1 rest_1 Pre_1 launch0 p0 e0 about1 theMethod args0 below0 :=
  ⟨lists_1, trivial, launch0.admits_env _ _ _, launch0.least_env, fairChoices_fair.cas, fairChoices_fair.clock, w_frames, w_args, w_heap, w_applies, trivial, trivial, w_case⟩
end start1
theorem witness_1 : WitnessClaimed_1 := ⟨start1.p0, start1.e0, start1.about1, start1.theMethod, start1.args0, start1.below0, start1.atStart⟩
end Jvm.Pilot.@@N@@
