import JvmDerived
import JvmDerived.Pilot.@@N@@Statement
import JvmDerived.Pilot.@@N@@Code
set_option linter.unusedVariables false
set_option linter.unusedSimpArgs false

namespace Jvm.RoadKit
open Sem ClassFile Op Lib Jvm.Stand Jvm.Free Jvm.LawKit
section New
variable {p : Program} {l : Launch} {e : Env} {R : Room} {s : State} {m : MethodId} {args : Array Value} {below : List Frame} {meth : Method} {c : Code} {T : State} {locs : List Loc} {cells slots : Nat}
theorem retI (X : Stand p l e R s m args below meth c T locs cells slots) (hx : p.tables.exec = Jvm.exec) {pc : Nat} {Ls : Array Slot} {z : Int32} {rest : List Value} (hret : meth.sig.returnType = some .int) (hd : decode c.code pc = .ok (.ireturn, 1)) {fs : List Frame}
    (hl : ∀ (f : JFrame) (acts : List Action), f.method = m → f.locked = none → f.entered = [] → (doReturn e (T.setTop f) acts (some (.int z))).1 = T.setFrames fs) : Steps p.tables e below (T.setTop (mkF m pc Ls (.int z :: rest))) (T.setFrames fs) := by
  have hm' : T.vm.method? m = some meth := X.method'
  have hn : narrow .int (.int z) = .int z := rfl
  show Steps p.tables e below (T.setTop { method := m, pc := pc, locals := Ls, stack := _ :: rest, locked := none }) _
  jvm_step X.here [X.here.top, hx, hd, hm', hret, hn]
  first | (intro acts; rw [hl _ acts rfl rfl rfl]) | rw [hl _ _ rfl rfl rfl]
  exact Steps.refl _
end New
end Jvm.RoadKit
namespace Jvm.Pilot.@@N@@
open Jvm Jvm.ClassFile Sem Op Lib Jvm.Free Jvm.Stand Jvm.LawKit Jvm.RoadKit Bundle Jvm.Pilot.@@N@@.Jvm.D
def own_tok (x : Int32) : Int32 := if (¬ x < (97 : Int32) ∧ ¬ (122 : Int32) < x) ∨ (¬ x < (65 : Int32) ∧ ¬ (90 : Int32) < x) ∨ (¬ x < (48 : Int32) ∧ ¬ (57 : Int32) < x) then 1 else 0
def own_refc (x : Int32) : Int32 := if (¬ ((x ||| (32 : Int32)) - (97 : Int32)) < (0 : Int32) ∧ ((x ||| (32 : Int32)) - (97 : Int32)) < (26 : Int32)) ∨ (¬ (x - (48 : Int32)) < (0 : Int32) ∧ (x - (48 : Int32)) < (10 : Int32)) then 1 else 0
theorem own_or (n : Nat) : n ||| 32 = 64 * (n / 64) + ((n % 64) ||| 32) := by
  have h1 : (n ||| 32) / 2 ^ 6 = n / 2 ^ 6 ||| 32 / 2 ^ 6 := Nat.or_div_two_pow
  have h2 : (n ||| 32) % 2 ^ 6 = n % 2 ^ 6 ||| 32 % 2 ^ 6 := Nat.or_mod_two_pow
  have h3 : n / 2 ^ 6 ||| 32 / 2 ^ 6 = n / 2 ^ 6 := by simp
  rw [h3] at h1
  have h4 : (32 : Nat) % 2 ^ 6 = 32 := rfl
  rw [h4] at h2
  have h5 : n % 64 = n % 2 ^ 6 := rfl
  rw [h5]
  omega
theorem own_small : ∀ r : Fin 64, (r.val < 32 ∧ (r.val ||| 32) = r.val + 32) ∨ (32 ≤ r.val ∧ (r.val ||| 32) = r.val) := by decide
theorem own_toInt (x : Int32) : x.toInt = (x.toUInt32.toNat : Int).bmod (2 ^ 32) := by
  show x.toBitVec.toInt = _
  rw [BitVec.toInt_eq_toNat_bmod]; rfl
theorem own_eq (x : Int32) : own_tok x = own_refc x := by
  have e1 : (97 : Int32).toInt = 97 := by decide
  have e2 : (122 : Int32).toInt = 122 := by decide
  have e3 : (65 : Int32).toInt = 65 := by decide
  have e4 : (90 : Int32).toInt = 90 := by decide
  have e5 : (48 : Int32).toInt = 48 := by decide
  have e6 : (57 : Int32).toInt = 57 := by decide
  have e7 : (0 : Int32).toInt = 0 := by decide
  have e8 : (26 : Int32).toInt = 26 := by decide
  have e9 : (10 : Int32).toInt = 10 := by decide
  have h1 : (x ||| (32 : Int32)).toUInt32.toNat = x.toUInt32.toNat ||| 32 := rfl
  have h2 := own_or x.toUInt32.toNat
  have h3 := own_small ⟨x.toUInt32.toNat % 64, Nat.mod_lt _ (by decide)⟩
  have h4 := own_toInt x
  have h5 := own_toInt (x ||| (32 : Int32))
  have h6 := x.toUInt32.toNat_lt
  have h7 := Int32.toInt_sub (x ||| (32 : Int32)) (97 : Int32)
  have h8 := Int32.toInt_sub x (48 : Int32)
  rw [h1, h2] at h5
  have h9 : (x.toUInt32.toNat % 64 < 32 ∧ (x.toUInt32.toNat % 64 ||| 32) = x.toUInt32.toNat % 64 + 32) ∨ (32 ≤ x.toUInt32.toNat % 64 ∧ (x.toUInt32.toNat % 64 ||| 32) = x.toUInt32.toNat % 64) := h3
  rw [Int.bmod_def] at h4 h5 h7 h8
  rw [e1] at h7
  rw [e5] at h8
  unfold own_tok own_refc
  refine ite_congr (propext ?_) (fun _ => rfl) (fun _ => rfl)
  simp only [Int32.lt_iff_toInt_lt, e1, e2, e3, e4, e5, e6, e7, e8, e9]
  generalize (x.toUInt32.toNat % 64 ||| 32) = r at *
  generalize x.toUInt32.toNat = n at *
  generalize ((x ||| (32 : Int32)) - (97 : Int32)).toInt = F at *
  generalize (x ||| (32 : Int32)).toInt = B at *
  generalize (x - (48 : Int32)).toInt = D at *
  generalize x.toInt = X at *
  clear h1 h2 h3 e1 e2 e3 e4 e5 e6 e7 e8 e9
  rcases h9 with ⟨ha, hb⟩ | ⟨ha, hb⟩ <;> subst hb <;> omega
theorem d1_0 : decode prog_120_method_4_code 0 = .ok (.iload_n 0, 1) := by decide +kernel
theorem d1_1 : decode prog_120_method_4_code 1 = .ok (.bipush 97, 2) := by decide +kernel
theorem d1_3 : decode prog_120_method_4_code 3 = .ok (.if_icmp .lt 9, 3) := by decide +kernel
theorem d1_6 : decode prog_120_method_4_code 6 = .ok (.iload_n 0, 1) := by decide +kernel
theorem d1_7 : decode prog_120_method_4_code 7 = .ok (.bipush 122, 2) := by decide +kernel
theorem d1_9 : decode prog_120_method_4_code 9 = .ok (.if_icmp .le 27, 3) := by decide +kernel
theorem d1_12 : decode prog_120_method_4_code 12 = .ok (.iload_n 0, 1) := by decide +kernel
theorem d1_13 : decode prog_120_method_4_code 13 = .ok (.bipush 65, 2) := by decide +kernel
theorem d1_15 : decode prog_120_method_4_code 15 = .ok (.if_icmp .lt 9, 3) := by decide +kernel
theorem d1_18 : decode prog_120_method_4_code 18 = .ok (.iload_n 0, 1) := by decide +kernel
theorem d1_19 : decode prog_120_method_4_code 19 = .ok (.bipush 90, 2) := by decide +kernel
theorem d1_21 : decode prog_120_method_4_code 21 = .ok (.if_icmp .le 15, 3) := by decide +kernel
theorem d1_24 : decode prog_120_method_4_code 24 = .ok (.iload_n 0, 1) := by decide +kernel
theorem d1_25 : decode prog_120_method_4_code 25 = .ok (.bipush 48, 2) := by decide +kernel
theorem d1_27 : decode prog_120_method_4_code 27 = .ok (.if_icmp .lt 13, 3) := by decide +kernel
theorem d1_30 : decode prog_120_method_4_code 30 = .ok (.iload_n 0, 1) := by decide +kernel
theorem d1_31 : decode prog_120_method_4_code 31 = .ok (.bipush 57, 2) := by decide +kernel
theorem d1_33 : decode prog_120_method_4_code 33 = .ok (.if_icmp .gt 7, 3) := by decide +kernel
theorem d1_36 : decode prog_120_method_4_code 36 = .ok (.iconst 1, 1) := by decide +kernel
theorem d1_37 : decode prog_120_method_4_code 37 = .ok (.goto 4, 3) := by decide +kernel
theorem d1_40 : decode prog_120_method_4_code 40 = .ok (.iconst 0, 1) := by decide +kernel
theorem d1_41 : decode prog_120_method_4_code 41 = .ok (.ireturn, 1) := by decide +kernel
theorem pn_0 : plainName "com/example/topmast/topmast/tokens/Tokenizer" = true := by first | (simp [plainName, overriddenIn]; done) | decide +kernel
theorem ef_rm1 (m : MethodId) (x0 : Int32) : entryFrame m #[(.int x0)] 1 = mkF m 0 #[.val (.int x0)] [] := by first | (simp [entryFrame, mkF, argsToLocals, Value.category]; done) | rfl
def Q1 (Z : State) (p1 : Int32) (h0 : Heap) (n0 : Nat) (v : Option Value) (h : Heap) (L : List Loc) : Prop := v = some (.int (own_tok p1)) ∧ Fr n0 L ∧ h = h0
set_option maxRecDepth 65536 in
set_option maxHeartbeats 40000000 in
theorem rm1 (l : Launch) (Z : State) (a0 : Array Value) (hw : ∀ d ∈ tables_1, d.before a0 Z = true) (ws : List Jvm.Cond) (p1 : Int32) (h0 : Heap) (n0 : Nat) (Z0 : n0 ≤ h0.size) :
    MetFree l (⟨"com/example/topmast/topmast/tokens/Tokenizer", "isTokenCharacter", "(C)Z"⟩ : MethodName) (head1 (Jvm.Cond.code (⟨"com/example/topmast/topmast/tokens/Tokenizer", "isTokenCharacter", "(C)Z"⟩ : MethodName) prog_120_method_4_code 1 (some .boolean) :: ws) ({ frames := 0, cells := 0, slots := 0, locals := 0 } : Room)) (fun a U => a = #[(.int p1)] ∧ Z.Warmed39 U.vm ∧ U.heap = h0) (fun _ _ _ _ _ => True) (fun _ U o U' => ∃ v L, o = .returned v ∧ Q1 Z p1 h0 n0 v U'.heap L ∧ FrameEnd U o U' L ({ frames := 0, cells := 0, slots := 0, locals := 0 } : Room).cells ({ frames := 0, cells := 0, slots := 0, locals := 0 } : Room).slots) := by
  refine MetFree.of_bodySF (plainFor_of_name pn_0) hisR ?_
  intro p e s m args below meth c s₁ Bd hml0 hP hK
  obtain ⟨rfl, hZ, hh⟩ := hP
  have hx := Bd.exec
  have hby := Bd.bytes
  have hml : c.maxLocals = 1 := hml0
  have hown : s.vm.findClass "com/example/topmast/topmast/tokens/Tokenizer" = some m.cls := findClass_of_methodNamed Bd.named
  have hnm := (name_of_methodNamed Bd.named Bd.method).1
  have X0 : Stand p l e ({ frames := 0, cells := 0, slots := 0, locals := 0 } : Room) s m #[(.int p1)] below meth c s₁ [] 0 0 := Stand.of_body Bd
  have e0 : s₁.heap = h0 := by rw [← hh, Bd.state]; rfl
  have N0 := Fr.nil n0
  have pre0 : ∀ t, Steps p.tables e below (s₁.setTop (mkF m 0 #[.val (.int p1)] [])) t → Steps p.tables e below (s₁.setTop (entryFrame m #[(.int p1)] 1)) t := fun t k => castTop (ef_rm1 m p1) k
  have P2 : ∀ t, Steps p.tables e below (s₁.setTop (mkF m 3 #[.val (.int p1)] [(.int (97 : Int32)), (.int p1)])) t → Steps p.tables e below (s₁.setTop (entryFrame m #[(.int p1)] 1)) t := fun t kt => pre0 t (by
    show Steps p.tables e below (s₁.setTop (mkF m 0 #[.val (.int p1)] [])) _
    refine XS.iloadN X0.here hx rfl (hb hby d1_0) rfl ?_
    show Steps p.tables e below (s₁.setTop (mkF m 1 #[.val (.int p1)] [(.int p1)])) _
    refine XS.bipush X0.here hx rfl (hb hby d1_1) ?_
    exact kt)
  by_cases hc3_1 : p1 < (97 : Int32)
  · skip
    have P4 : ∀ t, Steps p.tables e below (s₁.setTop (mkF m 15 #[.val (.int p1)] [(.int (65 : Int32)), (.int p1)])) t → Steps p.tables e below (s₁.setTop (entryFrame m #[(.int p1)] 1)) t := fun t kt => P2 t (by
      show Steps p.tables e below (s₁.setTop (mkF m 3 #[.val (.int p1)] [(.int (97 : Int32)), (.int p1)])) _
      refine XS.icmpYes X0.here hx rfl (pc0 := 3) (pc' := 12) rfl (hb hby d1_3) rfl (XT.ii_lt_t hc3_1) (by decide) (by decide) ?_
      show Steps p.tables e below (s₁.setTop (mkF m 12 #[.val (.int p1)] [])) _
      refine XS.iloadN X0.here hx rfl (hb hby d1_12) rfl ?_
      show Steps p.tables e below (s₁.setTop (mkF m 13 #[.val (.int p1)] [(.int p1)])) _
      refine XS.bipush X0.here hx rfl (hb hby d1_13) ?_
      exact kt)
    by_cases hc15_3 : p1 < (65 : Int32)
    · skip
      have P6 : ∀ t, Steps p.tables e below (s₁.setTop (mkF m 27 #[.val (.int p1)] [(.int (48 : Int32)), (.int p1)])) t → Steps p.tables e below (s₁.setTop (entryFrame m #[(.int p1)] 1)) t := fun t kt => P4 t (by
        show Steps p.tables e below (s₁.setTop (mkF m 15 #[.val (.int p1)] [(.int (65 : Int32)), (.int p1)])) _
        refine XS.icmpYes X0.here hx rfl (pc0 := 15) (pc' := 24) rfl (hb hby d1_15) rfl (XT.ii_lt_t hc15_3) (by decide) (by decide) ?_
        show Steps p.tables e below (s₁.setTop (mkF m 24 #[.val (.int p1)] [])) _
        refine XS.iloadN X0.here hx rfl (hb hby d1_24) rfl ?_
        show Steps p.tables e below (s₁.setTop (mkF m 25 #[.val (.int p1)] [(.int p1)])) _
        refine XS.bipush X0.here hx rfl (hb hby d1_25) ?_
        exact kt)
      by_cases hc27_5 : p1 < (48 : Int32)
      · skip
        have P7 : ∀ t, Steps p.tables e below (s₁.setTop (mkF m 41 #[.val (.int p1)] [(.int (0 : Int32))])) t → Steps p.tables e below (s₁.setTop (entryFrame m #[(.int p1)] 1)) t := fun t kt => P6 t (by
          show Steps p.tables e below (s₁.setTop (mkF m 27 #[.val (.int p1)] [(.int (48 : Int32)), (.int p1)])) _
          refine XS.icmpYes X0.here hx rfl (pc0 := 27) (pc' := 40) rfl (hb hby d1_27) rfl (XT.ii_lt_t hc27_5) (by decide) (by decide) ?_
          show Steps p.tables e below (s₁.setTop (mkF m 40 #[.val (.int p1)] [])) _
          refine XS.iconst X0.here hx rfl (hb hby d1_40) ?_
          exact kt)
        obtain ⟨fs, hr, hrun, hended, hW, hsame⟩ := X0.leave (v := some (.int (0 : Int32))) (fun h => by rw [Bd.returns] at h; cases h)
        refine ⟨_, _, P7 _ ?_, hrun, hended, _, _, rfl, ?_, ⟨_, rfl⟩, hW, hsame.mono (by decide) (by decide)⟩
        · exact retN X0 hx (t := .boolean) Bd.returns (by simp) (hb hby d1_41) hr
        · show Q1 Z p1 h0 n0 _ s₁.heap _
          rw [e0]
          exact ⟨by simp [own_tok, hc3_1, hc15_3, hc27_5], N0, rfl⟩
      · skip
        have P9 : ∀ t, Steps p.tables e below (s₁.setTop (mkF m 33 #[.val (.int p1)] [(.int (57 : Int32)), (.int p1)])) t → Steps p.tables e below (s₁.setTop (entryFrame m #[(.int p1)] 1)) t := fun t kt => P6 t (by
          show Steps p.tables e below (s₁.setTop (mkF m 27 #[.val (.int p1)] [(.int (48 : Int32)), (.int p1)])) _
          refine XS.icmpNo X0.here hx rfl (hb hby d1_27) rfl (XT.ii_lt_f hc27_5) ?_
          show Steps p.tables e below (s₁.setTop (mkF m 30 #[.val (.int p1)] [])) _
          refine XS.iloadN X0.here hx rfl (hb hby d1_30) rfl ?_
          show Steps p.tables e below (s₁.setTop (mkF m 31 #[.val (.int p1)] [(.int p1)])) _
          refine XS.bipush X0.here hx rfl (hb hby d1_31) ?_
          exact kt)
        by_cases hc33_8 : (57 : Int32) < p1
        · skip
          have P10 : ∀ t, Steps p.tables e below (s₁.setTop (mkF m 41 #[.val (.int p1)] [(.int (0 : Int32))])) t → Steps p.tables e below (s₁.setTop (entryFrame m #[(.int p1)] 1)) t := fun t kt => P9 t (by
            show Steps p.tables e below (s₁.setTop (mkF m 33 #[.val (.int p1)] [(.int (57 : Int32)), (.int p1)])) _
            refine XS.icmpYes X0.here hx rfl (pc0 := 33) (pc' := 40) rfl (hb hby d1_33) rfl (XT.ii_gt_t hc33_8) (by decide) (by decide) ?_
            show Steps p.tables e below (s₁.setTop (mkF m 40 #[.val (.int p1)] [])) _
            refine XS.iconst X0.here hx rfl (hb hby d1_40) ?_
            exact kt)
          obtain ⟨fs, hr, hrun, hended, hW, hsame⟩ := X0.leave (v := some (.int (0 : Int32))) (fun h => by rw [Bd.returns] at h; cases h)
          refine ⟨_, _, P10 _ ?_, hrun, hended, _, _, rfl, ?_, ⟨_, rfl⟩, hW, hsame.mono (by decide) (by decide)⟩
          · exact retN X0 hx (t := .boolean) Bd.returns (by simp) (hb hby d1_41) hr
          · show Q1 Z p1 h0 n0 _ s₁.heap _
            rw [e0]
            exact ⟨by simp [own_tok, hc3_1, hc15_3, hc27_5, hc33_8], N0, rfl⟩
        · skip
          have P11 : ∀ t, Steps p.tables e below (s₁.setTop (mkF m 41 #[.val (.int p1)] [(.int (1 : Int32))])) t → Steps p.tables e below (s₁.setTop (entryFrame m #[(.int p1)] 1)) t := fun t kt => P9 t (by
            show Steps p.tables e below (s₁.setTop (mkF m 33 #[.val (.int p1)] [(.int (57 : Int32)), (.int p1)])) _
            refine XS.icmpNo X0.here hx rfl (hb hby d1_33) rfl (XT.ii_gt_f hc33_8) ?_
            show Steps p.tables e below (s₁.setTop (mkF m 36 #[.val (.int p1)] [])) _
            refine XS.iconst X0.here hx rfl (hb hby d1_36) ?_
            show Steps p.tables e below (s₁.setTop (mkF m 37 #[.val (.int p1)] [(.int (1 : Int32))])) _
            refine XS.goto X0.here hx rfl (pc0 := 37) (pc' := 41) rfl (hb hby d1_37) (by decide) (by decide) ?_
            exact kt)
          obtain ⟨fs, hr, hrun, hended, hW, hsame⟩ := X0.leave (v := some (.int (1 : Int32))) (fun h => by rw [Bd.returns] at h; cases h)
          refine ⟨_, _, P11 _ ?_, hrun, hended, _, _, rfl, ?_, ⟨_, rfl⟩, hW, hsame.mono (by decide) (by decide)⟩
          · exact retN X0 hx (t := .boolean) Bd.returns (by simp) (hb hby d1_41) hr
          · show Q1 Z p1 h0 n0 _ s₁.heap _
            rw [e0]
            exact ⟨by simp [own_tok, hc3_1, hc15_3, hc27_5, hc33_8], N0, rfl⟩
    · skip
      have P13 : ∀ t, Steps p.tables e below (s₁.setTop (mkF m 21 #[.val (.int p1)] [(.int (90 : Int32)), (.int p1)])) t → Steps p.tables e below (s₁.setTop (entryFrame m #[(.int p1)] 1)) t := fun t kt => P4 t (by
        show Steps p.tables e below (s₁.setTop (mkF m 15 #[.val (.int p1)] [(.int (65 : Int32)), (.int p1)])) _
        refine XS.icmpNo X0.here hx rfl (hb hby d1_15) rfl (XT.ii_lt_f hc15_3) ?_
        show Steps p.tables e below (s₁.setTop (mkF m 18 #[.val (.int p1)] [])) _
        refine XS.iloadN X0.here hx rfl (hb hby d1_18) rfl ?_
        show Steps p.tables e below (s₁.setTop (mkF m 19 #[.val (.int p1)] [(.int p1)])) _
        refine XS.bipush X0.here hx rfl (hb hby d1_19) ?_
        exact kt)
      by_cases hc21_12 : (90 : Int32) < p1
      · skip
        have P15 : ∀ t, Steps p.tables e below (s₁.setTop (mkF m 27 #[.val (.int p1)] [(.int (48 : Int32)), (.int p1)])) t → Steps p.tables e below (s₁.setTop (entryFrame m #[(.int p1)] 1)) t := fun t kt => P13 t (by
          show Steps p.tables e below (s₁.setTop (mkF m 21 #[.val (.int p1)] [(.int (90 : Int32)), (.int p1)])) _
          refine XS.icmpNo X0.here hx rfl (hb hby d1_21) rfl (XT.ii_le_f hc21_12) ?_
          show Steps p.tables e below (s₁.setTop (mkF m 24 #[.val (.int p1)] [])) _
          refine XS.iloadN X0.here hx rfl (hb hby d1_24) rfl ?_
          show Steps p.tables e below (s₁.setTop (mkF m 25 #[.val (.int p1)] [(.int p1)])) _
          refine XS.bipush X0.here hx rfl (hb hby d1_25) ?_
          exact kt)
        by_cases hc27_14 : p1 < (48 : Int32)
        · skip
          have P16 : ∀ t, Steps p.tables e below (s₁.setTop (mkF m 41 #[.val (.int p1)] [(.int (0 : Int32))])) t → Steps p.tables e below (s₁.setTop (entryFrame m #[(.int p1)] 1)) t := fun t kt => P15 t (by
            show Steps p.tables e below (s₁.setTop (mkF m 27 #[.val (.int p1)] [(.int (48 : Int32)), (.int p1)])) _
            refine XS.icmpYes X0.here hx rfl (pc0 := 27) (pc' := 40) rfl (hb hby d1_27) rfl (XT.ii_lt_t hc27_14) (by decide) (by decide) ?_
            show Steps p.tables e below (s₁.setTop (mkF m 40 #[.val (.int p1)] [])) _
            refine XS.iconst X0.here hx rfl (hb hby d1_40) ?_
            exact kt)
          obtain ⟨fs, hr, hrun, hended, hW, hsame⟩ := X0.leave (v := some (.int (0 : Int32))) (fun h => by rw [Bd.returns] at h; cases h)
          refine ⟨_, _, P16 _ ?_, hrun, hended, _, _, rfl, ?_, ⟨_, rfl⟩, hW, hsame.mono (by decide) (by decide)⟩
          · exact retN X0 hx (t := .boolean) Bd.returns (by simp) (hb hby d1_41) hr
          · show Q1 Z p1 h0 n0 _ s₁.heap _
            rw [e0]
            exact ⟨by simp [own_tok, hc3_1, hc15_3, hc21_12, hc27_14], N0, rfl⟩
        · skip
          have P18 : ∀ t, Steps p.tables e below (s₁.setTop (mkF m 33 #[.val (.int p1)] [(.int (57 : Int32)), (.int p1)])) t → Steps p.tables e below (s₁.setTop (entryFrame m #[(.int p1)] 1)) t := fun t kt => P15 t (by
            show Steps p.tables e below (s₁.setTop (mkF m 27 #[.val (.int p1)] [(.int (48 : Int32)), (.int p1)])) _
            refine XS.icmpNo X0.here hx rfl (hb hby d1_27) rfl (XT.ii_lt_f hc27_14) ?_
            show Steps p.tables e below (s₁.setTop (mkF m 30 #[.val (.int p1)] [])) _
            refine XS.iloadN X0.here hx rfl (hb hby d1_30) rfl ?_
            show Steps p.tables e below (s₁.setTop (mkF m 31 #[.val (.int p1)] [(.int p1)])) _
            refine XS.bipush X0.here hx rfl (hb hby d1_31) ?_
            exact kt)
          by_cases hc33_17 : (57 : Int32) < p1
          · skip
            have P19 : ∀ t, Steps p.tables e below (s₁.setTop (mkF m 41 #[.val (.int p1)] [(.int (0 : Int32))])) t → Steps p.tables e below (s₁.setTop (entryFrame m #[(.int p1)] 1)) t := fun t kt => P18 t (by
              show Steps p.tables e below (s₁.setTop (mkF m 33 #[.val (.int p1)] [(.int (57 : Int32)), (.int p1)])) _
              refine XS.icmpYes X0.here hx rfl (pc0 := 33) (pc' := 40) rfl (hb hby d1_33) rfl (XT.ii_gt_t hc33_17) (by decide) (by decide) ?_
              show Steps p.tables e below (s₁.setTop (mkF m 40 #[.val (.int p1)] [])) _
              refine XS.iconst X0.here hx rfl (hb hby d1_40) ?_
              exact kt)
            obtain ⟨fs, hr, hrun, hended, hW, hsame⟩ := X0.leave (v := some (.int (0 : Int32))) (fun h => by rw [Bd.returns] at h; cases h)
            refine ⟨_, _, P19 _ ?_, hrun, hended, _, _, rfl, ?_, ⟨_, rfl⟩, hW, hsame.mono (by decide) (by decide)⟩
            · exact retN X0 hx (t := .boolean) Bd.returns (by simp) (hb hby d1_41) hr
            · show Q1 Z p1 h0 n0 _ s₁.heap _
              rw [e0]
              exact ⟨by simp [own_tok, hc3_1, hc15_3, hc21_12, hc27_14, hc33_17], N0, rfl⟩
          · skip
            have P20 : ∀ t, Steps p.tables e below (s₁.setTop (mkF m 41 #[.val (.int p1)] [(.int (1 : Int32))])) t → Steps p.tables e below (s₁.setTop (entryFrame m #[(.int p1)] 1)) t := fun t kt => P18 t (by
              show Steps p.tables e below (s₁.setTop (mkF m 33 #[.val (.int p1)] [(.int (57 : Int32)), (.int p1)])) _
              refine XS.icmpNo X0.here hx rfl (hb hby d1_33) rfl (XT.ii_gt_f hc33_17) ?_
              show Steps p.tables e below (s₁.setTop (mkF m 36 #[.val (.int p1)] [])) _
              refine XS.iconst X0.here hx rfl (hb hby d1_36) ?_
              show Steps p.tables e below (s₁.setTop (mkF m 37 #[.val (.int p1)] [(.int (1 : Int32))])) _
              refine XS.goto X0.here hx rfl (pc0 := 37) (pc' := 41) rfl (hb hby d1_37) (by decide) (by decide) ?_
              exact kt)
            obtain ⟨fs, hr, hrun, hended, hW, hsame⟩ := X0.leave (v := some (.int (1 : Int32))) (fun h => by rw [Bd.returns] at h; cases h)
            refine ⟨_, _, P20 _ ?_, hrun, hended, _, _, rfl, ?_, ⟨_, rfl⟩, hW, hsame.mono (by decide) (by decide)⟩
            · exact retN X0 hx (t := .boolean) Bd.returns (by simp) (hb hby d1_41) hr
            · show Q1 Z p1 h0 n0 _ s₁.heap _
              rw [e0]
              exact ⟨by simp [own_tok, hc3_1, hc15_3, hc21_12, hc27_14, hc33_17], N0, rfl⟩
      · skip
        have P21 : ∀ t, Steps p.tables e below (s₁.setTop (mkF m 41 #[.val (.int p1)] [(.int (1 : Int32))])) t → Steps p.tables e below (s₁.setTop (entryFrame m #[(.int p1)] 1)) t := fun t kt => P13 t (by
          show Steps p.tables e below (s₁.setTop (mkF m 21 #[.val (.int p1)] [(.int (90 : Int32)), (.int p1)])) _
          refine XS.icmpYes X0.here hx rfl (pc0 := 21) (pc' := 36) rfl (hb hby d1_21) rfl (XT.ii_le_t hc21_12) (by decide) (by decide) ?_
          show Steps p.tables e below (s₁.setTop (mkF m 36 #[.val (.int p1)] [])) _
          refine XS.iconst X0.here hx rfl (hb hby d1_36) ?_
          show Steps p.tables e below (s₁.setTop (mkF m 37 #[.val (.int p1)] [(.int (1 : Int32))])) _
          refine XS.goto X0.here hx rfl (pc0 := 37) (pc' := 41) rfl (hb hby d1_37) (by decide) (by decide) ?_
          exact kt)
        obtain ⟨fs, hr, hrun, hended, hW, hsame⟩ := X0.leave (v := some (.int (1 : Int32))) (fun h => by rw [Bd.returns] at h; cases h)
        refine ⟨_, _, P21 _ ?_, hrun, hended, _, _, rfl, ?_, ⟨_, rfl⟩, hW, hsame.mono (by decide) (by decide)⟩
        · exact retN X0 hx (t := .boolean) Bd.returns (by simp) (hb hby d1_41) hr
        · show Q1 Z p1 h0 n0 _ s₁.heap _
          rw [e0]
          exact ⟨by simp [own_tok, hc3_1, hc15_3, hc21_12], N0, rfl⟩
  · skip
    have P23 : ∀ t, Steps p.tables e below (s₁.setTop (mkF m 9 #[.val (.int p1)] [(.int (122 : Int32)), (.int p1)])) t → Steps p.tables e below (s₁.setTop (entryFrame m #[(.int p1)] 1)) t := fun t kt => P2 t (by
      show Steps p.tables e below (s₁.setTop (mkF m 3 #[.val (.int p1)] [(.int (97 : Int32)), (.int p1)])) _
      refine XS.icmpNo X0.here hx rfl (hb hby d1_3) rfl (XT.ii_lt_f hc3_1) ?_
      show Steps p.tables e below (s₁.setTop (mkF m 6 #[.val (.int p1)] [])) _
      refine XS.iloadN X0.here hx rfl (hb hby d1_6) rfl ?_
      show Steps p.tables e below (s₁.setTop (mkF m 7 #[.val (.int p1)] [(.int p1)])) _
      refine XS.bipush X0.here hx rfl (hb hby d1_7) ?_
      exact kt)
    by_cases hc9_22 : (122 : Int32) < p1
    · skip
      have P25 : ∀ t, Steps p.tables e below (s₁.setTop (mkF m 15 #[.val (.int p1)] [(.int (65 : Int32)), (.int p1)])) t → Steps p.tables e below (s₁.setTop (entryFrame m #[(.int p1)] 1)) t := fun t kt => P23 t (by
        show Steps p.tables e below (s₁.setTop (mkF m 9 #[.val (.int p1)] [(.int (122 : Int32)), (.int p1)])) _
        refine XS.icmpNo X0.here hx rfl (hb hby d1_9) rfl (XT.ii_le_f hc9_22) ?_
        show Steps p.tables e below (s₁.setTop (mkF m 12 #[.val (.int p1)] [])) _
        refine XS.iloadN X0.here hx rfl (hb hby d1_12) rfl ?_
        show Steps p.tables e below (s₁.setTop (mkF m 13 #[.val (.int p1)] [(.int p1)])) _
        refine XS.bipush X0.here hx rfl (hb hby d1_13) ?_
        exact kt)
      by_cases hc15_24 : p1 < (65 : Int32)
      · skip
        have P27 : ∀ t, Steps p.tables e below (s₁.setTop (mkF m 27 #[.val (.int p1)] [(.int (48 : Int32)), (.int p1)])) t → Steps p.tables e below (s₁.setTop (entryFrame m #[(.int p1)] 1)) t := fun t kt => P25 t (by
          show Steps p.tables e below (s₁.setTop (mkF m 15 #[.val (.int p1)] [(.int (65 : Int32)), (.int p1)])) _
          refine XS.icmpYes X0.here hx rfl (pc0 := 15) (pc' := 24) rfl (hb hby d1_15) rfl (XT.ii_lt_t hc15_24) (by decide) (by decide) ?_
          show Steps p.tables e below (s₁.setTop (mkF m 24 #[.val (.int p1)] [])) _
          refine XS.iloadN X0.here hx rfl (hb hby d1_24) rfl ?_
          show Steps p.tables e below (s₁.setTop (mkF m 25 #[.val (.int p1)] [(.int p1)])) _
          refine XS.bipush X0.here hx rfl (hb hby d1_25) ?_
          exact kt)
        by_cases hc27_26 : p1 < (48 : Int32)
        · skip
          have P28 : ∀ t, Steps p.tables e below (s₁.setTop (mkF m 41 #[.val (.int p1)] [(.int (0 : Int32))])) t → Steps p.tables e below (s₁.setTop (entryFrame m #[(.int p1)] 1)) t := fun t kt => P27 t (by
            show Steps p.tables e below (s₁.setTop (mkF m 27 #[.val (.int p1)] [(.int (48 : Int32)), (.int p1)])) _
            refine XS.icmpYes X0.here hx rfl (pc0 := 27) (pc' := 40) rfl (hb hby d1_27) rfl (XT.ii_lt_t hc27_26) (by decide) (by decide) ?_
            show Steps p.tables e below (s₁.setTop (mkF m 40 #[.val (.int p1)] [])) _
            refine XS.iconst X0.here hx rfl (hb hby d1_40) ?_
            exact kt)
          obtain ⟨fs, hr, hrun, hended, hW, hsame⟩ := X0.leave (v := some (.int (0 : Int32))) (fun h => by rw [Bd.returns] at h; cases h)
          refine ⟨_, _, P28 _ ?_, hrun, hended, _, _, rfl, ?_, ⟨_, rfl⟩, hW, hsame.mono (by decide) (by decide)⟩
          · exact retN X0 hx (t := .boolean) Bd.returns (by simp) (hb hby d1_41) hr
          · show Q1 Z p1 h0 n0 _ s₁.heap _
            rw [e0]
            exact ⟨by simp [own_tok, hc3_1, hc9_22, hc15_24, hc27_26], N0, rfl⟩
        · skip
          have P30 : ∀ t, Steps p.tables e below (s₁.setTop (mkF m 33 #[.val (.int p1)] [(.int (57 : Int32)), (.int p1)])) t → Steps p.tables e below (s₁.setTop (entryFrame m #[(.int p1)] 1)) t := fun t kt => P27 t (by
            show Steps p.tables e below (s₁.setTop (mkF m 27 #[.val (.int p1)] [(.int (48 : Int32)), (.int p1)])) _
            refine XS.icmpNo X0.here hx rfl (hb hby d1_27) rfl (XT.ii_lt_f hc27_26) ?_
            show Steps p.tables e below (s₁.setTop (mkF m 30 #[.val (.int p1)] [])) _
            refine XS.iloadN X0.here hx rfl (hb hby d1_30) rfl ?_
            show Steps p.tables e below (s₁.setTop (mkF m 31 #[.val (.int p1)] [(.int p1)])) _
            refine XS.bipush X0.here hx rfl (hb hby d1_31) ?_
            exact kt)
          by_cases hc33_29 : (57 : Int32) < p1
          · skip
            have P31 : ∀ t, Steps p.tables e below (s₁.setTop (mkF m 41 #[.val (.int p1)] [(.int (0 : Int32))])) t → Steps p.tables e below (s₁.setTop (entryFrame m #[(.int p1)] 1)) t := fun t kt => P30 t (by
              show Steps p.tables e below (s₁.setTop (mkF m 33 #[.val (.int p1)] [(.int (57 : Int32)), (.int p1)])) _
              refine XS.icmpYes X0.here hx rfl (pc0 := 33) (pc' := 40) rfl (hb hby d1_33) rfl (XT.ii_gt_t hc33_29) (by decide) (by decide) ?_
              show Steps p.tables e below (s₁.setTop (mkF m 40 #[.val (.int p1)] [])) _
              refine XS.iconst X0.here hx rfl (hb hby d1_40) ?_
              exact kt)
            obtain ⟨fs, hr, hrun, hended, hW, hsame⟩ := X0.leave (v := some (.int (0 : Int32))) (fun h => by rw [Bd.returns] at h; cases h)
            refine ⟨_, _, P31 _ ?_, hrun, hended, _, _, rfl, ?_, ⟨_, rfl⟩, hW, hsame.mono (by decide) (by decide)⟩
            · exact retN X0 hx (t := .boolean) Bd.returns (by simp) (hb hby d1_41) hr
            · show Q1 Z p1 h0 n0 _ s₁.heap _
              rw [e0]
              exact ⟨by simp [own_tok, hc3_1, hc9_22, hc15_24, hc27_26, hc33_29], N0, rfl⟩
          · skip
            have P32 : ∀ t, Steps p.tables e below (s₁.setTop (mkF m 41 #[.val (.int p1)] [(.int (1 : Int32))])) t → Steps p.tables e below (s₁.setTop (entryFrame m #[(.int p1)] 1)) t := fun t kt => P30 t (by
              show Steps p.tables e below (s₁.setTop (mkF m 33 #[.val (.int p1)] [(.int (57 : Int32)), (.int p1)])) _
              refine XS.icmpNo X0.here hx rfl (hb hby d1_33) rfl (XT.ii_gt_f hc33_29) ?_
              show Steps p.tables e below (s₁.setTop (mkF m 36 #[.val (.int p1)] [])) _
              refine XS.iconst X0.here hx rfl (hb hby d1_36) ?_
              show Steps p.tables e below (s₁.setTop (mkF m 37 #[.val (.int p1)] [(.int (1 : Int32))])) _
              refine XS.goto X0.here hx rfl (pc0 := 37) (pc' := 41) rfl (hb hby d1_37) (by decide) (by decide) ?_
              exact kt)
            obtain ⟨fs, hr, hrun, hended, hW, hsame⟩ := X0.leave (v := some (.int (1 : Int32))) (fun h => by rw [Bd.returns] at h; cases h)
            refine ⟨_, _, P32 _ ?_, hrun, hended, _, _, rfl, ?_, ⟨_, rfl⟩, hW, hsame.mono (by decide) (by decide)⟩
            · exact retN X0 hx (t := .boolean) Bd.returns (by simp) (hb hby d1_41) hr
            · show Q1 Z p1 h0 n0 _ s₁.heap _
              rw [e0]
              exact ⟨by simp [own_tok, hc3_1, hc9_22, hc15_24, hc27_26, hc33_29], N0, rfl⟩
      · skip
        have P34 : ∀ t, Steps p.tables e below (s₁.setTop (mkF m 21 #[.val (.int p1)] [(.int (90 : Int32)), (.int p1)])) t → Steps p.tables e below (s₁.setTop (entryFrame m #[(.int p1)] 1)) t := fun t kt => P25 t (by
          show Steps p.tables e below (s₁.setTop (mkF m 15 #[.val (.int p1)] [(.int (65 : Int32)), (.int p1)])) _
          refine XS.icmpNo X0.here hx rfl (hb hby d1_15) rfl (XT.ii_lt_f hc15_24) ?_
          show Steps p.tables e below (s₁.setTop (mkF m 18 #[.val (.int p1)] [])) _
          refine XS.iloadN X0.here hx rfl (hb hby d1_18) rfl ?_
          show Steps p.tables e below (s₁.setTop (mkF m 19 #[.val (.int p1)] [(.int p1)])) _
          refine XS.bipush X0.here hx rfl (hb hby d1_19) ?_
          exact kt)
        by_cases hc21_33 : (90 : Int32) < p1
        · skip
          have P36 : ∀ t, Steps p.tables e below (s₁.setTop (mkF m 27 #[.val (.int p1)] [(.int (48 : Int32)), (.int p1)])) t → Steps p.tables e below (s₁.setTop (entryFrame m #[(.int p1)] 1)) t := fun t kt => P34 t (by
            show Steps p.tables e below (s₁.setTop (mkF m 21 #[.val (.int p1)] [(.int (90 : Int32)), (.int p1)])) _
            refine XS.icmpNo X0.here hx rfl (hb hby d1_21) rfl (XT.ii_le_f hc21_33) ?_
            show Steps p.tables e below (s₁.setTop (mkF m 24 #[.val (.int p1)] [])) _
            refine XS.iloadN X0.here hx rfl (hb hby d1_24) rfl ?_
            show Steps p.tables e below (s₁.setTop (mkF m 25 #[.val (.int p1)] [(.int p1)])) _
            refine XS.bipush X0.here hx rfl (hb hby d1_25) ?_
            exact kt)
          by_cases hc27_35 : p1 < (48 : Int32)
          · skip
            have P37 : ∀ t, Steps p.tables e below (s₁.setTop (mkF m 41 #[.val (.int p1)] [(.int (0 : Int32))])) t → Steps p.tables e below (s₁.setTop (entryFrame m #[(.int p1)] 1)) t := fun t kt => P36 t (by
              show Steps p.tables e below (s₁.setTop (mkF m 27 #[.val (.int p1)] [(.int (48 : Int32)), (.int p1)])) _
              refine XS.icmpYes X0.here hx rfl (pc0 := 27) (pc' := 40) rfl (hb hby d1_27) rfl (XT.ii_lt_t hc27_35) (by decide) (by decide) ?_
              show Steps p.tables e below (s₁.setTop (mkF m 40 #[.val (.int p1)] [])) _
              refine XS.iconst X0.here hx rfl (hb hby d1_40) ?_
              exact kt)
            obtain ⟨fs, hr, hrun, hended, hW, hsame⟩ := X0.leave (v := some (.int (0 : Int32))) (fun h => by rw [Bd.returns] at h; cases h)
            refine ⟨_, _, P37 _ ?_, hrun, hended, _, _, rfl, ?_, ⟨_, rfl⟩, hW, hsame.mono (by decide) (by decide)⟩
            · exact retN X0 hx (t := .boolean) Bd.returns (by simp) (hb hby d1_41) hr
            · show Q1 Z p1 h0 n0 _ s₁.heap _
              rw [e0]
              exact ⟨by simp [own_tok, hc3_1, hc9_22, hc15_24, hc21_33, hc27_35], N0, rfl⟩
          · skip
            have P39 : ∀ t, Steps p.tables e below (s₁.setTop (mkF m 33 #[.val (.int p1)] [(.int (57 : Int32)), (.int p1)])) t → Steps p.tables e below (s₁.setTop (entryFrame m #[(.int p1)] 1)) t := fun t kt => P36 t (by
              show Steps p.tables e below (s₁.setTop (mkF m 27 #[.val (.int p1)] [(.int (48 : Int32)), (.int p1)])) _
              refine XS.icmpNo X0.here hx rfl (hb hby d1_27) rfl (XT.ii_lt_f hc27_35) ?_
              show Steps p.tables e below (s₁.setTop (mkF m 30 #[.val (.int p1)] [])) _
              refine XS.iloadN X0.here hx rfl (hb hby d1_30) rfl ?_
              show Steps p.tables e below (s₁.setTop (mkF m 31 #[.val (.int p1)] [(.int p1)])) _
              refine XS.bipush X0.here hx rfl (hb hby d1_31) ?_
              exact kt)
            by_cases hc33_38 : (57 : Int32) < p1
            · skip
              have P40 : ∀ t, Steps p.tables e below (s₁.setTop (mkF m 41 #[.val (.int p1)] [(.int (0 : Int32))])) t → Steps p.tables e below (s₁.setTop (entryFrame m #[(.int p1)] 1)) t := fun t kt => P39 t (by
                show Steps p.tables e below (s₁.setTop (mkF m 33 #[.val (.int p1)] [(.int (57 : Int32)), (.int p1)])) _
                refine XS.icmpYes X0.here hx rfl (pc0 := 33) (pc' := 40) rfl (hb hby d1_33) rfl (XT.ii_gt_t hc33_38) (by decide) (by decide) ?_
                show Steps p.tables e below (s₁.setTop (mkF m 40 #[.val (.int p1)] [])) _
                refine XS.iconst X0.here hx rfl (hb hby d1_40) ?_
                exact kt)
              obtain ⟨fs, hr, hrun, hended, hW, hsame⟩ := X0.leave (v := some (.int (0 : Int32))) (fun h => by rw [Bd.returns] at h; cases h)
              refine ⟨_, _, P40 _ ?_, hrun, hended, _, _, rfl, ?_, ⟨_, rfl⟩, hW, hsame.mono (by decide) (by decide)⟩
              · exact retN X0 hx (t := .boolean) Bd.returns (by simp) (hb hby d1_41) hr
              · show Q1 Z p1 h0 n0 _ s₁.heap _
                rw [e0]
                exact ⟨by simp [own_tok, hc3_1, hc9_22, hc15_24, hc21_33, hc27_35, hc33_38], N0, rfl⟩
            · skip
              have P41 : ∀ t, Steps p.tables e below (s₁.setTop (mkF m 41 #[.val (.int p1)] [(.int (1 : Int32))])) t → Steps p.tables e below (s₁.setTop (entryFrame m #[(.int p1)] 1)) t := fun t kt => P39 t (by
                show Steps p.tables e below (s₁.setTop (mkF m 33 #[.val (.int p1)] [(.int (57 : Int32)), (.int p1)])) _
                refine XS.icmpNo X0.here hx rfl (hb hby d1_33) rfl (XT.ii_gt_f hc33_38) ?_
                show Steps p.tables e below (s₁.setTop (mkF m 36 #[.val (.int p1)] [])) _
                refine XS.iconst X0.here hx rfl (hb hby d1_36) ?_
                show Steps p.tables e below (s₁.setTop (mkF m 37 #[.val (.int p1)] [(.int (1 : Int32))])) _
                refine XS.goto X0.here hx rfl (pc0 := 37) (pc' := 41) rfl (hb hby d1_37) (by decide) (by decide) ?_
                exact kt)
              obtain ⟨fs, hr, hrun, hended, hW, hsame⟩ := X0.leave (v := some (.int (1 : Int32))) (fun h => by rw [Bd.returns] at h; cases h)
              refine ⟨_, _, P41 _ ?_, hrun, hended, _, _, rfl, ?_, ⟨_, rfl⟩, hW, hsame.mono (by decide) (by decide)⟩
              · exact retN X0 hx (t := .boolean) Bd.returns (by simp) (hb hby d1_41) hr
              · show Q1 Z p1 h0 n0 _ s₁.heap _
                rw [e0]
                exact ⟨by simp [own_tok, hc3_1, hc9_22, hc15_24, hc21_33, hc27_35, hc33_38], N0, rfl⟩
        · skip
          have P42 : ∀ t, Steps p.tables e below (s₁.setTop (mkF m 41 #[.val (.int p1)] [(.int (1 : Int32))])) t → Steps p.tables e below (s₁.setTop (entryFrame m #[(.int p1)] 1)) t := fun t kt => P34 t (by
            show Steps p.tables e below (s₁.setTop (mkF m 21 #[.val (.int p1)] [(.int (90 : Int32)), (.int p1)])) _
            refine XS.icmpYes X0.here hx rfl (pc0 := 21) (pc' := 36) rfl (hb hby d1_21) rfl (XT.ii_le_t hc21_33) (by decide) (by decide) ?_
            show Steps p.tables e below (s₁.setTop (mkF m 36 #[.val (.int p1)] [])) _
            refine XS.iconst X0.here hx rfl (hb hby d1_36) ?_
            show Steps p.tables e below (s₁.setTop (mkF m 37 #[.val (.int p1)] [(.int (1 : Int32))])) _
            refine XS.goto X0.here hx rfl (pc0 := 37) (pc' := 41) rfl (hb hby d1_37) (by decide) (by decide) ?_
            exact kt)
          obtain ⟨fs, hr, hrun, hended, hW, hsame⟩ := X0.leave (v := some (.int (1 : Int32))) (fun h => by rw [Bd.returns] at h; cases h)
          refine ⟨_, _, P42 _ ?_, hrun, hended, _, _, rfl, ?_, ⟨_, rfl⟩, hW, hsame.mono (by decide) (by decide)⟩
          · exact retN X0 hx (t := .boolean) Bd.returns (by simp) (hb hby d1_41) hr
          · show Q1 Z p1 h0 n0 _ s₁.heap _
            rw [e0]
            exact ⟨by simp [own_tok, hc3_1, hc9_22, hc15_24, hc21_33], N0, rfl⟩
    · skip
      have P43 : ∀ t, Steps p.tables e below (s₁.setTop (mkF m 41 #[.val (.int p1)] [(.int (1 : Int32))])) t → Steps p.tables e below (s₁.setTop (entryFrame m #[(.int p1)] 1)) t := fun t kt => P23 t (by
        show Steps p.tables e below (s₁.setTop (mkF m 9 #[.val (.int p1)] [(.int (122 : Int32)), (.int p1)])) _
        refine XS.icmpYes X0.here hx rfl (pc0 := 9) (pc' := 36) rfl (hb hby d1_9) rfl (XT.ii_le_t hc9_22) (by decide) (by decide) ?_
        show Steps p.tables e below (s₁.setTop (mkF m 36 #[.val (.int p1)] [])) _
        refine XS.iconst X0.here hx rfl (hb hby d1_36) ?_
        show Steps p.tables e below (s₁.setTop (mkF m 37 #[.val (.int p1)] [(.int (1 : Int32))])) _
        refine XS.goto X0.here hx rfl (pc0 := 37) (pc' := 41) rfl (hb hby d1_37) (by decide) (by decide) ?_
        exact kt)
      obtain ⟨fs, hr, hrun, hended, hW, hsame⟩ := X0.leave (v := some (.int (1 : Int32))) (fun h => by rw [Bd.returns] at h; cases h)
      refine ⟨_, _, P43 _ ?_, hrun, hended, _, _, rfl, ?_, ⟨_, rfl⟩, hW, hsame.mono (by decide) (by decide)⟩
      · exact retN X0 hx (t := .boolean) Bd.returns (by simp) (hb hby d1_41) hr
      · show Q1 Z p1 h0 n0 _ s₁.heap _
        rw [e0]
        exact ⟨by simp [own_tok, hc3_1, hc9_22], N0, rfl⟩
theorem d2_0 : decode method_2_code 0 = .ok (.iload_n 0, 1) := by decide +kernel
theorem d2_1 : decode method_2_code 1 = .ok (.bipush 32, 2) := by decide +kernel
theorem d2_3 : decode method_2_code 3 = .ok (.ior, 1) := by decide +kernel
theorem d2_4 : decode method_2_code 4 = .ok (.bipush 97, 2) := by decide +kernel
theorem d2_6 : decode method_2_code 6 = .ok (.isub, 1) := by decide +kernel
theorem d2_7 : decode method_2_code 7 = .ok (.istore_n 1, 1) := by decide +kernel
theorem d2_8 : decode method_2_code 8 = .ok (.iload_n 0, 1) := by decide +kernel
theorem d2_9 : decode method_2_code 9 = .ok (.bipush 48, 2) := by decide +kernel
theorem d2_11 : decode method_2_code 11 = .ok (.isub, 1) := by decide +kernel
theorem d2_12 : decode method_2_code 12 = .ok (.istore_n 2, 1) := by decide +kernel
theorem d2_13 : decode method_2_code 13 = .ok (.iload_n 1, 1) := by decide +kernel
theorem d2_14 : decode method_2_code 14 = .ok (.ifCond .lt 13, 3) := by decide +kernel
theorem d2_17 : decode method_2_code 17 = .ok (.iload_n 1, 1) := by decide +kernel
theorem d2_18 : decode method_2_code 18 = .ok (.bipush 26, 2) := by decide +kernel
theorem d2_20 : decode method_2_code 20 = .ok (.if_icmp .ge 7, 3) := by decide +kernel
theorem d2_23 : decode method_2_code 23 = .ok (.iconst 1, 1) := by decide +kernel
theorem d2_24 : decode method_2_code 24 = .ok (.goto 4, 3) := by decide +kernel
theorem d2_27 : decode method_2_code 27 = .ok (.iconst 0, 1) := by decide +kernel
theorem d2_28 : decode method_2_code 28 = .ok (.istore_n 3, 1) := by decide +kernel
theorem d2_29 : decode method_2_code 29 = .ok (.iload_n 2, 1) := by decide +kernel
theorem d2_30 : decode method_2_code 30 = .ok (.ifCond .lt 13, 3) := by decide +kernel
theorem d2_33 : decode method_2_code 33 = .ok (.iload_n 2, 1) := by decide +kernel
theorem d2_34 : decode method_2_code 34 = .ok (.bipush 10, 2) := by decide +kernel
theorem d2_36 : decode method_2_code 36 = .ok (.if_icmp .ge 7, 3) := by decide +kernel
theorem d2_39 : decode method_2_code 39 = .ok (.iconst 1, 1) := by decide +kernel
theorem d2_40 : decode method_2_code 40 = .ok (.goto 4, 3) := by decide +kernel
theorem d2_43 : decode method_2_code 43 = .ok (.iconst 0, 1) := by decide +kernel
theorem d2_44 : decode method_2_code 44 = .ok (.istore 4, 2) := by decide +kernel
theorem d2_46 : decode method_2_code 46 = .ok (.iload_n 3, 1) := by decide +kernel
theorem d2_47 : decode method_2_code 47 = .ok (.ifCond .ne 8, 3) := by decide +kernel
theorem d2_50 : decode method_2_code 50 = .ok (.iload 4, 2) := by decide +kernel
theorem d2_52 : decode method_2_code 52 = .ok (.ifCond .eq 7, 3) := by decide +kernel
theorem d2_55 : decode method_2_code 55 = .ok (.iconst 1, 1) := by decide +kernel
theorem d2_56 : decode method_2_code 56 = .ok (.goto 4, 3) := by decide +kernel
theorem d2_59 : decode method_2_code 59 = .ok (.iconst 0, 1) := by decide +kernel
theorem d2_60 : decode method_2_code 60 = .ok (.ireturn, 1) := by decide +kernel
theorem pn_1 : plainName "com/example/topmast/topmast/tokens/TokenizerIsTokenCharacterPinLaw" = true := by first | (simp [plainName, overriddenIn]; done) | decide +kernel
theorem ef_rm2 (m : MethodId) (x0 : Int32) : entryFrame m #[(.int x0)] 5 = mkF m 0 #[.val (.int x0), .unset, .unset, .unset, .unset] [] := by first | (simp [entryFrame, mkF, argsToLocals, Value.category]; done) | rfl
def Q2 (Z : State) (p1 : Int32) (h0 : Heap) (n0 : Nat) (v : Option Value) (h : Heap) (L : List Loc) : Prop := v = some (.int (own_refc p1)) ∧ Fr n0 L ∧ h = h0
set_option maxRecDepth 65536 in
set_option maxHeartbeats 40000000 in
theorem rm2 (l : Launch) (Z : State) (a0 : Array Value) (hw : ∀ d ∈ tables_1, d.before a0 Z = true) (ws : List Jvm.Cond) (p1 : Int32) (h0 : Heap) (n0 : Nat) (Z0 : n0 ≤ h0.size) :
    MetFree l (⟨"com/example/topmast/topmast/tokens/TokenizerIsTokenCharacterPinLaw", "reference", "(I)Z"⟩ : MethodName) (head1 (Jvm.Cond.code (⟨"com/example/topmast/topmast/tokens/TokenizerIsTokenCharacterPinLaw", "reference", "(I)Z"⟩ : MethodName) method_2_code 5 (some .boolean) :: ws) ({ frames := 0, cells := 0, slots := 0, locals := 0 } : Room)) (fun a U => a = #[(.int p1)] ∧ Z.Warmed39 U.vm ∧ U.heap = h0) (fun _ _ _ _ _ => True) (fun _ U o U' => ∃ v L, o = .returned v ∧ Q2 Z p1 h0 n0 v U'.heap L ∧ FrameEnd U o U' L ({ frames := 0, cells := 0, slots := 0, locals := 0 } : Room).cells ({ frames := 0, cells := 0, slots := 0, locals := 0 } : Room).slots) := by
  refine MetFree.of_bodySF (plainFor_of_name pn_1) hisR ?_
  intro p e s m args below meth c s₁ Bd hml0 hP hK
  obtain ⟨rfl, hZ, hh⟩ := hP
  have hx := Bd.exec
  have hby := Bd.bytes
  have hml : c.maxLocals = 5 := hml0
  have hown : s.vm.findClass "com/example/topmast/topmast/tokens/TokenizerIsTokenCharacterPinLaw" = some m.cls := findClass_of_methodNamed Bd.named
  have hnm := (name_of_methodNamed Bd.named Bd.method).1
  have X0 : Stand p l e ({ frames := 0, cells := 0, slots := 0, locals := 0 } : Room) s m #[(.int p1)] below meth c s₁ [] 0 0 := Stand.of_body Bd
  have e0 : s₁.heap = h0 := by rw [← hh, Bd.state]; rfl
  have N0 := Fr.nil n0
  have pre0 : ∀ t, Steps p.tables e below (s₁.setTop (mkF m 0 #[.val (.int p1), .unset, .unset, .unset, .unset] [])) t → Steps p.tables e below (s₁.setTop (entryFrame m #[(.int p1)] 5)) t := fun t k => castTop (ef_rm2 m p1) k
  have P2 : ∀ t, Steps p.tables e below (s₁.setTop (mkF m 14 #[.val (.int p1), .val (.int ((p1 ||| (32 : Int32)) - (97 : Int32))), .val (.int (p1 - (48 : Int32))), .unset, .unset] [(.int ((p1 ||| (32 : Int32)) - (97 : Int32)))])) t → Steps p.tables e below (s₁.setTop (entryFrame m #[(.int p1)] 5)) t := fun t kt => pre0 t (by
    show Steps p.tables e below (s₁.setTop (mkF m 0 #[.val (.int p1), .unset, .unset, .unset, .unset] [])) _
    refine XS.iloadN X0.here hx rfl (hb hby d2_0) rfl ?_
    show Steps p.tables e below (s₁.setTop (mkF m 1 #[.val (.int p1), .unset, .unset, .unset, .unset] [(.int p1)])) _
    refine XS.bipush X0.here hx rfl (hb hby d2_1) ?_
    show Steps p.tables e below (s₁.setTop (mkF m 3 #[.val (.int p1), .unset, .unset, .unset, .unset] [(.int (32 : Int32)), (.int p1)])) _
    refine XT.ior X0.here hx rfl (hb hby d2_3) rfl ?_
    show Steps p.tables e below (s₁.setTop (mkF m 4 #[.val (.int p1), .unset, .unset, .unset, .unset] [(.int (p1 ||| (32 : Int32)))])) _
    refine XS.bipush X0.here hx rfl (hb hby d2_4) ?_
    show Steps p.tables e below (s₁.setTop (mkF m 6 #[.val (.int p1), .unset, .unset, .unset, .unset] [(.int (97 : Int32)), (.int (p1 ||| (32 : Int32)))])) _
    refine XS.isub X0.here hx rfl (hb hby d2_6) rfl ?_
    show Steps p.tables e below (s₁.setTop (mkF m 7 #[.val (.int p1), .unset, .unset, .unset, .unset] [(.int ((p1 ||| (32 : Int32)) - (97 : Int32)))])) _
    refine XS.istoreN X0.here hx rfl (hb hby d2_7) rfl (l' := #[.val (.int p1), .val (.int ((p1 ||| (32 : Int32)) - (97 : Int32))), .unset, .unset, .unset]) rfl ?_
    show Steps p.tables e below (s₁.setTop (mkF m 8 #[.val (.int p1), .val (.int ((p1 ||| (32 : Int32)) - (97 : Int32))), .unset, .unset, .unset] [])) _
    refine XS.iloadN X0.here hx rfl (hb hby d2_8) rfl ?_
    show Steps p.tables e below (s₁.setTop (mkF m 9 #[.val (.int p1), .val (.int ((p1 ||| (32 : Int32)) - (97 : Int32))), .unset, .unset, .unset] [(.int p1)])) _
    refine XS.bipush X0.here hx rfl (hb hby d2_9) ?_
    show Steps p.tables e below (s₁.setTop (mkF m 11 #[.val (.int p1), .val (.int ((p1 ||| (32 : Int32)) - (97 : Int32))), .unset, .unset, .unset] [(.int (48 : Int32)), (.int p1)])) _
    refine XS.isub X0.here hx rfl (hb hby d2_11) rfl ?_
    show Steps p.tables e below (s₁.setTop (mkF m 12 #[.val (.int p1), .val (.int ((p1 ||| (32 : Int32)) - (97 : Int32))), .unset, .unset, .unset] [(.int (p1 - (48 : Int32)))])) _
    refine XS.istoreN X0.here hx rfl (hb hby d2_12) rfl (l' := #[.val (.int p1), .val (.int ((p1 ||| (32 : Int32)) - (97 : Int32))), .val (.int (p1 - (48 : Int32))), .unset, .unset]) rfl ?_
    show Steps p.tables e below (s₁.setTop (mkF m 13 #[.val (.int p1), .val (.int ((p1 ||| (32 : Int32)) - (97 : Int32))), .val (.int (p1 - (48 : Int32))), .unset, .unset] [])) _
    refine XS.iloadN X0.here hx rfl (hb hby d2_13) rfl ?_
    exact kt)
  by_cases hc14_1 : ((p1 ||| (32 : Int32)) - (97 : Int32)) < (0 : Int32)
  · skip
    have P4 : ∀ t, Steps p.tables e below (s₁.setTop (mkF m 30 #[.val (.int p1), .val (.int ((p1 ||| (32 : Int32)) - (97 : Int32))), .val (.int (p1 - (48 : Int32))), .val (.int (0 : Int32)), .unset] [(.int (p1 - (48 : Int32)))])) t → Steps p.tables e below (s₁.setTop (entryFrame m #[(.int p1)] 5)) t := fun t kt => P2 t (by
      show Steps p.tables e below (s₁.setTop (mkF m 14 #[.val (.int p1), .val (.int ((p1 ||| (32 : Int32)) - (97 : Int32))), .val (.int (p1 - (48 : Int32))), .unset, .unset] [(.int ((p1 ||| (32 : Int32)) - (97 : Int32)))])) _
      refine XS.ifYes X0.here hx rfl (pc0 := 14) (pc' := 27) rfl (hb hby d2_14) rfl (XT.i0_lt_t hc14_1) (by decide) (by decide) ?_
      show Steps p.tables e below (s₁.setTop (mkF m 27 #[.val (.int p1), .val (.int ((p1 ||| (32 : Int32)) - (97 : Int32))), .val (.int (p1 - (48 : Int32))), .unset, .unset] [])) _
      refine XS.iconst X0.here hx rfl (hb hby d2_27) ?_
      show Steps p.tables e below (s₁.setTop (mkF m 28 #[.val (.int p1), .val (.int ((p1 ||| (32 : Int32)) - (97 : Int32))), .val (.int (p1 - (48 : Int32))), .unset, .unset] [(.int (0 : Int32))])) _
      refine XS.istoreN X0.here hx rfl (hb hby d2_28) rfl (l' := #[.val (.int p1), .val (.int ((p1 ||| (32 : Int32)) - (97 : Int32))), .val (.int (p1 - (48 : Int32))), .val (.int (0 : Int32)), .unset]) rfl ?_
      show Steps p.tables e below (s₁.setTop (mkF m 29 #[.val (.int p1), .val (.int ((p1 ||| (32 : Int32)) - (97 : Int32))), .val (.int (p1 - (48 : Int32))), .val (.int (0 : Int32)), .unset] [])) _
      refine XS.iloadN X0.here hx rfl (hb hby d2_29) rfl ?_
      exact kt)
    by_cases hc30_3 : (p1 - (48 : Int32)) < (0 : Int32)
    · skip
      have hc47_5 : (0 : Int32) = (0 : Int32) := rfl
      have hc52_6 : (0 : Int32) = (0 : Int32) := rfl
      have P7 : ∀ t, Steps p.tables e below (s₁.setTop (mkF m 60 #[.val (.int p1), .val (.int ((p1 ||| (32 : Int32)) - (97 : Int32))), .val (.int (p1 - (48 : Int32))), .val (.int (0 : Int32)), .val (.int (0 : Int32))] [(.int (0 : Int32))])) t → Steps p.tables e below (s₁.setTop (entryFrame m #[(.int p1)] 5)) t := fun t kt => P4 t (by
        show Steps p.tables e below (s₁.setTop (mkF m 30 #[.val (.int p1), .val (.int ((p1 ||| (32 : Int32)) - (97 : Int32))), .val (.int (p1 - (48 : Int32))), .val (.int (0 : Int32)), .unset] [(.int (p1 - (48 : Int32)))])) _
        refine XS.ifYes X0.here hx rfl (pc0 := 30) (pc' := 43) rfl (hb hby d2_30) rfl (XT.i0_lt_t hc30_3) (by decide) (by decide) ?_
        show Steps p.tables e below (s₁.setTop (mkF m 43 #[.val (.int p1), .val (.int ((p1 ||| (32 : Int32)) - (97 : Int32))), .val (.int (p1 - (48 : Int32))), .val (.int (0 : Int32)), .unset] [])) _
        refine XS.iconst X0.here hx rfl (hb hby d2_43) ?_
        show Steps p.tables e below (s₁.setTop (mkF m 44 #[.val (.int p1), .val (.int ((p1 ||| (32 : Int32)) - (97 : Int32))), .val (.int (p1 - (48 : Int32))), .val (.int (0 : Int32)), .unset] [(.int (0 : Int32))])) _
        refine XS.istore X0.here hx rfl (hb hby d2_44) rfl (l' := #[.val (.int p1), .val (.int ((p1 ||| (32 : Int32)) - (97 : Int32))), .val (.int (p1 - (48 : Int32))), .val (.int (0 : Int32)), .val (.int (0 : Int32))]) rfl ?_
        show Steps p.tables e below (s₁.setTop (mkF m 46 #[.val (.int p1), .val (.int ((p1 ||| (32 : Int32)) - (97 : Int32))), .val (.int (p1 - (48 : Int32))), .val (.int (0 : Int32)), .val (.int (0 : Int32))] [])) _
        refine XS.iloadN X0.here hx rfl (hb hby d2_46) rfl ?_
        show Steps p.tables e below (s₁.setTop (mkF m 47 #[.val (.int p1), .val (.int ((p1 ||| (32 : Int32)) - (97 : Int32))), .val (.int (p1 - (48 : Int32))), .val (.int (0 : Int32)), .val (.int (0 : Int32))] [(.int (0 : Int32))])) _
        refine XS.ifNo X0.here hx rfl (hb hby d2_47) rfl (XT.i0_ne_f hc47_5) ?_
        show Steps p.tables e below (s₁.setTop (mkF m 50 #[.val (.int p1), .val (.int ((p1 ||| (32 : Int32)) - (97 : Int32))), .val (.int (p1 - (48 : Int32))), .val (.int (0 : Int32)), .val (.int (0 : Int32))] [])) _
        refine XS.iload X0.here hx rfl (hb hby d2_50) rfl ?_
        show Steps p.tables e below (s₁.setTop (mkF m 52 #[.val (.int p1), .val (.int ((p1 ||| (32 : Int32)) - (97 : Int32))), .val (.int (p1 - (48 : Int32))), .val (.int (0 : Int32)), .val (.int (0 : Int32))] [(.int (0 : Int32))])) _
        refine XS.ifYes X0.here hx rfl (pc0 := 52) (pc' := 59) rfl (hb hby d2_52) rfl (XT.i0_eq_t hc52_6) (by decide) (by decide) ?_
        show Steps p.tables e below (s₁.setTop (mkF m 59 #[.val (.int p1), .val (.int ((p1 ||| (32 : Int32)) - (97 : Int32))), .val (.int (p1 - (48 : Int32))), .val (.int (0 : Int32)), .val (.int (0 : Int32))] [])) _
        refine XS.iconst X0.here hx rfl (hb hby d2_59) ?_
        exact kt)
      obtain ⟨fs, hr, hrun, hended, hW, hsame⟩ := X0.leave (v := some (.int (0 : Int32))) (fun h => by rw [Bd.returns] at h; cases h)
      refine ⟨_, _, P7 _ ?_, hrun, hended, _, _, rfl, ?_, ⟨_, rfl⟩, hW, hsame.mono (by decide) (by decide)⟩
      · exact retN X0 hx (t := .boolean) Bd.returns (by simp) (hb hby d2_60) hr
      · show Q2 Z p1 h0 n0 _ s₁.heap _
        rw [e0]
        exact ⟨by simp [own_refc, hc14_1, hc30_3, hc47_5, hc52_6], N0, rfl⟩
    · skip
      have P9 : ∀ t, Steps p.tables e below (s₁.setTop (mkF m 36 #[.val (.int p1), .val (.int ((p1 ||| (32 : Int32)) - (97 : Int32))), .val (.int (p1 - (48 : Int32))), .val (.int (0 : Int32)), .unset] [(.int (10 : Int32)), (.int (p1 - (48 : Int32)))])) t → Steps p.tables e below (s₁.setTop (entryFrame m #[(.int p1)] 5)) t := fun t kt => P4 t (by
        show Steps p.tables e below (s₁.setTop (mkF m 30 #[.val (.int p1), .val (.int ((p1 ||| (32 : Int32)) - (97 : Int32))), .val (.int (p1 - (48 : Int32))), .val (.int (0 : Int32)), .unset] [(.int (p1 - (48 : Int32)))])) _
        refine XS.ifNo X0.here hx rfl (hb hby d2_30) rfl (XT.i0_lt_f hc30_3) ?_
        show Steps p.tables e below (s₁.setTop (mkF m 33 #[.val (.int p1), .val (.int ((p1 ||| (32 : Int32)) - (97 : Int32))), .val (.int (p1 - (48 : Int32))), .val (.int (0 : Int32)), .unset] [])) _
        refine XS.iloadN X0.here hx rfl (hb hby d2_33) rfl ?_
        show Steps p.tables e below (s₁.setTop (mkF m 34 #[.val (.int p1), .val (.int ((p1 ||| (32 : Int32)) - (97 : Int32))), .val (.int (p1 - (48 : Int32))), .val (.int (0 : Int32)), .unset] [(.int (p1 - (48 : Int32)))])) _
        refine XS.bipush X0.here hx rfl (hb hby d2_34) ?_
        exact kt)
      by_cases hc36_8 : (p1 - (48 : Int32)) < (10 : Int32)
      · skip
        have hc47_10 : (0 : Int32) = (0 : Int32) := rfl
        have hc52_11 : ¬ ((1 : Int32) = (0 : Int32)) := by decide
        have P12 : ∀ t, Steps p.tables e below (s₁.setTop (mkF m 60 #[.val (.int p1), .val (.int ((p1 ||| (32 : Int32)) - (97 : Int32))), .val (.int (p1 - (48 : Int32))), .val (.int (0 : Int32)), .val (.int (1 : Int32))] [(.int (1 : Int32))])) t → Steps p.tables e below (s₁.setTop (entryFrame m #[(.int p1)] 5)) t := fun t kt => P9 t (by
          show Steps p.tables e below (s₁.setTop (mkF m 36 #[.val (.int p1), .val (.int ((p1 ||| (32 : Int32)) - (97 : Int32))), .val (.int (p1 - (48 : Int32))), .val (.int (0 : Int32)), .unset] [(.int (10 : Int32)), (.int (p1 - (48 : Int32)))])) _
          refine XS.icmpNo X0.here hx rfl (hb hby d2_36) rfl (XT.ii_ge_f hc36_8) ?_
          show Steps p.tables e below (s₁.setTop (mkF m 39 #[.val (.int p1), .val (.int ((p1 ||| (32 : Int32)) - (97 : Int32))), .val (.int (p1 - (48 : Int32))), .val (.int (0 : Int32)), .unset] [])) _
          refine XS.iconst X0.here hx rfl (hb hby d2_39) ?_
          show Steps p.tables e below (s₁.setTop (mkF m 40 #[.val (.int p1), .val (.int ((p1 ||| (32 : Int32)) - (97 : Int32))), .val (.int (p1 - (48 : Int32))), .val (.int (0 : Int32)), .unset] [(.int (1 : Int32))])) _
          refine XS.goto X0.here hx rfl (pc0 := 40) (pc' := 44) rfl (hb hby d2_40) (by decide) (by decide) ?_
          show Steps p.tables e below (s₁.setTop (mkF m 44 #[.val (.int p1), .val (.int ((p1 ||| (32 : Int32)) - (97 : Int32))), .val (.int (p1 - (48 : Int32))), .val (.int (0 : Int32)), .unset] [(.int (1 : Int32))])) _
          refine XS.istore X0.here hx rfl (hb hby d2_44) rfl (l' := #[.val (.int p1), .val (.int ((p1 ||| (32 : Int32)) - (97 : Int32))), .val (.int (p1 - (48 : Int32))), .val (.int (0 : Int32)), .val (.int (1 : Int32))]) rfl ?_
          show Steps p.tables e below (s₁.setTop (mkF m 46 #[.val (.int p1), .val (.int ((p1 ||| (32 : Int32)) - (97 : Int32))), .val (.int (p1 - (48 : Int32))), .val (.int (0 : Int32)), .val (.int (1 : Int32))] [])) _
          refine XS.iloadN X0.here hx rfl (hb hby d2_46) rfl ?_
          show Steps p.tables e below (s₁.setTop (mkF m 47 #[.val (.int p1), .val (.int ((p1 ||| (32 : Int32)) - (97 : Int32))), .val (.int (p1 - (48 : Int32))), .val (.int (0 : Int32)), .val (.int (1 : Int32))] [(.int (0 : Int32))])) _
          refine XS.ifNo X0.here hx rfl (hb hby d2_47) rfl (XT.i0_ne_f hc47_10) ?_
          show Steps p.tables e below (s₁.setTop (mkF m 50 #[.val (.int p1), .val (.int ((p1 ||| (32 : Int32)) - (97 : Int32))), .val (.int (p1 - (48 : Int32))), .val (.int (0 : Int32)), .val (.int (1 : Int32))] [])) _
          refine XS.iload X0.here hx rfl (hb hby d2_50) rfl ?_
          show Steps p.tables e below (s₁.setTop (mkF m 52 #[.val (.int p1), .val (.int ((p1 ||| (32 : Int32)) - (97 : Int32))), .val (.int (p1 - (48 : Int32))), .val (.int (0 : Int32)), .val (.int (1 : Int32))] [(.int (1 : Int32))])) _
          refine XS.ifNo X0.here hx rfl (hb hby d2_52) rfl (XT.i0_eq_f hc52_11) ?_
          show Steps p.tables e below (s₁.setTop (mkF m 55 #[.val (.int p1), .val (.int ((p1 ||| (32 : Int32)) - (97 : Int32))), .val (.int (p1 - (48 : Int32))), .val (.int (0 : Int32)), .val (.int (1 : Int32))] [])) _
          refine XS.iconst X0.here hx rfl (hb hby d2_55) ?_
          show Steps p.tables e below (s₁.setTop (mkF m 56 #[.val (.int p1), .val (.int ((p1 ||| (32 : Int32)) - (97 : Int32))), .val (.int (p1 - (48 : Int32))), .val (.int (0 : Int32)), .val (.int (1 : Int32))] [(.int (1 : Int32))])) _
          refine XS.goto X0.here hx rfl (pc0 := 56) (pc' := 60) rfl (hb hby d2_56) (by decide) (by decide) ?_
          exact kt)
        obtain ⟨fs, hr, hrun, hended, hW, hsame⟩ := X0.leave (v := some (.int (1 : Int32))) (fun h => by rw [Bd.returns] at h; cases h)
        refine ⟨_, _, P12 _ ?_, hrun, hended, _, _, rfl, ?_, ⟨_, rfl⟩, hW, hsame.mono (by decide) (by decide)⟩
        · exact retN X0 hx (t := .boolean) Bd.returns (by simp) (hb hby d2_60) hr
        · show Q2 Z p1 h0 n0 _ s₁.heap _
          rw [e0]
          exact ⟨by simp [own_refc, hc14_1, hc30_3, hc36_8, hc47_10, hc52_11], N0, rfl⟩
      · skip
        have hc47_13 : (0 : Int32) = (0 : Int32) := rfl
        have hc52_14 : (0 : Int32) = (0 : Int32) := rfl
        have P15 : ∀ t, Steps p.tables e below (s₁.setTop (mkF m 60 #[.val (.int p1), .val (.int ((p1 ||| (32 : Int32)) - (97 : Int32))), .val (.int (p1 - (48 : Int32))), .val (.int (0 : Int32)), .val (.int (0 : Int32))] [(.int (0 : Int32))])) t → Steps p.tables e below (s₁.setTop (entryFrame m #[(.int p1)] 5)) t := fun t kt => P9 t (by
          show Steps p.tables e below (s₁.setTop (mkF m 36 #[.val (.int p1), .val (.int ((p1 ||| (32 : Int32)) - (97 : Int32))), .val (.int (p1 - (48 : Int32))), .val (.int (0 : Int32)), .unset] [(.int (10 : Int32)), (.int (p1 - (48 : Int32)))])) _
          refine XS.icmpYes X0.here hx rfl (pc0 := 36) (pc' := 43) rfl (hb hby d2_36) rfl (XT.ii_ge_t hc36_8) (by decide) (by decide) ?_
          show Steps p.tables e below (s₁.setTop (mkF m 43 #[.val (.int p1), .val (.int ((p1 ||| (32 : Int32)) - (97 : Int32))), .val (.int (p1 - (48 : Int32))), .val (.int (0 : Int32)), .unset] [])) _
          refine XS.iconst X0.here hx rfl (hb hby d2_43) ?_
          show Steps p.tables e below (s₁.setTop (mkF m 44 #[.val (.int p1), .val (.int ((p1 ||| (32 : Int32)) - (97 : Int32))), .val (.int (p1 - (48 : Int32))), .val (.int (0 : Int32)), .unset] [(.int (0 : Int32))])) _
          refine XS.istore X0.here hx rfl (hb hby d2_44) rfl (l' := #[.val (.int p1), .val (.int ((p1 ||| (32 : Int32)) - (97 : Int32))), .val (.int (p1 - (48 : Int32))), .val (.int (0 : Int32)), .val (.int (0 : Int32))]) rfl ?_
          show Steps p.tables e below (s₁.setTop (mkF m 46 #[.val (.int p1), .val (.int ((p1 ||| (32 : Int32)) - (97 : Int32))), .val (.int (p1 - (48 : Int32))), .val (.int (0 : Int32)), .val (.int (0 : Int32))] [])) _
          refine XS.iloadN X0.here hx rfl (hb hby d2_46) rfl ?_
          show Steps p.tables e below (s₁.setTop (mkF m 47 #[.val (.int p1), .val (.int ((p1 ||| (32 : Int32)) - (97 : Int32))), .val (.int (p1 - (48 : Int32))), .val (.int (0 : Int32)), .val (.int (0 : Int32))] [(.int (0 : Int32))])) _
          refine XS.ifNo X0.here hx rfl (hb hby d2_47) rfl (XT.i0_ne_f hc47_13) ?_
          show Steps p.tables e below (s₁.setTop (mkF m 50 #[.val (.int p1), .val (.int ((p1 ||| (32 : Int32)) - (97 : Int32))), .val (.int (p1 - (48 : Int32))), .val (.int (0 : Int32)), .val (.int (0 : Int32))] [])) _
          refine XS.iload X0.here hx rfl (hb hby d2_50) rfl ?_
          show Steps p.tables e below (s₁.setTop (mkF m 52 #[.val (.int p1), .val (.int ((p1 ||| (32 : Int32)) - (97 : Int32))), .val (.int (p1 - (48 : Int32))), .val (.int (0 : Int32)), .val (.int (0 : Int32))] [(.int (0 : Int32))])) _
          refine XS.ifYes X0.here hx rfl (pc0 := 52) (pc' := 59) rfl (hb hby d2_52) rfl (XT.i0_eq_t hc52_14) (by decide) (by decide) ?_
          show Steps p.tables e below (s₁.setTop (mkF m 59 #[.val (.int p1), .val (.int ((p1 ||| (32 : Int32)) - (97 : Int32))), .val (.int (p1 - (48 : Int32))), .val (.int (0 : Int32)), .val (.int (0 : Int32))] [])) _
          refine XS.iconst X0.here hx rfl (hb hby d2_59) ?_
          exact kt)
        obtain ⟨fs, hr, hrun, hended, hW, hsame⟩ := X0.leave (v := some (.int (0 : Int32))) (fun h => by rw [Bd.returns] at h; cases h)
        refine ⟨_, _, P15 _ ?_, hrun, hended, _, _, rfl, ?_, ⟨_, rfl⟩, hW, hsame.mono (by decide) (by decide)⟩
        · exact retN X0 hx (t := .boolean) Bd.returns (by simp) (hb hby d2_60) hr
        · show Q2 Z p1 h0 n0 _ s₁.heap _
          rw [e0]
          exact ⟨by simp [own_refc, hc14_1, hc30_3, hc36_8, hc47_13, hc52_14], N0, rfl⟩
  · skip
    have P17 : ∀ t, Steps p.tables e below (s₁.setTop (mkF m 20 #[.val (.int p1), .val (.int ((p1 ||| (32 : Int32)) - (97 : Int32))), .val (.int (p1 - (48 : Int32))), .unset, .unset] [(.int (26 : Int32)), (.int ((p1 ||| (32 : Int32)) - (97 : Int32)))])) t → Steps p.tables e below (s₁.setTop (entryFrame m #[(.int p1)] 5)) t := fun t kt => P2 t (by
      show Steps p.tables e below (s₁.setTop (mkF m 14 #[.val (.int p1), .val (.int ((p1 ||| (32 : Int32)) - (97 : Int32))), .val (.int (p1 - (48 : Int32))), .unset, .unset] [(.int ((p1 ||| (32 : Int32)) - (97 : Int32)))])) _
      refine XS.ifNo X0.here hx rfl (hb hby d2_14) rfl (XT.i0_lt_f hc14_1) ?_
      show Steps p.tables e below (s₁.setTop (mkF m 17 #[.val (.int p1), .val (.int ((p1 ||| (32 : Int32)) - (97 : Int32))), .val (.int (p1 - (48 : Int32))), .unset, .unset] [])) _
      refine XS.iloadN X0.here hx rfl (hb hby d2_17) rfl ?_
      show Steps p.tables e below (s₁.setTop (mkF m 18 #[.val (.int p1), .val (.int ((p1 ||| (32 : Int32)) - (97 : Int32))), .val (.int (p1 - (48 : Int32))), .unset, .unset] [(.int ((p1 ||| (32 : Int32)) - (97 : Int32)))])) _
      refine XS.bipush X0.here hx rfl (hb hby d2_18) ?_
      exact kt)
    by_cases hc20_16 : ((p1 ||| (32 : Int32)) - (97 : Int32)) < (26 : Int32)
    · skip
      have P19 : ∀ t, Steps p.tables e below (s₁.setTop (mkF m 30 #[.val (.int p1), .val (.int ((p1 ||| (32 : Int32)) - (97 : Int32))), .val (.int (p1 - (48 : Int32))), .val (.int (1 : Int32)), .unset] [(.int (p1 - (48 : Int32)))])) t → Steps p.tables e below (s₁.setTop (entryFrame m #[(.int p1)] 5)) t := fun t kt => P17 t (by
        show Steps p.tables e below (s₁.setTop (mkF m 20 #[.val (.int p1), .val (.int ((p1 ||| (32 : Int32)) - (97 : Int32))), .val (.int (p1 - (48 : Int32))), .unset, .unset] [(.int (26 : Int32)), (.int ((p1 ||| (32 : Int32)) - (97 : Int32)))])) _
        refine XS.icmpNo X0.here hx rfl (hb hby d2_20) rfl (XT.ii_ge_f hc20_16) ?_
        show Steps p.tables e below (s₁.setTop (mkF m 23 #[.val (.int p1), .val (.int ((p1 ||| (32 : Int32)) - (97 : Int32))), .val (.int (p1 - (48 : Int32))), .unset, .unset] [])) _
        refine XS.iconst X0.here hx rfl (hb hby d2_23) ?_
        show Steps p.tables e below (s₁.setTop (mkF m 24 #[.val (.int p1), .val (.int ((p1 ||| (32 : Int32)) - (97 : Int32))), .val (.int (p1 - (48 : Int32))), .unset, .unset] [(.int (1 : Int32))])) _
        refine XS.goto X0.here hx rfl (pc0 := 24) (pc' := 28) rfl (hb hby d2_24) (by decide) (by decide) ?_
        show Steps p.tables e below (s₁.setTop (mkF m 28 #[.val (.int p1), .val (.int ((p1 ||| (32 : Int32)) - (97 : Int32))), .val (.int (p1 - (48 : Int32))), .unset, .unset] [(.int (1 : Int32))])) _
        refine XS.istoreN X0.here hx rfl (hb hby d2_28) rfl (l' := #[.val (.int p1), .val (.int ((p1 ||| (32 : Int32)) - (97 : Int32))), .val (.int (p1 - (48 : Int32))), .val (.int (1 : Int32)), .unset]) rfl ?_
        show Steps p.tables e below (s₁.setTop (mkF m 29 #[.val (.int p1), .val (.int ((p1 ||| (32 : Int32)) - (97 : Int32))), .val (.int (p1 - (48 : Int32))), .val (.int (1 : Int32)), .unset] [])) _
        refine XS.iloadN X0.here hx rfl (hb hby d2_29) rfl ?_
        exact kt)
      by_cases hc30_18 : (p1 - (48 : Int32)) < (0 : Int32)
      · skip
        have hc47_20 : ¬ ((1 : Int32) = (0 : Int32)) := by decide
        have P21 : ∀ t, Steps p.tables e below (s₁.setTop (mkF m 60 #[.val (.int p1), .val (.int ((p1 ||| (32 : Int32)) - (97 : Int32))), .val (.int (p1 - (48 : Int32))), .val (.int (1 : Int32)), .val (.int (0 : Int32))] [(.int (1 : Int32))])) t → Steps p.tables e below (s₁.setTop (entryFrame m #[(.int p1)] 5)) t := fun t kt => P19 t (by
          show Steps p.tables e below (s₁.setTop (mkF m 30 #[.val (.int p1), .val (.int ((p1 ||| (32 : Int32)) - (97 : Int32))), .val (.int (p1 - (48 : Int32))), .val (.int (1 : Int32)), .unset] [(.int (p1 - (48 : Int32)))])) _
          refine XS.ifYes X0.here hx rfl (pc0 := 30) (pc' := 43) rfl (hb hby d2_30) rfl (XT.i0_lt_t hc30_18) (by decide) (by decide) ?_
          show Steps p.tables e below (s₁.setTop (mkF m 43 #[.val (.int p1), .val (.int ((p1 ||| (32 : Int32)) - (97 : Int32))), .val (.int (p1 - (48 : Int32))), .val (.int (1 : Int32)), .unset] [])) _
          refine XS.iconst X0.here hx rfl (hb hby d2_43) ?_
          show Steps p.tables e below (s₁.setTop (mkF m 44 #[.val (.int p1), .val (.int ((p1 ||| (32 : Int32)) - (97 : Int32))), .val (.int (p1 - (48 : Int32))), .val (.int (1 : Int32)), .unset] [(.int (0 : Int32))])) _
          refine XS.istore X0.here hx rfl (hb hby d2_44) rfl (l' := #[.val (.int p1), .val (.int ((p1 ||| (32 : Int32)) - (97 : Int32))), .val (.int (p1 - (48 : Int32))), .val (.int (1 : Int32)), .val (.int (0 : Int32))]) rfl ?_
          show Steps p.tables e below (s₁.setTop (mkF m 46 #[.val (.int p1), .val (.int ((p1 ||| (32 : Int32)) - (97 : Int32))), .val (.int (p1 - (48 : Int32))), .val (.int (1 : Int32)), .val (.int (0 : Int32))] [])) _
          refine XS.iloadN X0.here hx rfl (hb hby d2_46) rfl ?_
          show Steps p.tables e below (s₁.setTop (mkF m 47 #[.val (.int p1), .val (.int ((p1 ||| (32 : Int32)) - (97 : Int32))), .val (.int (p1 - (48 : Int32))), .val (.int (1 : Int32)), .val (.int (0 : Int32))] [(.int (1 : Int32))])) _
          refine XS.ifYes X0.here hx rfl (pc0 := 47) (pc' := 55) rfl (hb hby d2_47) rfl (XT.i0_ne_t hc47_20) (by decide) (by decide) ?_
          show Steps p.tables e below (s₁.setTop (mkF m 55 #[.val (.int p1), .val (.int ((p1 ||| (32 : Int32)) - (97 : Int32))), .val (.int (p1 - (48 : Int32))), .val (.int (1 : Int32)), .val (.int (0 : Int32))] [])) _
          refine XS.iconst X0.here hx rfl (hb hby d2_55) ?_
          show Steps p.tables e below (s₁.setTop (mkF m 56 #[.val (.int p1), .val (.int ((p1 ||| (32 : Int32)) - (97 : Int32))), .val (.int (p1 - (48 : Int32))), .val (.int (1 : Int32)), .val (.int (0 : Int32))] [(.int (1 : Int32))])) _
          refine XS.goto X0.here hx rfl (pc0 := 56) (pc' := 60) rfl (hb hby d2_56) (by decide) (by decide) ?_
          exact kt)
        obtain ⟨fs, hr, hrun, hended, hW, hsame⟩ := X0.leave (v := some (.int (1 : Int32))) (fun h => by rw [Bd.returns] at h; cases h)
        refine ⟨_, _, P21 _ ?_, hrun, hended, _, _, rfl, ?_, ⟨_, rfl⟩, hW, hsame.mono (by decide) (by decide)⟩
        · exact retN X0 hx (t := .boolean) Bd.returns (by simp) (hb hby d2_60) hr
        · show Q2 Z p1 h0 n0 _ s₁.heap _
          rw [e0]
          exact ⟨by simp [own_refc, hc14_1, hc20_16, hc30_18, hc47_20], N0, rfl⟩
      · skip
        have P23 : ∀ t, Steps p.tables e below (s₁.setTop (mkF m 36 #[.val (.int p1), .val (.int ((p1 ||| (32 : Int32)) - (97 : Int32))), .val (.int (p1 - (48 : Int32))), .val (.int (1 : Int32)), .unset] [(.int (10 : Int32)), (.int (p1 - (48 : Int32)))])) t → Steps p.tables e below (s₁.setTop (entryFrame m #[(.int p1)] 5)) t := fun t kt => P19 t (by
          show Steps p.tables e below (s₁.setTop (mkF m 30 #[.val (.int p1), .val (.int ((p1 ||| (32 : Int32)) - (97 : Int32))), .val (.int (p1 - (48 : Int32))), .val (.int (1 : Int32)), .unset] [(.int (p1 - (48 : Int32)))])) _
          refine XS.ifNo X0.here hx rfl (hb hby d2_30) rfl (XT.i0_lt_f hc30_18) ?_
          show Steps p.tables e below (s₁.setTop (mkF m 33 #[.val (.int p1), .val (.int ((p1 ||| (32 : Int32)) - (97 : Int32))), .val (.int (p1 - (48 : Int32))), .val (.int (1 : Int32)), .unset] [])) _
          refine XS.iloadN X0.here hx rfl (hb hby d2_33) rfl ?_
          show Steps p.tables e below (s₁.setTop (mkF m 34 #[.val (.int p1), .val (.int ((p1 ||| (32 : Int32)) - (97 : Int32))), .val (.int (p1 - (48 : Int32))), .val (.int (1 : Int32)), .unset] [(.int (p1 - (48 : Int32)))])) _
          refine XS.bipush X0.here hx rfl (hb hby d2_34) ?_
          exact kt)
        by_cases hc36_22 : (p1 - (48 : Int32)) < (10 : Int32)
        · skip
          have hc47_24 : ¬ ((1 : Int32) = (0 : Int32)) := by decide
          have P25 : ∀ t, Steps p.tables e below (s₁.setTop (mkF m 60 #[.val (.int p1), .val (.int ((p1 ||| (32 : Int32)) - (97 : Int32))), .val (.int (p1 - (48 : Int32))), .val (.int (1 : Int32)), .val (.int (1 : Int32))] [(.int (1 : Int32))])) t → Steps p.tables e below (s₁.setTop (entryFrame m #[(.int p1)] 5)) t := fun t kt => P23 t (by
            show Steps p.tables e below (s₁.setTop (mkF m 36 #[.val (.int p1), .val (.int ((p1 ||| (32 : Int32)) - (97 : Int32))), .val (.int (p1 - (48 : Int32))), .val (.int (1 : Int32)), .unset] [(.int (10 : Int32)), (.int (p1 - (48 : Int32)))])) _
            refine XS.icmpNo X0.here hx rfl (hb hby d2_36) rfl (XT.ii_ge_f hc36_22) ?_
            show Steps p.tables e below (s₁.setTop (mkF m 39 #[.val (.int p1), .val (.int ((p1 ||| (32 : Int32)) - (97 : Int32))), .val (.int (p1 - (48 : Int32))), .val (.int (1 : Int32)), .unset] [])) _
            refine XS.iconst X0.here hx rfl (hb hby d2_39) ?_
            show Steps p.tables e below (s₁.setTop (mkF m 40 #[.val (.int p1), .val (.int ((p1 ||| (32 : Int32)) - (97 : Int32))), .val (.int (p1 - (48 : Int32))), .val (.int (1 : Int32)), .unset] [(.int (1 : Int32))])) _
            refine XS.goto X0.here hx rfl (pc0 := 40) (pc' := 44) rfl (hb hby d2_40) (by decide) (by decide) ?_
            show Steps p.tables e below (s₁.setTop (mkF m 44 #[.val (.int p1), .val (.int ((p1 ||| (32 : Int32)) - (97 : Int32))), .val (.int (p1 - (48 : Int32))), .val (.int (1 : Int32)), .unset] [(.int (1 : Int32))])) _
            refine XS.istore X0.here hx rfl (hb hby d2_44) rfl (l' := #[.val (.int p1), .val (.int ((p1 ||| (32 : Int32)) - (97 : Int32))), .val (.int (p1 - (48 : Int32))), .val (.int (1 : Int32)), .val (.int (1 : Int32))]) rfl ?_
            show Steps p.tables e below (s₁.setTop (mkF m 46 #[.val (.int p1), .val (.int ((p1 ||| (32 : Int32)) - (97 : Int32))), .val (.int (p1 - (48 : Int32))), .val (.int (1 : Int32)), .val (.int (1 : Int32))] [])) _
            refine XS.iloadN X0.here hx rfl (hb hby d2_46) rfl ?_
            show Steps p.tables e below (s₁.setTop (mkF m 47 #[.val (.int p1), .val (.int ((p1 ||| (32 : Int32)) - (97 : Int32))), .val (.int (p1 - (48 : Int32))), .val (.int (1 : Int32)), .val (.int (1 : Int32))] [(.int (1 : Int32))])) _
            refine XS.ifYes X0.here hx rfl (pc0 := 47) (pc' := 55) rfl (hb hby d2_47) rfl (XT.i0_ne_t hc47_24) (by decide) (by decide) ?_
            show Steps p.tables e below (s₁.setTop (mkF m 55 #[.val (.int p1), .val (.int ((p1 ||| (32 : Int32)) - (97 : Int32))), .val (.int (p1 - (48 : Int32))), .val (.int (1 : Int32)), .val (.int (1 : Int32))] [])) _
            refine XS.iconst X0.here hx rfl (hb hby d2_55) ?_
            show Steps p.tables e below (s₁.setTop (mkF m 56 #[.val (.int p1), .val (.int ((p1 ||| (32 : Int32)) - (97 : Int32))), .val (.int (p1 - (48 : Int32))), .val (.int (1 : Int32)), .val (.int (1 : Int32))] [(.int (1 : Int32))])) _
            refine XS.goto X0.here hx rfl (pc0 := 56) (pc' := 60) rfl (hb hby d2_56) (by decide) (by decide) ?_
            exact kt)
          obtain ⟨fs, hr, hrun, hended, hW, hsame⟩ := X0.leave (v := some (.int (1 : Int32))) (fun h => by rw [Bd.returns] at h; cases h)
          refine ⟨_, _, P25 _ ?_, hrun, hended, _, _, rfl, ?_, ⟨_, rfl⟩, hW, hsame.mono (by decide) (by decide)⟩
          · exact retN X0 hx (t := .boolean) Bd.returns (by simp) (hb hby d2_60) hr
          · show Q2 Z p1 h0 n0 _ s₁.heap _
            rw [e0]
            exact ⟨by simp [own_refc, hc14_1, hc20_16, hc30_18, hc36_22, hc47_24], N0, rfl⟩
        · skip
          have hc47_26 : ¬ ((1 : Int32) = (0 : Int32)) := by decide
          have P27 : ∀ t, Steps p.tables e below (s₁.setTop (mkF m 60 #[.val (.int p1), .val (.int ((p1 ||| (32 : Int32)) - (97 : Int32))), .val (.int (p1 - (48 : Int32))), .val (.int (1 : Int32)), .val (.int (0 : Int32))] [(.int (1 : Int32))])) t → Steps p.tables e below (s₁.setTop (entryFrame m #[(.int p1)] 5)) t := fun t kt => P23 t (by
            show Steps p.tables e below (s₁.setTop (mkF m 36 #[.val (.int p1), .val (.int ((p1 ||| (32 : Int32)) - (97 : Int32))), .val (.int (p1 - (48 : Int32))), .val (.int (1 : Int32)), .unset] [(.int (10 : Int32)), (.int (p1 - (48 : Int32)))])) _
            refine XS.icmpYes X0.here hx rfl (pc0 := 36) (pc' := 43) rfl (hb hby d2_36) rfl (XT.ii_ge_t hc36_22) (by decide) (by decide) ?_
            show Steps p.tables e below (s₁.setTop (mkF m 43 #[.val (.int p1), .val (.int ((p1 ||| (32 : Int32)) - (97 : Int32))), .val (.int (p1 - (48 : Int32))), .val (.int (1 : Int32)), .unset] [])) _
            refine XS.iconst X0.here hx rfl (hb hby d2_43) ?_
            show Steps p.tables e below (s₁.setTop (mkF m 44 #[.val (.int p1), .val (.int ((p1 ||| (32 : Int32)) - (97 : Int32))), .val (.int (p1 - (48 : Int32))), .val (.int (1 : Int32)), .unset] [(.int (0 : Int32))])) _
            refine XS.istore X0.here hx rfl (hb hby d2_44) rfl (l' := #[.val (.int p1), .val (.int ((p1 ||| (32 : Int32)) - (97 : Int32))), .val (.int (p1 - (48 : Int32))), .val (.int (1 : Int32)), .val (.int (0 : Int32))]) rfl ?_
            show Steps p.tables e below (s₁.setTop (mkF m 46 #[.val (.int p1), .val (.int ((p1 ||| (32 : Int32)) - (97 : Int32))), .val (.int (p1 - (48 : Int32))), .val (.int (1 : Int32)), .val (.int (0 : Int32))] [])) _
            refine XS.iloadN X0.here hx rfl (hb hby d2_46) rfl ?_
            show Steps p.tables e below (s₁.setTop (mkF m 47 #[.val (.int p1), .val (.int ((p1 ||| (32 : Int32)) - (97 : Int32))), .val (.int (p1 - (48 : Int32))), .val (.int (1 : Int32)), .val (.int (0 : Int32))] [(.int (1 : Int32))])) _
            refine XS.ifYes X0.here hx rfl (pc0 := 47) (pc' := 55) rfl (hb hby d2_47) rfl (XT.i0_ne_t hc47_26) (by decide) (by decide) ?_
            show Steps p.tables e below (s₁.setTop (mkF m 55 #[.val (.int p1), .val (.int ((p1 ||| (32 : Int32)) - (97 : Int32))), .val (.int (p1 - (48 : Int32))), .val (.int (1 : Int32)), .val (.int (0 : Int32))] [])) _
            refine XS.iconst X0.here hx rfl (hb hby d2_55) ?_
            show Steps p.tables e below (s₁.setTop (mkF m 56 #[.val (.int p1), .val (.int ((p1 ||| (32 : Int32)) - (97 : Int32))), .val (.int (p1 - (48 : Int32))), .val (.int (1 : Int32)), .val (.int (0 : Int32))] [(.int (1 : Int32))])) _
            refine XS.goto X0.here hx rfl (pc0 := 56) (pc' := 60) rfl (hb hby d2_56) (by decide) (by decide) ?_
            exact kt)
          obtain ⟨fs, hr, hrun, hended, hW, hsame⟩ := X0.leave (v := some (.int (1 : Int32))) (fun h => by rw [Bd.returns] at h; cases h)
          refine ⟨_, _, P27 _ ?_, hrun, hended, _, _, rfl, ?_, ⟨_, rfl⟩, hW, hsame.mono (by decide) (by decide)⟩
          · exact retN X0 hx (t := .boolean) Bd.returns (by simp) (hb hby d2_60) hr
          · show Q2 Z p1 h0 n0 _ s₁.heap _
            rw [e0]
            exact ⟨by simp [own_refc, hc14_1, hc20_16, hc30_18, hc36_22, hc47_26], N0, rfl⟩
    · skip
      have P29 : ∀ t, Steps p.tables e below (s₁.setTop (mkF m 30 #[.val (.int p1), .val (.int ((p1 ||| (32 : Int32)) - (97 : Int32))), .val (.int (p1 - (48 : Int32))), .val (.int (0 : Int32)), .unset] [(.int (p1 - (48 : Int32)))])) t → Steps p.tables e below (s₁.setTop (entryFrame m #[(.int p1)] 5)) t := fun t kt => P17 t (by
        show Steps p.tables e below (s₁.setTop (mkF m 20 #[.val (.int p1), .val (.int ((p1 ||| (32 : Int32)) - (97 : Int32))), .val (.int (p1 - (48 : Int32))), .unset, .unset] [(.int (26 : Int32)), (.int ((p1 ||| (32 : Int32)) - (97 : Int32)))])) _
        refine XS.icmpYes X0.here hx rfl (pc0 := 20) (pc' := 27) rfl (hb hby d2_20) rfl (XT.ii_ge_t hc20_16) (by decide) (by decide) ?_
        show Steps p.tables e below (s₁.setTop (mkF m 27 #[.val (.int p1), .val (.int ((p1 ||| (32 : Int32)) - (97 : Int32))), .val (.int (p1 - (48 : Int32))), .unset, .unset] [])) _
        refine XS.iconst X0.here hx rfl (hb hby d2_27) ?_
        show Steps p.tables e below (s₁.setTop (mkF m 28 #[.val (.int p1), .val (.int ((p1 ||| (32 : Int32)) - (97 : Int32))), .val (.int (p1 - (48 : Int32))), .unset, .unset] [(.int (0 : Int32))])) _
        refine XS.istoreN X0.here hx rfl (hb hby d2_28) rfl (l' := #[.val (.int p1), .val (.int ((p1 ||| (32 : Int32)) - (97 : Int32))), .val (.int (p1 - (48 : Int32))), .val (.int (0 : Int32)), .unset]) rfl ?_
        show Steps p.tables e below (s₁.setTop (mkF m 29 #[.val (.int p1), .val (.int ((p1 ||| (32 : Int32)) - (97 : Int32))), .val (.int (p1 - (48 : Int32))), .val (.int (0 : Int32)), .unset] [])) _
        refine XS.iloadN X0.here hx rfl (hb hby d2_29) rfl ?_
        exact kt)
      by_cases hc30_28 : (p1 - (48 : Int32)) < (0 : Int32)
      · skip
        have hc47_30 : (0 : Int32) = (0 : Int32) := rfl
        have hc52_31 : (0 : Int32) = (0 : Int32) := rfl
        have P32 : ∀ t, Steps p.tables e below (s₁.setTop (mkF m 60 #[.val (.int p1), .val (.int ((p1 ||| (32 : Int32)) - (97 : Int32))), .val (.int (p1 - (48 : Int32))), .val (.int (0 : Int32)), .val (.int (0 : Int32))] [(.int (0 : Int32))])) t → Steps p.tables e below (s₁.setTop (entryFrame m #[(.int p1)] 5)) t := fun t kt => P29 t (by
          show Steps p.tables e below (s₁.setTop (mkF m 30 #[.val (.int p1), .val (.int ((p1 ||| (32 : Int32)) - (97 : Int32))), .val (.int (p1 - (48 : Int32))), .val (.int (0 : Int32)), .unset] [(.int (p1 - (48 : Int32)))])) _
          refine XS.ifYes X0.here hx rfl (pc0 := 30) (pc' := 43) rfl (hb hby d2_30) rfl (XT.i0_lt_t hc30_28) (by decide) (by decide) ?_
          show Steps p.tables e below (s₁.setTop (mkF m 43 #[.val (.int p1), .val (.int ((p1 ||| (32 : Int32)) - (97 : Int32))), .val (.int (p1 - (48 : Int32))), .val (.int (0 : Int32)), .unset] [])) _
          refine XS.iconst X0.here hx rfl (hb hby d2_43) ?_
          show Steps p.tables e below (s₁.setTop (mkF m 44 #[.val (.int p1), .val (.int ((p1 ||| (32 : Int32)) - (97 : Int32))), .val (.int (p1 - (48 : Int32))), .val (.int (0 : Int32)), .unset] [(.int (0 : Int32))])) _
          refine XS.istore X0.here hx rfl (hb hby d2_44) rfl (l' := #[.val (.int p1), .val (.int ((p1 ||| (32 : Int32)) - (97 : Int32))), .val (.int (p1 - (48 : Int32))), .val (.int (0 : Int32)), .val (.int (0 : Int32))]) rfl ?_
          show Steps p.tables e below (s₁.setTop (mkF m 46 #[.val (.int p1), .val (.int ((p1 ||| (32 : Int32)) - (97 : Int32))), .val (.int (p1 - (48 : Int32))), .val (.int (0 : Int32)), .val (.int (0 : Int32))] [])) _
          refine XS.iloadN X0.here hx rfl (hb hby d2_46) rfl ?_
          show Steps p.tables e below (s₁.setTop (mkF m 47 #[.val (.int p1), .val (.int ((p1 ||| (32 : Int32)) - (97 : Int32))), .val (.int (p1 - (48 : Int32))), .val (.int (0 : Int32)), .val (.int (0 : Int32))] [(.int (0 : Int32))])) _
          refine XS.ifNo X0.here hx rfl (hb hby d2_47) rfl (XT.i0_ne_f hc47_30) ?_
          show Steps p.tables e below (s₁.setTop (mkF m 50 #[.val (.int p1), .val (.int ((p1 ||| (32 : Int32)) - (97 : Int32))), .val (.int (p1 - (48 : Int32))), .val (.int (0 : Int32)), .val (.int (0 : Int32))] [])) _
          refine XS.iload X0.here hx rfl (hb hby d2_50) rfl ?_
          show Steps p.tables e below (s₁.setTop (mkF m 52 #[.val (.int p1), .val (.int ((p1 ||| (32 : Int32)) - (97 : Int32))), .val (.int (p1 - (48 : Int32))), .val (.int (0 : Int32)), .val (.int (0 : Int32))] [(.int (0 : Int32))])) _
          refine XS.ifYes X0.here hx rfl (pc0 := 52) (pc' := 59) rfl (hb hby d2_52) rfl (XT.i0_eq_t hc52_31) (by decide) (by decide) ?_
          show Steps p.tables e below (s₁.setTop (mkF m 59 #[.val (.int p1), .val (.int ((p1 ||| (32 : Int32)) - (97 : Int32))), .val (.int (p1 - (48 : Int32))), .val (.int (0 : Int32)), .val (.int (0 : Int32))] [])) _
          refine XS.iconst X0.here hx rfl (hb hby d2_59) ?_
          exact kt)
        obtain ⟨fs, hr, hrun, hended, hW, hsame⟩ := X0.leave (v := some (.int (0 : Int32))) (fun h => by rw [Bd.returns] at h; cases h)
        refine ⟨_, _, P32 _ ?_, hrun, hended, _, _, rfl, ?_, ⟨_, rfl⟩, hW, hsame.mono (by decide) (by decide)⟩
        · exact retN X0 hx (t := .boolean) Bd.returns (by simp) (hb hby d2_60) hr
        · show Q2 Z p1 h0 n0 _ s₁.heap _
          rw [e0]
          exact ⟨by simp [own_refc, hc14_1, hc20_16, hc30_28, hc47_30, hc52_31], N0, rfl⟩
      · skip
        have P34 : ∀ t, Steps p.tables e below (s₁.setTop (mkF m 36 #[.val (.int p1), .val (.int ((p1 ||| (32 : Int32)) - (97 : Int32))), .val (.int (p1 - (48 : Int32))), .val (.int (0 : Int32)), .unset] [(.int (10 : Int32)), (.int (p1 - (48 : Int32)))])) t → Steps p.tables e below (s₁.setTop (entryFrame m #[(.int p1)] 5)) t := fun t kt => P29 t (by
          show Steps p.tables e below (s₁.setTop (mkF m 30 #[.val (.int p1), .val (.int ((p1 ||| (32 : Int32)) - (97 : Int32))), .val (.int (p1 - (48 : Int32))), .val (.int (0 : Int32)), .unset] [(.int (p1 - (48 : Int32)))])) _
          refine XS.ifNo X0.here hx rfl (hb hby d2_30) rfl (XT.i0_lt_f hc30_28) ?_
          show Steps p.tables e below (s₁.setTop (mkF m 33 #[.val (.int p1), .val (.int ((p1 ||| (32 : Int32)) - (97 : Int32))), .val (.int (p1 - (48 : Int32))), .val (.int (0 : Int32)), .unset] [])) _
          refine XS.iloadN X0.here hx rfl (hb hby d2_33) rfl ?_
          show Steps p.tables e below (s₁.setTop (mkF m 34 #[.val (.int p1), .val (.int ((p1 ||| (32 : Int32)) - (97 : Int32))), .val (.int (p1 - (48 : Int32))), .val (.int (0 : Int32)), .unset] [(.int (p1 - (48 : Int32)))])) _
          refine XS.bipush X0.here hx rfl (hb hby d2_34) ?_
          exact kt)
        by_cases hc36_33 : (p1 - (48 : Int32)) < (10 : Int32)
        · skip
          have hc47_35 : (0 : Int32) = (0 : Int32) := rfl
          have hc52_36 : ¬ ((1 : Int32) = (0 : Int32)) := by decide
          have P37 : ∀ t, Steps p.tables e below (s₁.setTop (mkF m 60 #[.val (.int p1), .val (.int ((p1 ||| (32 : Int32)) - (97 : Int32))), .val (.int (p1 - (48 : Int32))), .val (.int (0 : Int32)), .val (.int (1 : Int32))] [(.int (1 : Int32))])) t → Steps p.tables e below (s₁.setTop (entryFrame m #[(.int p1)] 5)) t := fun t kt => P34 t (by
            show Steps p.tables e below (s₁.setTop (mkF m 36 #[.val (.int p1), .val (.int ((p1 ||| (32 : Int32)) - (97 : Int32))), .val (.int (p1 - (48 : Int32))), .val (.int (0 : Int32)), .unset] [(.int (10 : Int32)), (.int (p1 - (48 : Int32)))])) _
            refine XS.icmpNo X0.here hx rfl (hb hby d2_36) rfl (XT.ii_ge_f hc36_33) ?_
            show Steps p.tables e below (s₁.setTop (mkF m 39 #[.val (.int p1), .val (.int ((p1 ||| (32 : Int32)) - (97 : Int32))), .val (.int (p1 - (48 : Int32))), .val (.int (0 : Int32)), .unset] [])) _
            refine XS.iconst X0.here hx rfl (hb hby d2_39) ?_
            show Steps p.tables e below (s₁.setTop (mkF m 40 #[.val (.int p1), .val (.int ((p1 ||| (32 : Int32)) - (97 : Int32))), .val (.int (p1 - (48 : Int32))), .val (.int (0 : Int32)), .unset] [(.int (1 : Int32))])) _
            refine XS.goto X0.here hx rfl (pc0 := 40) (pc' := 44) rfl (hb hby d2_40) (by decide) (by decide) ?_
            show Steps p.tables e below (s₁.setTop (mkF m 44 #[.val (.int p1), .val (.int ((p1 ||| (32 : Int32)) - (97 : Int32))), .val (.int (p1 - (48 : Int32))), .val (.int (0 : Int32)), .unset] [(.int (1 : Int32))])) _
            refine XS.istore X0.here hx rfl (hb hby d2_44) rfl (l' := #[.val (.int p1), .val (.int ((p1 ||| (32 : Int32)) - (97 : Int32))), .val (.int (p1 - (48 : Int32))), .val (.int (0 : Int32)), .val (.int (1 : Int32))]) rfl ?_
            show Steps p.tables e below (s₁.setTop (mkF m 46 #[.val (.int p1), .val (.int ((p1 ||| (32 : Int32)) - (97 : Int32))), .val (.int (p1 - (48 : Int32))), .val (.int (0 : Int32)), .val (.int (1 : Int32))] [])) _
            refine XS.iloadN X0.here hx rfl (hb hby d2_46) rfl ?_
            show Steps p.tables e below (s₁.setTop (mkF m 47 #[.val (.int p1), .val (.int ((p1 ||| (32 : Int32)) - (97 : Int32))), .val (.int (p1 - (48 : Int32))), .val (.int (0 : Int32)), .val (.int (1 : Int32))] [(.int (0 : Int32))])) _
            refine XS.ifNo X0.here hx rfl (hb hby d2_47) rfl (XT.i0_ne_f hc47_35) ?_
            show Steps p.tables e below (s₁.setTop (mkF m 50 #[.val (.int p1), .val (.int ((p1 ||| (32 : Int32)) - (97 : Int32))), .val (.int (p1 - (48 : Int32))), .val (.int (0 : Int32)), .val (.int (1 : Int32))] [])) _
            refine XS.iload X0.here hx rfl (hb hby d2_50) rfl ?_
            show Steps p.tables e below (s₁.setTop (mkF m 52 #[.val (.int p1), .val (.int ((p1 ||| (32 : Int32)) - (97 : Int32))), .val (.int (p1 - (48 : Int32))), .val (.int (0 : Int32)), .val (.int (1 : Int32))] [(.int (1 : Int32))])) _
            refine XS.ifNo X0.here hx rfl (hb hby d2_52) rfl (XT.i0_eq_f hc52_36) ?_
            show Steps p.tables e below (s₁.setTop (mkF m 55 #[.val (.int p1), .val (.int ((p1 ||| (32 : Int32)) - (97 : Int32))), .val (.int (p1 - (48 : Int32))), .val (.int (0 : Int32)), .val (.int (1 : Int32))] [])) _
            refine XS.iconst X0.here hx rfl (hb hby d2_55) ?_
            show Steps p.tables e below (s₁.setTop (mkF m 56 #[.val (.int p1), .val (.int ((p1 ||| (32 : Int32)) - (97 : Int32))), .val (.int (p1 - (48 : Int32))), .val (.int (0 : Int32)), .val (.int (1 : Int32))] [(.int (1 : Int32))])) _
            refine XS.goto X0.here hx rfl (pc0 := 56) (pc' := 60) rfl (hb hby d2_56) (by decide) (by decide) ?_
            exact kt)
          obtain ⟨fs, hr, hrun, hended, hW, hsame⟩ := X0.leave (v := some (.int (1 : Int32))) (fun h => by rw [Bd.returns] at h; cases h)
          refine ⟨_, _, P37 _ ?_, hrun, hended, _, _, rfl, ?_, ⟨_, rfl⟩, hW, hsame.mono (by decide) (by decide)⟩
          · exact retN X0 hx (t := .boolean) Bd.returns (by simp) (hb hby d2_60) hr
          · show Q2 Z p1 h0 n0 _ s₁.heap _
            rw [e0]
            exact ⟨by simp [own_refc, hc14_1, hc20_16, hc30_28, hc36_33, hc47_35, hc52_36], N0, rfl⟩
        · skip
          have hc47_38 : (0 : Int32) = (0 : Int32) := rfl
          have hc52_39 : (0 : Int32) = (0 : Int32) := rfl
          have P40 : ∀ t, Steps p.tables e below (s₁.setTop (mkF m 60 #[.val (.int p1), .val (.int ((p1 ||| (32 : Int32)) - (97 : Int32))), .val (.int (p1 - (48 : Int32))), .val (.int (0 : Int32)), .val (.int (0 : Int32))] [(.int (0 : Int32))])) t → Steps p.tables e below (s₁.setTop (entryFrame m #[(.int p1)] 5)) t := fun t kt => P34 t (by
            show Steps p.tables e below (s₁.setTop (mkF m 36 #[.val (.int p1), .val (.int ((p1 ||| (32 : Int32)) - (97 : Int32))), .val (.int (p1 - (48 : Int32))), .val (.int (0 : Int32)), .unset] [(.int (10 : Int32)), (.int (p1 - (48 : Int32)))])) _
            refine XS.icmpYes X0.here hx rfl (pc0 := 36) (pc' := 43) rfl (hb hby d2_36) rfl (XT.ii_ge_t hc36_33) (by decide) (by decide) ?_
            show Steps p.tables e below (s₁.setTop (mkF m 43 #[.val (.int p1), .val (.int ((p1 ||| (32 : Int32)) - (97 : Int32))), .val (.int (p1 - (48 : Int32))), .val (.int (0 : Int32)), .unset] [])) _
            refine XS.iconst X0.here hx rfl (hb hby d2_43) ?_
            show Steps p.tables e below (s₁.setTop (mkF m 44 #[.val (.int p1), .val (.int ((p1 ||| (32 : Int32)) - (97 : Int32))), .val (.int (p1 - (48 : Int32))), .val (.int (0 : Int32)), .unset] [(.int (0 : Int32))])) _
            refine XS.istore X0.here hx rfl (hb hby d2_44) rfl (l' := #[.val (.int p1), .val (.int ((p1 ||| (32 : Int32)) - (97 : Int32))), .val (.int (p1 - (48 : Int32))), .val (.int (0 : Int32)), .val (.int (0 : Int32))]) rfl ?_
            show Steps p.tables e below (s₁.setTop (mkF m 46 #[.val (.int p1), .val (.int ((p1 ||| (32 : Int32)) - (97 : Int32))), .val (.int (p1 - (48 : Int32))), .val (.int (0 : Int32)), .val (.int (0 : Int32))] [])) _
            refine XS.iloadN X0.here hx rfl (hb hby d2_46) rfl ?_
            show Steps p.tables e below (s₁.setTop (mkF m 47 #[.val (.int p1), .val (.int ((p1 ||| (32 : Int32)) - (97 : Int32))), .val (.int (p1 - (48 : Int32))), .val (.int (0 : Int32)), .val (.int (0 : Int32))] [(.int (0 : Int32))])) _
            refine XS.ifNo X0.here hx rfl (hb hby d2_47) rfl (XT.i0_ne_f hc47_38) ?_
            show Steps p.tables e below (s₁.setTop (mkF m 50 #[.val (.int p1), .val (.int ((p1 ||| (32 : Int32)) - (97 : Int32))), .val (.int (p1 - (48 : Int32))), .val (.int (0 : Int32)), .val (.int (0 : Int32))] [])) _
            refine XS.iload X0.here hx rfl (hb hby d2_50) rfl ?_
            show Steps p.tables e below (s₁.setTop (mkF m 52 #[.val (.int p1), .val (.int ((p1 ||| (32 : Int32)) - (97 : Int32))), .val (.int (p1 - (48 : Int32))), .val (.int (0 : Int32)), .val (.int (0 : Int32))] [(.int (0 : Int32))])) _
            refine XS.ifYes X0.here hx rfl (pc0 := 52) (pc' := 59) rfl (hb hby d2_52) rfl (XT.i0_eq_t hc52_39) (by decide) (by decide) ?_
            show Steps p.tables e below (s₁.setTop (mkF m 59 #[.val (.int p1), .val (.int ((p1 ||| (32 : Int32)) - (97 : Int32))), .val (.int (p1 - (48 : Int32))), .val (.int (0 : Int32)), .val (.int (0 : Int32))] [])) _
            refine XS.iconst X0.here hx rfl (hb hby d2_59) ?_
            exact kt)
          obtain ⟨fs, hr, hrun, hended, hW, hsame⟩ := X0.leave (v := some (.int (0 : Int32))) (fun h => by rw [Bd.returns] at h; cases h)
          refine ⟨_, _, P40 _ ?_, hrun, hended, _, _, rfl, ?_, ⟨_, rfl⟩, hW, hsame.mono (by decide) (by decide)⟩
          · exact retN X0 hx (t := .boolean) Bd.returns (by simp) (hb hby d2_60) hr
          · show Q2 Z p1 h0 n0 _ s₁.heap _
            rw [e0]
            exact ⟨by simp [own_refc, hc14_1, hc20_16, hc30_28, hc36_33, hc47_38, hc52_39], N0, rfl⟩
theorem pd_0 : parseMethodDescriptor "(C)Z" = some ⟨[.char], some .boolean⟩ := by decide +kernel
theorem pd_1 : parseMethodDescriptor "(I)Z" = some ⟨[.int], some .boolean⟩ := by decide +kernel
theorem ef_rm0 (m : MethodId) (x0 : Int32) (x1 : Int32) : entryFrame m #[(.int x0), (.int x1)] maxLocals = mkF m 0 #[.val (.int x0), .val (.int x1), .unset, .unset, .unset, .unset] [] := by first | (simp [entryFrame, mkF, argsToLocals, Value.category, maxLocals]; done) | rfl
def Q0 (Z : State) (p1 : Int32) (p2 : Int32) (h0 : Heap) (n0 : Nat) (v : Option Value) (h : Heap) (L : List Loc) : Prop := v = some (.int 1) ∧ Fr n0 L
set_option maxRecDepth 65536 in
set_option maxHeartbeats 40000000 in
theorem rm0 (l : Launch) (Z : State) (a0 : Array Value) (hw : ∀ d ∈ tables_1, d.before a0 Z = true) (ws : List Jvm.Cond) (p1 : Int32) (p2 : Int32) (h0 : Heap) (n0 : Nat) (Z0 : n0 ≤ h0.size) :
    MetFree l x (head1 (Jvm.Cond.code x code maxLocals ret :: ws) room_1) (fun a U => a = #[(.int p1), (.int p2)] ∧ Z.Warmed39 U.vm ∧ U.heap = h0) (fun _ _ _ _ _ => True) (fun _ U o U' => ∃ v L, o = .returned v ∧ Q0 Z p1 p2 h0 n0 v U'.heap L ∧ FrameEnd U o U' L room_1.cells room_1.slots) := by
  refine MetFree.of_bodySF (plainFor_of_name pn_1) hisR ?_
  intro p e s m args below meth c s₁ Bd hml0 hP hK
  obtain ⟨rfl, hZ, hh⟩ := hP
  have hx := Bd.exec
  have hby := Bd.bytes
  have hml : c.maxLocals = 6 := hml0
  have hown : s.vm.findClass "com/example/topmast/topmast/tokens/TokenizerIsTokenCharacterPinLaw" = some m.cls := findClass_of_methodNamed Bd.named
  have hnm := (name_of_methodNamed Bd.named Bd.method).1
  have X0 : Stand p l e room_1 s m #[(.int p1), (.int p2)] below meth c s₁ [] 0 0 := Stand.of_body Bd
  have e0 : s₁.heap = h0 := by rw [← hh, Bd.state]; rfl
  have N0 := Fr.nil n0
  have pre0 : ∀ t, Steps p.tables e below (s₁.setTop (mkF m 0 #[.val (.int p1), .val (.int p2), .unset, .unset, .unset, .unset] [])) t → Steps p.tables e below (s₁.setTop (entryFrame m #[(.int p1), (.int p2)] maxLocals)) t := fun t k => castTop (ef_rm0 m p1 p2) k
  obtain ⟨_, _, ⟨T1, L1, k1, n1⟩, -, X1, ⟨Lc1, hQ1, l1, y1, z1⟩, st1⟩ := Jvm.LawKit.callS X0 hx (y := (⟨"com/example/topmast/topmast/tokens/Tokenizer", "isTokenCharacter", "(C)Z"⟩ : MethodName)) hown (mvT hZ (hw _ (List.mem_of_getElem? (i := 1) rfl))) (mvT hZ (hw _ (List.mem_of_getElem? (i := 2) rfl))) (mvT hZ (hw _ (List.mem_of_getElem? (i := 3) rfl))) (mvT hZ (hw _ (List.mem_of_getElem? (i := 4) rfl))) (by decide) (backOf (W := 0) (rm1 l Z a0 hw [] (p1 &&& (65535 : Int32)).toUInt32.toUInt16.toUInt32.toInt32 h0 n0 Z0) hZ (hw _ (List.mem_of_getElem? (i := 4) rfl)) (hw _ (List.mem_of_getElem? (i := 3) rfl)) (by decide) (by decide)) (g := (mkF m 13 #[.val (.int p1), .val (.int p2), .val (.int (p1 &&& (65535 : Int32)).toUInt32.toUInt16.toUInt32.toInt32), .val (.int (p2 &&& (127 : Int32)).toUInt32.toUInt16.toUInt32.toInt32), .unset, .unset] [(.int (p1 &&& (65535 : Int32)).toUInt32.toUInt16.toUInt32.toInt32)])) rfl (by rw [hml]; rfl) (argsL := [(.int (p1 &&& (65535 : Int32)).toUInt32.toUInt16.toUInt32.toInt32)]) (rest := []) (lenOf pd_0 rfl) rfl (by show 2 * 0 + _ ≤ _; exact Nat.le_of_eq rfl) (hb hby at_13) (fun _ _ => ⟨rfl, e0, (by decide : 0 + 0 ≤ _), (by decide : 0 + 0 ≤ _)⟩)
  dsimp only [Pt.U, Pt.locs, Pt.cells, Pt.slots] at X1 l1 y1 z1 st1 hQ1
  subst l1 y1 z1
  obtain ⟨rfl, N1q, e1⟩ := hQ1
  have N1 := Fr.app N0 N1q
  obtain ⟨_, _, ⟨T2, L2, k2, n2⟩, -, X2, ⟨Lc2, hQ2, l2, y2, z2⟩, st2⟩ := Jvm.LawKit.callS X1 hx (y := (⟨"com/example/topmast/topmast/tokens/TokenizerIsTokenCharacterPinLaw", "reference", "(I)Z"⟩ : MethodName)) hown (mvT hZ (hw _ (List.mem_of_getElem? (i := 5) rfl))) (mvT hZ (hw _ (List.mem_of_getElem? (i := 6) rfl))) (mvT hZ (hw _ (List.mem_of_getElem? (i := 7) rfl))) (mvT hZ (hw _ (List.mem_of_getElem? (i := 8) rfl))) (by decide) (backOf (W := 1) (rm2 l Z a0 hw [] (p1 &&& (65535 : Int32)).toUInt32.toUInt16.toUInt32.toInt32 h0 n0 Z0) hZ (hw _ (List.mem_of_getElem? (i := 8) rfl)) (hw _ (List.mem_of_getElem? (i := 7) rfl)) (by decide) (by decide)) (g := (mkF m 17 #[.val (.int p1), .val (.int p2), .val (.int (p1 &&& (65535 : Int32)).toUInt32.toUInt16.toUInt32.toInt32), .val (.int (p2 &&& (127 : Int32)).toUInt32.toUInt16.toUInt32.toInt32), .unset, .unset] [(.int (p1 &&& (65535 : Int32)).toUInt32.toUInt16.toUInt32.toInt32), (.int (own_tok (p1 &&& (65535 : Int32)).toUInt32.toUInt16.toUInt32.toInt32))])) rfl (by rw [hml]; rfl) (argsL := [(.int (p1 &&& (65535 : Int32)).toUInt32.toUInt16.toUInt32.toInt32)]) (rest := [(.int (own_tok (p1 &&& (65535 : Int32)).toUInt32.toUInt16.toUInt32.toInt32))]) (lenOf pd_1 rfl) rfl (by show 2 * 0 + _ ≤ _; exact Nat.le_of_eq rfl) (hb hby at_17) (fun _ _ => ⟨rfl, e1, (by decide : 0 + 0 ≤ _), (by decide : 0 + 0 ≤ _)⟩)
  dsimp only [Pt.U, Pt.locs, Pt.cells, Pt.slots] at X2 l2 y2 z2 st2 hQ2
  subst l2 y2 z2
  obtain ⟨rfl, N2q, e2⟩ := hQ2
  have N2 := Fr.app N1 N2q
  have hc20_3 : (own_tok (p1 &&& (65535 : Int32)).toUInt32.toUInt16.toUInt32.toInt32) = (own_refc (p1 &&& (65535 : Int32)).toUInt32.toUInt16.toUInt32.toInt32) := own_eq _
  obtain ⟨_, _, ⟨T4, L4, k4, n4⟩, -, X4, ⟨Lc4, hQ4, l4, y4, z4⟩, st4⟩ := Jvm.LawKit.callS X2 hx (y := (⟨"com/example/topmast/topmast/tokens/Tokenizer", "isTokenCharacter", "(C)Z"⟩ : MethodName)) hown (mvT hZ (hw _ (List.mem_of_getElem? (i := 1) rfl))) (mvT hZ (hw _ (List.mem_of_getElem? (i := 2) rfl))) (mvT hZ (hw _ (List.mem_of_getElem? (i := 3) rfl))) (mvT hZ (hw _ (List.mem_of_getElem? (i := 4) rfl))) (by decide) (backOf (W := 0) (rm1 l Z a0 hw [] (p2 &&& (127 : Int32)).toUInt32.toUInt16.toUInt32.toInt32 h0 n0 Z0) hZ (hw _ (List.mem_of_getElem? (i := 4) rfl)) (hw _ (List.mem_of_getElem? (i := 3) rfl)) (by decide) (by decide)) (g := (mkF m 31 #[.val (.int p1), .val (.int p2), .val (.int (p1 &&& (65535 : Int32)).toUInt32.toUInt16.toUInt32.toInt32), .val (.int (p2 &&& (127 : Int32)).toUInt32.toUInt16.toUInt32.toInt32), .val (.int (1 : Int32)), .unset] [(.int (p2 &&& (127 : Int32)).toUInt32.toUInt16.toUInt32.toInt32)])) rfl (by rw [hml]; rfl) (argsL := [(.int (p2 &&& (127 : Int32)).toUInt32.toUInt16.toUInt32.toInt32)]) (rest := []) (lenOf pd_0 rfl) rfl (by show 2 * 0 + _ ≤ _; exact Nat.le_of_eq rfl) (hb hby at_31) (fun _ _ => ⟨rfl, e2, (by decide : 0 + 0 ≤ _), (by decide : 0 + 0 ≤ _)⟩)
  dsimp only [Pt.U, Pt.locs, Pt.cells, Pt.slots] at X4 l4 y4 z4 st4 hQ4
  subst l4 y4 z4
  obtain ⟨rfl, N4q, e4⟩ := hQ4
  have N4 := Fr.app N2 N4q
  obtain ⟨_, _, ⟨T5, L5, k5, n5⟩, -, X5, ⟨Lc5, hQ5, l5, y5, z5⟩, st5⟩ := Jvm.LawKit.callS X4 hx (y := (⟨"com/example/topmast/topmast/tokens/TokenizerIsTokenCharacterPinLaw", "reference", "(I)Z"⟩ : MethodName)) hown (mvT hZ (hw _ (List.mem_of_getElem? (i := 5) rfl))) (mvT hZ (hw _ (List.mem_of_getElem? (i := 6) rfl))) (mvT hZ (hw _ (List.mem_of_getElem? (i := 7) rfl))) (mvT hZ (hw _ (List.mem_of_getElem? (i := 8) rfl))) (by decide) (backOf (W := 1) (rm2 l Z a0 hw [] (p2 &&& (127 : Int32)).toUInt32.toUInt16.toUInt32.toInt32 h0 n0 Z0) hZ (hw _ (List.mem_of_getElem? (i := 8) rfl)) (hw _ (List.mem_of_getElem? (i := 7) rfl)) (by decide) (by decide)) (g := (mkF m 35 #[.val (.int p1), .val (.int p2), .val (.int (p1 &&& (65535 : Int32)).toUInt32.toUInt16.toUInt32.toInt32), .val (.int (p2 &&& (127 : Int32)).toUInt32.toUInt16.toUInt32.toInt32), .val (.int (1 : Int32)), .unset] [(.int (p2 &&& (127 : Int32)).toUInt32.toUInt16.toUInt32.toInt32), (.int (own_tok (p2 &&& (127 : Int32)).toUInt32.toUInt16.toUInt32.toInt32))])) rfl (by rw [hml]; rfl) (argsL := [(.int (p2 &&& (127 : Int32)).toUInt32.toUInt16.toUInt32.toInt32)]) (rest := [(.int (own_tok (p2 &&& (127 : Int32)).toUInt32.toUInt16.toUInt32.toInt32))]) (lenOf pd_1 rfl) rfl (by show 2 * 0 + _ ≤ _; exact Nat.le_of_eq rfl) (hb hby at_35) (fun _ _ => ⟨rfl, e4, (by decide : 0 + 0 ≤ _), (by decide : 0 + 0 ≤ _)⟩)
  dsimp only [Pt.U, Pt.locs, Pt.cells, Pt.slots] at X5 l5 y5 z5 st5 hQ5
  subst l5 y5 z5
  obtain ⟨rfl, N5q, e5⟩ := hQ5
  have N5 := Fr.app N4 N5q
  have hc38_6 : (own_tok (p2 &&& (127 : Int32)).toUInt32.toUInt16.toUInt32.toInt32) = (own_refc (p2 &&& (127 : Int32)).toUInt32.toUInt16.toUInt32.toInt32) := own_eq _
  have hc50_7 : ¬ ((1 : Int32) = (0 : Int32)) := by decide
  have hc55_8 : ¬ ((1 : Int32) = (0 : Int32)) := by decide
  have P9 : ∀ t, Steps p.tables e below (T5.setTop (mkF m 63 #[.val (.int p1), .val (.int p2), .val (.int (p1 &&& (65535 : Int32)).toUInt32.toUInt16.toUInt32.toInt32), .val (.int (p2 &&& (127 : Int32)).toUInt32.toUInt16.toUInt32.toInt32), .val (.int (1 : Int32)), .val (.int (1 : Int32))] [(.int (1 : Int32))])) t → Steps p.tables e below (s₁.setTop (entryFrame m #[(.int p1), (.int p2)] maxLocals)) t := fun t kt => pre0 t (by
    show Steps p.tables e below (s₁.setTop (mkF m 0 #[.val (.int p1), .val (.int p2), .unset, .unset, .unset, .unset] [])) _
    refine XS.iloadN X0.here hx rfl (hb hby at_0) rfl ?_
    show Steps p.tables e below (s₁.setTop (mkF m 1 #[.val (.int p1), .val (.int p2), .unset, .unset, .unset, .unset] [(.int p1)])) _
    refine X0.ldcI hx hown (mvT hZ (hw _ (List.mem_of_getElem? (i := 0) rfl))) rfl (hb hby at_1) ?_
    show Steps p.tables e below (s₁.setTop (mkF m 3 #[.val (.int p1), .val (.int p2), .unset, .unset, .unset, .unset] [(.int (65535 : Int32)), (.int p1)])) _
    refine XS.iand X0.here hx rfl (hb hby at_3) rfl ?_
    show Steps p.tables e below (s₁.setTop (mkF m 4 #[.val (.int p1), .val (.int p2), .unset, .unset, .unset, .unset] [(.int (p1 &&& (65535 : Int32)))])) _
    refine XT.i2c X0.here hx rfl (hb hby at_4) rfl ?_
    show Steps p.tables e below (s₁.setTop (mkF m 5 #[.val (.int p1), .val (.int p2), .unset, .unset, .unset, .unset] [(.int (p1 &&& (65535 : Int32)).toUInt32.toUInt16.toUInt32.toInt32)])) _
    refine XS.istoreN X0.here hx rfl (hb hby at_5) rfl (l' := #[.val (.int p1), .val (.int p2), .val (.int (p1 &&& (65535 : Int32)).toUInt32.toUInt16.toUInt32.toInt32), .unset, .unset, .unset]) rfl ?_
    show Steps p.tables e below (s₁.setTop (mkF m 6 #[.val (.int p1), .val (.int p2), .val (.int (p1 &&& (65535 : Int32)).toUInt32.toUInt16.toUInt32.toInt32), .unset, .unset, .unset] [])) _
    refine XS.iloadN X0.here hx rfl (hb hby at_6) rfl ?_
    show Steps p.tables e below (s₁.setTop (mkF m 7 #[.val (.int p1), .val (.int p2), .val (.int (p1 &&& (65535 : Int32)).toUInt32.toUInt16.toUInt32.toInt32), .unset, .unset, .unset] [(.int p2)])) _
    refine XS.bipush X0.here hx rfl (hb hby at_7) ?_
    show Steps p.tables e below (s₁.setTop (mkF m 9 #[.val (.int p1), .val (.int p2), .val (.int (p1 &&& (65535 : Int32)).toUInt32.toUInt16.toUInt32.toInt32), .unset, .unset, .unset] [(.int (127 : Int32)), (.int p2)])) _
    refine XS.iand X0.here hx rfl (hb hby at_9) rfl ?_
    show Steps p.tables e below (s₁.setTop (mkF m 10 #[.val (.int p1), .val (.int p2), .val (.int (p1 &&& (65535 : Int32)).toUInt32.toUInt16.toUInt32.toInt32), .unset, .unset, .unset] [(.int (p2 &&& (127 : Int32)))])) _
    refine XT.i2c X0.here hx rfl (hb hby at_10) rfl ?_
    show Steps p.tables e below (s₁.setTop (mkF m 11 #[.val (.int p1), .val (.int p2), .val (.int (p1 &&& (65535 : Int32)).toUInt32.toUInt16.toUInt32.toInt32), .unset, .unset, .unset] [(.int (p2 &&& (127 : Int32)).toUInt32.toUInt16.toUInt32.toInt32)])) _
    refine XS.istoreN X0.here hx rfl (hb hby at_11) rfl (l' := #[.val (.int p1), .val (.int p2), .val (.int (p1 &&& (65535 : Int32)).toUInt32.toUInt16.toUInt32.toInt32), .val (.int (p2 &&& (127 : Int32)).toUInt32.toUInt16.toUInt32.toInt32), .unset, .unset]) rfl ?_
    show Steps p.tables e below (s₁.setTop (mkF m 12 #[.val (.int p1), .val (.int p2), .val (.int (p1 &&& (65535 : Int32)).toUInt32.toUInt16.toUInt32.toInt32), .val (.int (p2 &&& (127 : Int32)).toUInt32.toUInt16.toUInt32.toInt32), .unset, .unset] [])) _
    refine XS.iloadN X0.here hx rfl (hb hby at_12) rfl ?_
    show Steps p.tables e below (s₁.setTop (mkF m 13 #[.val (.int p1), .val (.int p2), .val (.int (p1 &&& (65535 : Int32)).toUInt32.toUInt16.toUInt32.toInt32), .val (.int (p2 &&& (127 : Int32)).toUInt32.toUInt16.toUInt32.toInt32), .unset, .unset] [(.int (p1 &&& (65535 : Int32)).toUInt32.toUInt16.toUInt32.toInt32)])) _
    refine st1 _ ?_
    show Steps p.tables e below (T1.setTop (mkF m 16 #[.val (.int p1), .val (.int p2), .val (.int (p1 &&& (65535 : Int32)).toUInt32.toUInt16.toUInt32.toInt32), .val (.int (p2 &&& (127 : Int32)).toUInt32.toUInt16.toUInt32.toInt32), .unset, .unset] [(.int (own_tok (p1 &&& (65535 : Int32)).toUInt32.toUInt16.toUInt32.toInt32))])) _
    refine XS.iloadN X1.here hx rfl (hb hby at_16) rfl ?_
    show Steps p.tables e below (T1.setTop (mkF m 17 #[.val (.int p1), .val (.int p2), .val (.int (p1 &&& (65535 : Int32)).toUInt32.toUInt16.toUInt32.toInt32), .val (.int (p2 &&& (127 : Int32)).toUInt32.toUInt16.toUInt32.toInt32), .unset, .unset] [(.int (p1 &&& (65535 : Int32)).toUInt32.toUInt16.toUInt32.toInt32), (.int (own_tok (p1 &&& (65535 : Int32)).toUInt32.toUInt16.toUInt32.toInt32))])) _
    refine st2 _ ?_
    show Steps p.tables e below (T2.setTop (mkF m 20 #[.val (.int p1), .val (.int p2), .val (.int (p1 &&& (65535 : Int32)).toUInt32.toUInt16.toUInt32.toInt32), .val (.int (p2 &&& (127 : Int32)).toUInt32.toUInt16.toUInt32.toInt32), .unset, .unset] [(.int (own_refc (p1 &&& (65535 : Int32)).toUInt32.toUInt16.toUInt32.toInt32)), (.int (own_tok (p1 &&& (65535 : Int32)).toUInt32.toUInt16.toUInt32.toInt32))])) _
    refine XS.icmpNo X2.here hx rfl (hb hby at_20) rfl (XT.ii_ne_f hc20_3) ?_
    show Steps p.tables e below (T2.setTop (mkF m 23 #[.val (.int p1), .val (.int p2), .val (.int (p1 &&& (65535 : Int32)).toUInt32.toUInt16.toUInt32.toInt32), .val (.int (p2 &&& (127 : Int32)).toUInt32.toUInt16.toUInt32.toInt32), .unset, .unset] [])) _
    refine XS.iconst X2.here hx rfl (hb hby at_23) ?_
    show Steps p.tables e below (T2.setTop (mkF m 24 #[.val (.int p1), .val (.int p2), .val (.int (p1 &&& (65535 : Int32)).toUInt32.toUInt16.toUInt32.toInt32), .val (.int (p2 &&& (127 : Int32)).toUInt32.toUInt16.toUInt32.toInt32), .unset, .unset] [(.int (1 : Int32))])) _
    refine XS.goto X2.here hx rfl (pc0 := 24) (pc' := 28) rfl (hb hby at_24) (by decide) (by decide) ?_
    show Steps p.tables e below (T2.setTop (mkF m 28 #[.val (.int p1), .val (.int p2), .val (.int (p1 &&& (65535 : Int32)).toUInt32.toUInt16.toUInt32.toInt32), .val (.int (p2 &&& (127 : Int32)).toUInt32.toUInt16.toUInt32.toInt32), .unset, .unset] [(.int (1 : Int32))])) _
    refine XS.istore X2.here hx rfl (hb hby at_28) rfl (l' := #[.val (.int p1), .val (.int p2), .val (.int (p1 &&& (65535 : Int32)).toUInt32.toUInt16.toUInt32.toInt32), .val (.int (p2 &&& (127 : Int32)).toUInt32.toUInt16.toUInt32.toInt32), .val (.int (1 : Int32)), .unset]) rfl ?_
    show Steps p.tables e below (T2.setTop (mkF m 30 #[.val (.int p1), .val (.int p2), .val (.int (p1 &&& (65535 : Int32)).toUInt32.toUInt16.toUInt32.toInt32), .val (.int (p2 &&& (127 : Int32)).toUInt32.toUInt16.toUInt32.toInt32), .val (.int (1 : Int32)), .unset] [])) _
    refine XS.iloadN X2.here hx rfl (hb hby at_30) rfl ?_
    show Steps p.tables e below (T2.setTop (mkF m 31 #[.val (.int p1), .val (.int p2), .val (.int (p1 &&& (65535 : Int32)).toUInt32.toUInt16.toUInt32.toInt32), .val (.int (p2 &&& (127 : Int32)).toUInt32.toUInt16.toUInt32.toInt32), .val (.int (1 : Int32)), .unset] [(.int (p2 &&& (127 : Int32)).toUInt32.toUInt16.toUInt32.toInt32)])) _
    refine st4 _ ?_
    show Steps p.tables e below (T4.setTop (mkF m 34 #[.val (.int p1), .val (.int p2), .val (.int (p1 &&& (65535 : Int32)).toUInt32.toUInt16.toUInt32.toInt32), .val (.int (p2 &&& (127 : Int32)).toUInt32.toUInt16.toUInt32.toInt32), .val (.int (1 : Int32)), .unset] [(.int (own_tok (p2 &&& (127 : Int32)).toUInt32.toUInt16.toUInt32.toInt32))])) _
    refine XS.iloadN X4.here hx rfl (hb hby at_34) rfl ?_
    show Steps p.tables e below (T4.setTop (mkF m 35 #[.val (.int p1), .val (.int p2), .val (.int (p1 &&& (65535 : Int32)).toUInt32.toUInt16.toUInt32.toInt32), .val (.int (p2 &&& (127 : Int32)).toUInt32.toUInt16.toUInt32.toInt32), .val (.int (1 : Int32)), .unset] [(.int (p2 &&& (127 : Int32)).toUInt32.toUInt16.toUInt32.toInt32), (.int (own_tok (p2 &&& (127 : Int32)).toUInt32.toUInt16.toUInt32.toInt32))])) _
    refine st5 _ ?_
    show Steps p.tables e below (T5.setTop (mkF m 38 #[.val (.int p1), .val (.int p2), .val (.int (p1 &&& (65535 : Int32)).toUInt32.toUInt16.toUInt32.toInt32), .val (.int (p2 &&& (127 : Int32)).toUInt32.toUInt16.toUInt32.toInt32), .val (.int (1 : Int32)), .unset] [(.int (own_refc (p2 &&& (127 : Int32)).toUInt32.toUInt16.toUInt32.toInt32)), (.int (own_tok (p2 &&& (127 : Int32)).toUInt32.toUInt16.toUInt32.toInt32))])) _
    refine XS.icmpNo X5.here hx rfl (hb hby at_38) rfl (XT.ii_ne_f hc38_6) ?_
    show Steps p.tables e below (T5.setTop (mkF m 41 #[.val (.int p1), .val (.int p2), .val (.int (p1 &&& (65535 : Int32)).toUInt32.toUInt16.toUInt32.toInt32), .val (.int (p2 &&& (127 : Int32)).toUInt32.toUInt16.toUInt32.toInt32), .val (.int (1 : Int32)), .unset] [])) _
    refine XS.iconst X5.here hx rfl (hb hby at_41) ?_
    show Steps p.tables e below (T5.setTop (mkF m 42 #[.val (.int p1), .val (.int p2), .val (.int (p1 &&& (65535 : Int32)).toUInt32.toUInt16.toUInt32.toInt32), .val (.int (p2 &&& (127 : Int32)).toUInt32.toUInt16.toUInt32.toInt32), .val (.int (1 : Int32)), .unset] [(.int (1 : Int32))])) _
    refine XS.goto X5.here hx rfl (pc0 := 42) (pc' := 46) rfl (hb hby at_42) (by decide) (by decide) ?_
    show Steps p.tables e below (T5.setTop (mkF m 46 #[.val (.int p1), .val (.int p2), .val (.int (p1 &&& (65535 : Int32)).toUInt32.toUInt16.toUInt32.toInt32), .val (.int (p2 &&& (127 : Int32)).toUInt32.toUInt16.toUInt32.toInt32), .val (.int (1 : Int32)), .unset] [(.int (1 : Int32))])) _
    refine XS.istore X5.here hx rfl (hb hby at_46) rfl (l' := #[.val (.int p1), .val (.int p2), .val (.int (p1 &&& (65535 : Int32)).toUInt32.toUInt16.toUInt32.toInt32), .val (.int (p2 &&& (127 : Int32)).toUInt32.toUInt16.toUInt32.toInt32), .val (.int (1 : Int32)), .val (.int (1 : Int32))]) rfl ?_
    show Steps p.tables e below (T5.setTop (mkF m 48 #[.val (.int p1), .val (.int p2), .val (.int (p1 &&& (65535 : Int32)).toUInt32.toUInt16.toUInt32.toInt32), .val (.int (p2 &&& (127 : Int32)).toUInt32.toUInt16.toUInt32.toInt32), .val (.int (1 : Int32)), .val (.int (1 : Int32))] [])) _
    refine XS.iload X5.here hx rfl (hb hby at_48) rfl ?_
    show Steps p.tables e below (T5.setTop (mkF m 50 #[.val (.int p1), .val (.int p2), .val (.int (p1 &&& (65535 : Int32)).toUInt32.toUInt16.toUInt32.toInt32), .val (.int (p2 &&& (127 : Int32)).toUInt32.toUInt16.toUInt32.toInt32), .val (.int (1 : Int32)), .val (.int (1 : Int32))] [(.int (1 : Int32))])) _
    refine XS.ifNo X5.here hx rfl (hb hby at_50) rfl (XT.i0_eq_f hc50_7) ?_
    show Steps p.tables e below (T5.setTop (mkF m 53 #[.val (.int p1), .val (.int p2), .val (.int (p1 &&& (65535 : Int32)).toUInt32.toUInt16.toUInt32.toInt32), .val (.int (p2 &&& (127 : Int32)).toUInt32.toUInt16.toUInt32.toInt32), .val (.int (1 : Int32)), .val (.int (1 : Int32))] [])) _
    refine XS.iload X5.here hx rfl (hb hby at_53) rfl ?_
    show Steps p.tables e below (T5.setTop (mkF m 55 #[.val (.int p1), .val (.int p2), .val (.int (p1 &&& (65535 : Int32)).toUInt32.toUInt16.toUInt32.toInt32), .val (.int (p2 &&& (127 : Int32)).toUInt32.toUInt16.toUInt32.toInt32), .val (.int (1 : Int32)), .val (.int (1 : Int32))] [(.int (1 : Int32))])) _
    refine XS.ifNo X5.here hx rfl (hb hby at_55) rfl (XT.i0_eq_f hc55_8) ?_
    show Steps p.tables e below (T5.setTop (mkF m 58 #[.val (.int p1), .val (.int p2), .val (.int (p1 &&& (65535 : Int32)).toUInt32.toUInt16.toUInt32.toInt32), .val (.int (p2 &&& (127 : Int32)).toUInt32.toUInt16.toUInt32.toInt32), .val (.int (1 : Int32)), .val (.int (1 : Int32))] [])) _
    refine XS.iconst X5.here hx rfl (hb hby at_58) ?_
    show Steps p.tables e below (T5.setTop (mkF m 59 #[.val (.int p1), .val (.int p2), .val (.int (p1 &&& (65535 : Int32)).toUInt32.toUInt16.toUInt32.toInt32), .val (.int (p2 &&& (127 : Int32)).toUInt32.toUInt16.toUInt32.toInt32), .val (.int (1 : Int32)), .val (.int (1 : Int32))] [(.int (1 : Int32))])) _
    refine XS.goto X5.here hx rfl (pc0 := 59) (pc' := 63) rfl (hb hby at_59) (by decide) (by decide) ?_
    exact kt)
  obtain ⟨fs, hr, hrun, hended, hW, hsame⟩ := X5.leave (v := some (.int (1 : Int32))) (fun h => by rw [Bd.returns] at h; cases h)
  refine ⟨_, _, P9 _ ?_, hrun, hended, _, _, rfl, ?_, ⟨_, rfl⟩, hW, hsame.mono (by decide) (by decide)⟩
  · exact retN X5 hx (t := .boolean) Bd.returns (by simp) (hb hby at_63) hr
  · show Q0 Z p1 p2 h0 n0 _ T5.heap _
    rw [e5]
    exact ⟨rfl, N5⟩
set_option maxRecDepth 65536 in
set_option maxHeartbeats 40000000 in
theorem comes_1 {Post : Tables → Env → Array Value → State → Outcome → State → Prop} (hpost : ∀ tb e args s v u, (limb_1_1.after args s (.returned v) u = true ∧ limb_1_2.after args s (.returned v) u = true ∧ True) → FrameEnd s (.returned v) u (Jvm.fieldLocs frame_1_writes args s ++ Jvm.arrayLocs frame_1_arrays args s ++ Jvm.staticLocs frame_1_statics s) 0 0 → Post tb e args s (.returned v) u) :
    ArmFor flags0 classFile x code maxLocals ret World_1 tables_1 room_1 Calls_1 rest_1 Pre_1 Post := by
  intro l hfl _ _ p e ha hc hk s m args below hf hA hF happ hP
  obtain ⟨hcalls, hrest, hpre⟩ := hP
  obtain ⟨-, -, -, hnamed, -, -, -, hat⟩ := (Spec.applies_iff hf).mp happ
  obtain ⟨hg, hn⟩ := and_e (Cond.before_iff.mp (show (Jvm.Cond.and given_1 narrow_1).before args s = true from hpre))
  obtain ⟨g1, g2⟩ := and_e hg
  obtain ⟨g3, g4⟩ := and_e g2
  obtain ⟨w0, w1, rfl⟩ : ∃ w0 w1 : Value, args = #[w0, w1] := by
    have hs : args.size = 2 := by simpa [Cond.value, given_1] using g1
    obtain ⟨L⟩ := args
    match L, hs with
    | [w0, w1], _ => exact ⟨w0, w1, rfl⟩
  have hw := fun d (hd : d ∈ tables_1) => atoms_spec (ws := Jvm.Cond.code x code maxLocals ret :: tables_1) hat d (List.mem_cons_of_mem _ hd)
  obtain ⟨i0, ei0⟩ := is_v g3
  obtain rfl : w0 = (.int i0) := Option.some.inj ei0
  obtain ⟨i1, ei1⟩ := is_v g4
  obtain rfl : w1 = (.int i1) := Option.some.inj ei1
  obtain ⟨n, o, h1, h2, h3, _, L, rfl, ⟨rfl, N⟩, hq⟩ := rm0 l s _ hw tables_1 i0 i1 s.heap s.heap.size (Nat.le_refl _) p e ha hc hk s m _ below hf ((Spec.applies_iff_loose hf).mp happ).1 ⟨rfl, State.Warmed39.refl s, rfl⟩ trivial
  refine ⟨n, _, h1, h2, h3, hpost _ _ _ _ _ _ ⟨Cond.after_iff.mpr rfl, Cond.after_iff.mpr (eq_i res_at (Term.int_eval (1)) rfl), trivial⟩ ⟨hq.1, hq.2.1, (hq.2.2.sift fun y hy => Or.inr (N y hy)).mono (by decide) (by decide)⟩⟩
theorem main_1_1 : Claimed_1_1 := comes_1 fun _ _ _ _ _ _ h hF => ⟨h.1, hF⟩
theorem main_1_2 : Claimed_1_2 := comes_1 fun _ _ _ _ _ _ h hF => ⟨h.2.1, hF⟩
end Jvm.Pilot.@@N@@
namespace Jvm.Pilot.@@N@@
open Jvm Jvm.ClassFile Sem Op Lib Jvm.Free Jvm.Stand Jvm.Pilot.@@N@@.Jvm.D
/-! MADE BY PROGRAM (witnessworld.py) out of the Statement's table words and the real class files: 9 classes; the members and pool entries that the words name. The judged class is class 1, her method 2. -/
namespace start1
open Jvm.ClassFile
def u (s : String) : CpInfo := .utf8 (stringToUtf16 s)
/-- a pool by its gaps: so many unusable entries, then the entry; so many at the end -/
def gap : Nat → List CpInfo → List CpInfo
  | 0, r => r
  | n + 1, r => .unusable :: gap n r
def poolList (es : List (Nat × CpInfo)) (last : Nat) : List CpInfo := es.foldr (fun e r => gap e.1 (e.2 :: r)) (gap last [])
def pool (es : List (Nat × CpInfo)) (last : Nat) : Array CpInfo := ⟨poolList es last⟩
def fileOf (pool : Array CpInfo) (this : Nat) (attrs : Array Attribute := #[]) (ms : Array MethodInfo := #[]) (fl : Nat := 33) (sup : Nat := 0) (ifs : Array Nat := #[]) (fds : Array FieldInfo := #[]) : ClassFile where
  minorVersion := 0
  majorVersion := 65
  constantPool := pool
  accessFlags := fl
  thisClass := this
  superClass := sup
  interfaces := ifs
  fields := fds
  methods := ms
  attributes := attrs
def plain (name : String) (sup : Option ClassId) : Class where
  name := name
  kind := .ordinary
  loader := none
  accessFlags := 33
  super := sup
  interfaces := #[]
  cf := none
  fields := #[]
  methods := #[]
  instanceTypes := #[]
  staticTypes := #[]
  resolved := #[]
  callSites := []
  init := .initialized
  statics := none
  mirror := none

def pool0 : Array CpInfo := pool [(5, u "<init>"), (0, u "()V"), (1, .class_ 10), (1, u "java/lang/Object")] 113

def k0m0 : Method := { name := "<init>", desc := "()V", sig := { parameters := [], returnType := none }, accessFlags := 1, code := none }
/-- java/lang/Object -/
def k0 : Class := { plain "java/lang/Object" none with
  accessFlags := 33
  interfaces := #[]
  cf := some (fileOf pool0 8 #[] #[{ accessFlags := 1, nameIndex := 5, descriptorIndex := 6, attributes := #[] }] 33 0 #[] #[])
  fields := #[]
  methods := #[k0m0]
  instanceTypes := #[]
  staticTypes := #[]
  resolved := Array.replicate 124 none
  statics := none }

def pool1 : Array CpInfo := pool [(2, .class_ 4), (1, u "java/lang/Object"), (0, u "<init>"), (0, u "()V"), (0, .integer 65535), (0, .methodref 9 10), (0, .class_ 11), (0, .nameAndType 12 13), (0, u "com/example/topmast/topmast/tokens/Tokenizer"), (0, u "isTokenCharacter"), (0, u "(C)Z"), (0, .methodref 15 16), (0, .class_ 17), (0, .nameAndType 18 19), (0, u "com/example/topmast/topmast/tokens/TokenizerIsTokenCharacterPinLaw"), (0, u "reference"), (0, u "(I)Z"), (3, u "law"), (0, u "(II)Z")] 2

def k1m0 : Method := { name := "<init>", desc := "()V", sig := { parameters := [], returnType := none }, accessFlags := 2, code := none }
def k1c1 : Code := { maxStack := 2, maxLocals := 5, code := method_2_code, exceptionTable := #[], attributes := #[] }
def k1m1 : Method := { name := "reference", desc := "(I)Z", sig := { parameters := [.int], returnType := some .boolean }, accessFlags := 10, code := some k1c1 }
def k1c2 : Code := { maxStack := 2, maxLocals := 6, code := code, exceptionTable := #[], attributes := #[] }
def k1m2 : Method := { name := "law", desc := "(II)Z", sig := { parameters := [.int, .int], returnType := some .boolean }, accessFlags := 9, code := some k1c2 }
/-- com/example/topmast/topmast/tokens/TokenizerIsTokenCharacterPinLaw -/
def k1 : Class := { plain "com/example/topmast/topmast/tokens/TokenizerIsTokenCharacterPinLaw" (some 0) with
  accessFlags := 49
  interfaces := #[]
  cf := some (fileOf pool1 15 #[] #[{ accessFlags := 2, nameIndex := 5, descriptorIndex := 6, attributes := #[] }, { accessFlags := 10, nameIndex := 18, descriptorIndex := 19, attributes := #[] }, { accessFlags := 9, nameIndex := 23, descriptorIndex := 24, attributes := #[] }] 49 2 #[] #[])
  fields := #[]
  methods := #[k1m0, k1m1, k1m2]
  instanceTypes := #[]
  staticTypes := #[]
  resolved := Array.replicate 27 none
  statics := none }

def pool2 : Array CpInfo := pool [(2, .class_ 4), (1, u "java/lang/Object"), (0, u "<init>"), (0, u "()V"), (8, .class_ 17), (1, u "com/example/topmast/topmast/tokens/Tokenizer"), (14, u "isTokenCharacter"), (0, u "(C)Z"), (6, .class_ 42), (1, u "com/example/topmast/topmast/tokens/Tokenizer$TokenVisitor")] 46

def k2m0 : Method := { name := "<init>", desc := "()V", sig := { parameters := [], returnType := none }, accessFlags := 2, code := none }
def k2c1 : Code := { maxStack := 2, maxLocals := 1, code := prog_120_method_4_code, exceptionTable := #[], attributes := #[] }
def k2m1 : Method := { name := "isTokenCharacter", desc := "(C)Z", sig := { parameters := [.char], returnType := some .boolean }, accessFlags := 9, code := some k2c1 }
/-- com/example/topmast/topmast/tokens/Tokenizer -/
def k2 : Class := { plain "com/example/topmast/topmast/tokens/Tokenizer" (some 0) with
  accessFlags := 49
  interfaces := #[]
  cf := some (fileOf pool2 15 #[.nestMembers #[40]] #[{ accessFlags := 2, nameIndex := 5, descriptorIndex := 6, attributes := #[] }, { accessFlags := 9, nameIndex := 32, descriptorIndex := 33, attributes := #[] }] 49 2 #[] #[])
  fields := #[]
  methods := #[k2m0, k2m1]
  instanceTypes := #[]
  staticTypes := #[]
  resolved := Array.replicate 89 none
  statics := none }

def pool3 : Array CpInfo := pool [(1, u "java/lang/Cloneable"), (0, .class_ 1), (0, u "java/lang/Object"), (0, .class_ 3)] 3

/-- java/lang/Cloneable -/
def k3 : Class := { plain "java/lang/Cloneable" (some 0) with
  accessFlags := 1537
  interfaces := #[]
  cf := some (fileOf pool3 2 #[] #[] 1537 4 #[] #[])
  fields := #[]
  methods := #[]
  instanceTypes := #[]
  staticTypes := #[]
  resolved := Array.replicate 8 none
  statics := none }

def pool4 : Array CpInfo := pool [(1, u "java/io/Serializable"), (0, .class_ 1), (0, u "java/lang/Object"), (0, .class_ 3)] 3

/-- java/io/Serializable -/
def k4 : Class := { plain "java/io/Serializable" (some 0) with
  accessFlags := 1537
  interfaces := #[]
  cf := some (fileOf pool4 2 #[] #[] 1537 4 #[] #[])
  fields := #[]
  methods := #[]
  instanceTypes := #[]
  staticTypes := #[]
  resolved := Array.replicate 8 none
  statics := none }

/-- the primitive byte -/
def k5 : Class := { plain "byte" none with kind := .primitive 'B', accessFlags := 0x411 }
/-- [B -/
def k6 : Class := { plain "[B" (some 0) with kind := .array 5 .byte, interfaces := #[3, 4], accessFlags := 1041 }

/-- the primitive int -/
def k7 : Class := { plain "int" none with kind := .primitive 'I', accessFlags := 0x411 }
/-- [I -/
def k8 : Class := { plain "[I" (some 0) with kind := .array 7 .int, interfaces := #[3, 4], accessFlags := 1041 }

def heap : Heap := #[]
def classes : Array Class := #[k0, k1, k2, k3, k4, k5, k6, k7, k8]
def interned : List (Array UInt16 × Addr) := []
def slotsUsed : Nat := 0
def theMethod : MethodId := ⟨1, 2⟩
def args0 : Array Value := #[.int 5, .int 7]
def aboutOver (below : List Frame) : State where
  vm := { classes := classes, interned := interned.toArray }
  heap := heap
  slotsUsed := slotsUsed
  threads := #[{ frames := .invoking theMethod args0 :: below }]
def below0 : List Frame := [.native { method := ⟨0, 0⟩, args := #[] }]
def about1 : State := aboutOver below0
def p0 : Program := .bare "" "" ""
def e0 : Env := launch0.env 0 0 0
theorem w_frames : about1.frames = Frame.invoking theMethod args0 :: below0 := rfl
set_option maxRecDepth 65536 in
theorem w_args : argsFit about1.vm theMethod args0 = true := by decide +kernel
set_option maxRecDepth 65536 in
theorem w_heap : heapFits about1 = true := by decide +kernel
set_option maxRecDepth 65536 in
theorem w_runnable : about1.curStatus? = some .runnable := by decide +kernel
set_option maxRecDepth 65536 in
theorem w_alone : about1.alone = true := by decide +kernel
set_option maxRecDepth 65536 in
theorem w_named : about1.methodNamed? x = some theMethod := by decide +kernel
set_option maxRecDepth 65536 in
theorem w_hears : about1.hears theMethod below0 = true := by decide +kernel
set_option maxRecDepth 65536 in
theorem w_ripe : about1.ripe theMethod args0 below0 = true := by decide +kernel
theorem w_running : about1.status = .running := rfl
set_option maxRecDepth 65536 in
theorem w_room : about1.hasRoom e0.platform room_1 = true :=
  launch0.hasRoom_least _ room_1 (by decide +kernel) (by decide +kernel) (by decide +kernel) (by decide +kernel) (by decide +kernel) (by decide +kernel)
theorem allAtoms_all (ts : List Jvm.Cond) (a : Array Jvm.Value) (st : Jvm.State) : (allAtoms ts).before a st = ts.all (fun c => c.before a st) := by
  induction ts with
  | nil => rfl
  | cons c t ih =>
    show (Jvm.Cond.and c (allAtoms t)).before a st = _
    rw [Jvm.Cond.before_and, ih, List.all_cons]
def words1 : List Jvm.Cond := Jvm.Cond.code x code maxLocals ret :: tables_1
/-- a 'code' word, met by the world's own term for the bytes: nothing is compared byte by byte -/
theorem code_word {y : MethodName} {bytes : ByteArray} {mx : Nat} {rt : Option FieldType} {a : Array Value} {s : State} {m : MethodId} {meth : Method} {c : Code} (h1 : s.methodNamed? y = some m) (h2 : s.vm.method? m = some meth) (h3 : meth.code = some c) (h4 : c.code = bytes)
    (h5 : (c.maxLocals == mx && c.exceptionTable.isEmpty && decide (c.maxStack ≤ mostOperands) && decide (meth.sig.returnType = rt) && !meth.locks && decide (parseMethodDescriptor y.desc = some meth.sig)) = true) : (Jvm.Cond.code y bytes mx rt).before a s = true := by
  simp only [Bool.and_eq_true, beq_iff_eq, Bool.not_eq_true', decide_eq_true_eq] at h5
  obtain ⟨⟨⟨⟨⟨g1, g2⟩, g3⟩, g4⟩, g5⟩, g6⟩ := h5
  simp [Cond.before, Cond.holds, Cond.value, h1, h2, h3, h4, g1, g2, g3, g4, g5, g6]
def isCode : Jvm.Cond → Bool
  | .code _ _ _ _ => true
  | _ => false
theorem all_split {L : List Jvm.Cond} {P : Jvm.Cond → Bool} (h1 : L.all (fun c => isCode c || P c) = true) (h2 : ∀ c ∈ L.filter isCode, P c = true) : L.all P = true := by
  refine List.all_eq_true.mpr fun c hc => ?_
  have h := List.all_eq_true.mp h1 c hc
  rcases Bool.eq_false_or_eq_true (isCode c) with hi | hi
  · exact h2 c (List.mem_filter.mpr ⟨hc, hi⟩)
  · simpa [hi] using h
set_option maxRecDepth 65536 in
theorem w_c0 : (Jvm.Cond.code x code maxLocals ret).before args0 about1 = true := code_word (m := ⟨1, 2⟩) (meth := k1m2) (c := k1c2) (by decide +kernel) rfl rfl rfl (by decide +kernel)
set_option maxRecDepth 65536 in
theorem w_c1 : (Jvm.Cond.code ({ cls := "com/example/topmast/topmast/tokens/Tokenizer", name := "isTokenCharacter", desc := "(C)Z" } : Jvm.MethodName) prog_120_method_4_code (1 : Nat) (Option.some Jvm.ClassFile.FieldType.boolean)).before args0 about1 = true := code_word (m := ⟨2, 1⟩) (meth := k2m1) (c := k2c1) (by decide +kernel) rfl rfl rfl (by decide +kernel)
set_option maxRecDepth 65536 in
theorem w_c2 : (Jvm.Cond.code ({ cls := "com/example/topmast/topmast/tokens/TokenizerIsTokenCharacterPinLaw", name := "reference", desc := "(I)Z" } : Jvm.MethodName) method_2_code (5 : Nat) (Option.some Jvm.ClassFile.FieldType.boolean)).before args0 about1 = true := code_word (m := ⟨1, 1⟩) (meth := k1m1) (c := k1c1) (by decide +kernel) rfl rfl rfl (by decide +kernel)
def codes1 : List Jvm.Cond := [Jvm.Cond.code x code maxLocals ret, Jvm.Cond.code ({ cls := "com/example/topmast/topmast/tokens/Tokenizer", name := "isTokenCharacter", desc := "(C)Z" } : Jvm.MethodName) prog_120_method_4_code (1 : Nat) (Option.some Jvm.ClassFile.FieldType.boolean), Jvm.Cond.code ({ cls := "com/example/topmast/topmast/tokens/TokenizerIsTokenCharacterPinLaw", name := "reference", desc := "(I)Z" } : Jvm.MethodName) method_2_code (5 : Nat) (Option.some Jvm.ClassFile.FieldType.boolean)]
set_option maxRecDepth 65536 in
theorem codes_eq : words1.filter isCode = codes1 := rfl
theorem w_codes : ∀ c ∈ words1.filter isCode, c.before args0 about1 = true := by
  rw [codes_eq]
  intro c hc
  simp only [codes1, List.mem_cons, List.not_mem_nil, or_false] at hc
  rcases hc with rfl | rfl | rfl
  · exact w_c0
  · exact w_c1
  · exact w_c2
set_option maxRecDepth 65536 in
theorem w_t1 : words1.all (fun c => isCode c || c.before args0 about1) = true := by decide +kernel
theorem w_tables : (allAtoms (Jvm.Cond.code x code maxLocals ret :: tables_1)).before args0 about1 = true := by
  rw [allAtoms_all]
  show words1.all (fun c => c.before args0 about1) = true
  refine all_split ?_ w_codes
  rw [w_t1]
set_option maxRecDepth 65536 in
theorem w_case : (Jvm.Cond.and given_1 narrow_1).before args0 about1 = true := by decide +kernel
theorem w_applies : (headSpec (Jvm.Cond.code x code maxLocals ret :: tables_1) room_1).applies x e0.platform about1 = true :=
  (Spec.applies_iff w_frames).mpr ⟨w_running, w_runnable, w_alone, w_named, w_hears, w_ripe, w_room, w_tables⟩
theorem atStart : AtStart classFile x code maxLocals ret World_1 tables_1 room_1 Calls_1 rest_1 Pre_1 launch0 p0 e0 about1 theMethod args0 below0 :=
  ⟨lists_1, trivial, launch0.admits_env _ _ _, launch0.least_env, fairChoices_fair.cas, fairChoices_fair.clock, w_frames, w_args, w_heap, w_applies, trivial, trivial, w_case⟩
end start1
theorem witness_1 : WitnessClaimed_1 := ⟨start1.p0, start1.e0, start1.about1, start1.theMethod, start1.args0, start1.below0, start1.atStart⟩
end Jvm.Pilot.@@N@@
