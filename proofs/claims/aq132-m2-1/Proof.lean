import JvmDerived
import JvmDerived.Pilot.@@N@@Statement
import JvmDerived.Pilot.@@N@@Code
set_option linter.unusedVariables false
set_option linter.unusedSimpArgs false
@@BLOCK:NumsL.lean.txt@@
namespace Jvm.RoadKit
open Sem ClassFile Op Lib Jvm.Stand Jvm.Free Jvm.LawKit
section New
variable {p : Program} {l : Launch} {e : Env} {R : Room} {s : State} {m : MethodId} {args : Array Value} {below : List Frame} {meth : Method} {c : Code} {T : State} {locs : List Loc} {cells slots : Nat}
theorem retI (X : Stand p l e R s m args below meth c T locs cells slots) (hx : p.tables.exec = Jvm.exec) {pc : Nat} {Ls : Array Slot} {z : Int32} {rest : List Value} (hret : meth.sig.returnType = some .int) (hd : decode c.code pc = .ok (.ireturn, 1)) {fs : List Frame}
    (hl : ∀ (f : JFrame) (acts : List Action), f.method = m → f.locked = none → f.entered = [] → (doReturn e (T.setTop f) acts (some (.int z))).1 = T.setFrames fs) : Steps p.tables e below (T.setTop (mkF m pc Ls (.int z :: rest))) (T.setFrames fs) := by
  have hm' : T.vm.method? m = some meth := X.method'
  have hn : narrow .int (.int z) = .int z := rfl
  show Steps p.tables e below (T.setTop { method := m, pc := pc, locals := Ls, stack := _ :: rest, locked := none }) _
  jvm_step X.here [X.here.top, hx, hd, hm', hret, hn]
  first | (intro acts; rw [hl _ acts rfl rfl rfl]) | rw [hl _ _ rfl rfl rfl]
  exact Steps.refl _
end New
end Jvm.RoadKit
namespace Jvm.Pilot.@@N@@
open Jvm Jvm.ClassFile Sem Op Lib Jvm.Free Jvm.Stand Jvm.LawKit Jvm.RoadKit Bundle Jvm.Pilot.@@N@@.Jvm.D
abbrev LS := (Int32 → Int32) × (Int32 → Int32) × (Int32 → Int32) × (Int32 → Int32)
def own_upd (f : Int32 → Int32) (i x : Int32) : Int32 → Int32 := fun j => if j = i then x else f j
def own_IA (Z : State) (h : Heap) (a : Addr) (n : Int32) (f : Int32 → Int32) : Prop := ∃ c : Cell, Arr Z h a c .int ∧ c.slots.size = n.toNatClampNeg ∧ ¬ n < 0 ∧ ∀ j : Int32, ¬ j < 0 → j < n → c.slots[j.toNatClampNeg]? = some (.int (f j))
theorem own_IA.lt {Z : State} {h : Heap} {a : Addr} {n : Int32} {f : Int32 → Int32} (F : own_IA Z h a n f) : a < h.size := by obtain ⟨c, A, -⟩ := F; exact A.lt
theorem own_IA.ext {Z : State} {h h' : Heap} {a : Addr} {n : Int32} {f : Int32 → Int32} (F : own_IA Z h a n f) (E : Ext h h') : own_IA Z h' a n f := by obtain ⟨c, A, r⟩ := F; exact ⟨c, A.ext E, r⟩
theorem own_IA.other {Z : State} {h h' : Heap} {a b : Addr} {n : Int32} {f : Int32 → Int32} {sl : Nat} {v : Value} (F : own_IA Z h b n f) (W : Wr h h' a sl v) (q : b ≠ a) : own_IA Z h' b n f := by obtain ⟨c, A, r⟩ := F; exact ⟨c, A.other W q, r⟩
theorem own_IA.keep {Z : State} {h h' : Heap} {a : Addr} {n : Int32} {f : Int32 → Int32} {ws : List Addr} (F : own_IA Z h a n f) (K : Keep h h' ws) (q : a ∉ ws) : own_IA Z h' a n f := by obtain ⟨c, A, r⟩ := F; exact ⟨c, ⟨K.2.1 a c A.1 q, A.2⟩, r⟩
theorem own_IA_new {Z : State} {h : Heap} {a : Addr} {k : ClassId} {n : Int32} (A : Arr Z h a (newA k .int n) .int) (q : ¬ n < 0) : own_IA Z h a n (fun _ => (0 : Int32)) :=
  ⟨_, A, sz_new _ _ _, q, fun j h1 h2 => get_new (by have := inb_of (sz_new k .int n) (j := j) ⟨h1, h2⟩; rw [sz_new] at this; exact this)⟩
theorem own_IA_set {Z : State} {h h' : Heap} {a : Addr} {c : Cell} {n : Int32} {f : Int32 → Int32} {j x : Int32} (A : Arr Z h a c .int) (S : c.slots.size = n.toNatClampNeg) (q : ¬ n < 0) (G : ∀ j : Int32, ¬ j < 0 → j < n → c.slots[j.toNatClampNeg]? = some (.int (f j))) (h1 : ¬ j < 0) (h2 : j < n) (W : Wr h h' a j.toNatClampNeg (.int x)) : own_IA Z h' a n (own_upd f j x) := by
  refine ⟨c.setSlot j.toNatClampNeg (.int x), A.same W, by rw [sz_set]; exact S, q, fun i i1 i2 => ?_⟩
  by_cases e : i = j
  · rw [get_hit (inb_of S ⟨h1, h2⟩) e]; simp [own_upd, e]
  · rw [get_miss h1 i1 e, G i i1 i2]; simp [own_upd, e]
abbrev own_two (x : Int32) : Prop := ¬ x < (0 : Int32) ∧ x < (2 : Int32)
abbrev own_rng (x : Int32) : Prop := ¬ x < (0 : Int32) ∧ x < (4 : Int32)
def own_IL (Z : State) (h : Heap) (n0 : Nat) (b aF aS aN aP : Addr) (S : LS) : Prop :=
  n0 ≤ aF ∧ n0 ≤ aS ∧ n0 ≤ aN ∧ n0 ≤ aP ∧ (b ≠ aF ∧ b ≠ aS ∧ b ≠ aN ∧ b ≠ aP ∧ aF ≠ aS ∧ aF ≠ aN ∧ aF ≠ aP ∧ aS ≠ aN ∧ aS ≠ aP ∧ aN ≠ aP) ∧ Exa Z h b "com/example/exact_equiv/exactequiv/equivalence/IntLists" ∧
    Fld Z h b "com/example/exact_equiv/exactequiv/equivalence/IntLists" "firsts" "[I" (.ref aF) ∧ Fld Z h b "com/example/exact_equiv/exactequiv/equivalence/IntLists" "sizes" "[I" (.ref aS) ∧ Fld Z h b "com/example/exact_equiv/exactequiv/equivalence/IntLists" "nexts" "[I" (.ref aN) ∧ Fld Z h b "com/example/exact_equiv/exactequiv/equivalence/IntLists" "previouses" "[I" (.ref aP) ∧
    own_IA Z h aF (2 : Int32) S.1 ∧ own_IA Z h aS (2 : Int32) S.2.1 ∧ own_IA Z h aN (4 : Int32) S.2.2.1 ∧ own_IA Z h aP (4 : Int32) S.2.2.2
theorem own_IL.ext {Z : State} {h h' : Heap} {n0 : Nat} {b aF aS aN aP : Addr} {S : LS} (F : own_IL Z h n0 b aF aS aN aP S) (E : Ext h h') : own_IL Z h' n0 b aF aS aN aP S := by
  obtain ⟨g1, g2, g3, g4, d, e, f1, f2, f3, f4, a1, a2, a3, a4⟩ := F
  exact ⟨g1, g2, g3, g4, d, e.ext E, f1.ext E, f2.ext E, f3.ext E, f4.ext E, a1.ext E, a2.ext E, a3.ext E, a4.ext E⟩
theorem own_IL.other {Z : State} {h h' : Heap} {n0 : Nat} {b aF aS aN aP x : Addr} {S : LS} {sl : Nat} {v : Value} (F : own_IL Z h n0 b aF aS aN aP S) (W : Wr h h' x sl v) (q : b ≠ x ∧ aF ≠ x ∧ aS ≠ x ∧ aN ≠ x ∧ aP ≠ x) : own_IL Z h' n0 b aF aS aN aP S := by
  obtain ⟨g1, g2, g3, g4, d, e, f1, f2, f3, f4, a1, a2, a3, a4⟩ := F
  obtain ⟨q0, q1, q2, q3, q4⟩ := q
  exact ⟨g1, g2, g3, g4, d, e.wr W, f1.other W (Or.inl q0), f2.other W (Or.inl q0), f3.other W (Or.inl q0), f4.other W (Or.inl q0), a1.other W q1, a2.other W q2, a3.other W q3, a4.other W q4⟩
theorem own_IL_ne {Z : State} {h : Heap} {n0 : Nat} {b aF aS aN aP x : Addr} {S : LS} (F : own_IL Z h n0 b aF aS aN aP S) (q : x = h.size) : b ≠ x ∧ aF ≠ x ∧ aS ≠ x ∧ aN ≠ x ∧ aP ≠ x := by
  obtain ⟨g1, g2, g3, g4, d, e, f1, f2, f3, f4, a1, a2, a3, a4⟩ := F
  subst q
  exact ⟨Nat.ne_of_lt e.lt, Nat.ne_of_lt a1.lt, Nat.ne_of_lt a2.lt, Nat.ne_of_lt a3.lt, Nat.ne_of_lt a4.lt⟩
theorem own_IL.exa {Z : State} {h : Heap} {n0 : Nat} {b aF aS aN aP : Addr} {S : LS} (F : own_IL Z h n0 b aF aS aN aP S) : Exa Z h b "com/example/exact_equiv/exactequiv/equivalence/IntLists" := F.2.2.2.2.2.1
def own_add (S : LS) (l x : Int32) : LS := (own_upd S.1 l x, own_upd S.2.1 l (S.2.1 l + (1 : Int32)), own_upd S.2.2.1 x (S.1 l), if S.1 l = (-1 : Int32) then own_upd S.2.2.2 x (-1 : Int32) else own_upd (own_upd S.2.2.2 x (-1 : Int32)) (S.1 l) x)
def own_rN (S : LS) (x : Int32) : Int32 → Int32 := if S.2.2.2 x = (-1 : Int32) then S.2.2.1 else own_upd S.2.2.1 (S.2.2.2 x) (S.2.2.1 x)
def own_rem (S : LS) (l x : Int32) : LS := (if S.2.2.2 x = (-1 : Int32) then own_upd S.1 l (S.2.2.1 x) else S.1, own_upd S.2.1 l (S.2.1 l - (1 : Int32)), own_rN S x, if own_rN S x x = (-1 : Int32) then S.2.2.2 else own_upd S.2.2.2 (own_rN S x x) (S.2.2.2 x))
def own_S0 : LS := (own_upd (own_upd (fun _ => (0 : Int32)) (0 : Int32) (-1 : Int32)) ((0 : Int32) + (1 : Int32)) (-1 : Int32), fun _ => (0 : Int32), fun _ => (0 : Int32), fun _ => (0 : Int32))
theorem own_add_first (S : LS) (l x : Int32) : (own_add S l x).1 l = x := by simp [own_add, own_upd]
theorem own_S0_first {l : Int32} (h : l = 0 ∨ l = 1) : own_S0.1 l = (-1 : Int32) := by rcases h with rfl | rfl <;> decide
abbrev own_pre (S : LS) (v : Int32) : Prop := own_rng v ∧ (S.2.2.2 v = (-1 : Int32) ∨ own_rng (S.2.2.2 v)) ∧ (own_rN S v v = (-1 : Int32) ∨ own_rng (own_rN S v v))
abbrev own_aft (S : LS) (l k r : Int32) : Prop := S.2.1 l = k ∧ S.1 l = r ∧ (r = (-1 : Int32) ∨ (own_rng r ∧ S.2.2.1 r = (-1 : Int32)))
abbrev own_Good (S : LS) (l n v r0 r1 : Int32) : Prop := own_pre S v ∧ (own_rem S l v).2.1 l = n - (1 : Int32) ∧ (own_rem S l v).1 l = r0 ∧ (r0 = (-1 : Int32) ∨ (own_rng r0 ∧ (own_rem S l v).2.2.1 r0 = r1)) ∧ (r1 = (-1 : Int32) ∨ (own_rng r1 ∧ (own_rem S l v).2.2.1 r1 = (-1 : Int32))) ∧
  (¬ r0 = (-1 : Int32) → own_pre (own_rem S l v) r0 ∧ own_aft (own_rem (own_rem S l v) l r0) l (n - (2 : Int32)) r1) ∧ (¬ r1 = (-1 : Int32) → own_pre (own_rem S l v) r1 ∧ own_aft (own_rem (own_rem S l v) l r1) l (n - (2 : Int32)) r0)
def own_goodB (S : LS) (l n v r0 r1 : Int32) : Bool := decide (own_pre S v) && (decide ((own_rem S l v).2.1 l = n - (1 : Int32)) && (decide ((own_rem S l v).1 l = r0) && (decide (r0 = (-1 : Int32) ∨ (own_rng r0 ∧ (own_rem S l v).2.2.1 r0 = r1)) && (decide (r1 = (-1 : Int32) ∨ (own_rng r1 ∧ (own_rem S l v).2.2.1 r1 = (-1 : Int32))) &&
  ((decide (r0 = (-1 : Int32)) || (decide (own_pre (own_rem S l v) r0) && decide (own_aft (own_rem (own_rem S l v) l r0) l (n - (2 : Int32)) r1))) && (decide (r1 = (-1 : Int32)) || (decide (own_pre (own_rem S l v) r1) && decide (own_aft (own_rem (own_rem S l v) l r1) l (n - (2 : Int32)) r0))))))))
theorem own_good_of {S : LS} {l n v r0 r1 : Int32} (h : own_goodB S l n v r0 r1 = true) : own_Good S l n v r0 r1 := by
  unfold own_goodB at h
  simp only [Bool.and_eq_true, Bool.or_eq_true, decide_eq_true_eq] at h
  obtain ⟨h1, h2, h3, h4, h5, h6, h7⟩ := h
  exact ⟨h1, h2, h3, h4, h5, fun q => h6.resolve_left q, fun q => h7.resolve_left q⟩
theorem own_mod (a m : Int32) (hm : 0 < m.toInt) : 0 ≤ ((a &&& (2147483647 : Int32)) % m).toInt ∧ ((a &&& (2147483647 : Int32)) % m).toInt < m.toInt := by
  have h1 : (a &&& (2147483647 : Int32)).toInt = a.toInt % 2 ^ 31 := Jvm.Kit.i32_mask a 2147483647 (k := 31) (by decide) (by decide)
  have h2 : 0 ≤ (a &&& (2147483647 : Int32)).toInt := by rw [h1]; omega
  rw [Jvm.Kit.i32_rem_nonneg h2]
  exact ⟨Int.emod_nonneg _ (by omega), Int.emod_lt_of_pos _ hm⟩
theorem own_e0 : (0 : Int32).toInt = 0 := by decide
theorem own_e1 : (1 : Int32).toInt = 1 := by decide
theorem own_e2 : (2 : Int32).toInt = 2 := by decide
theorem own_e3 : (3 : Int32).toInt = 3 := by decide
theorem own_n123 {a n : Int32} (h : n = ((a &&& (2147483647 : Int32)) % (3 : Int32)) + (1 : Int32)) : n = (1 : Int32) ∨ n = (2 : Int32) ∨ n = (3 : Int32) := by
  have q := own_mod a 3 (by decide)
  rw [own_e3] at q
  have r : n.toInt = ((a &&& (2147483647 : Int32)) % (3 : Int32)).toInt + 1 := by rw [h, Jvm.Kit.i32_add (by rw [own_e1]; omega) (by rw [own_e1]; omega), own_e1]
  simp only [← Int32.toInt_inj, own_e1, own_e2, own_e3]; omega
theorem own_p1 {b p : Int32} (h : p = (b &&& (2147483647 : Int32)) % (1 : Int32)) : p = (0 : Int32) := by
  have q := own_mod b 1 (by decide)
  rw [own_e1, ← h] at q
  simp only [← Int32.toInt_inj, own_e0]; omega
theorem own_p2 {b p : Int32} (h : p = (b &&& (2147483647 : Int32)) % (2 : Int32)) : p = (0 : Int32) ∨ p = (1 : Int32) := by
  have q := own_mod b 2 (by decide)
  rw [own_e2, ← h] at q
  simp only [← Int32.toInt_inj, own_e0, own_e1]; omega
theorem own_p3 {b p : Int32} (h : p = (b &&& (2147483647 : Int32)) % (3 : Int32)) : p = (0 : Int32) ∨ p = (1 : Int32) ∨ p = (2 : Int32) := by
  have q := own_mod b 3 (by decide)
  rw [own_e3, ← h] at q
  simp only [← Int32.toInt_inj, own_e0, own_e1, own_e2]; omega
theorem own_s4 {c s : Int32} (h : s = c &&& (3 : Int32)) : s = (0 : Int32) ∨ s = (1 : Int32) ∨ s = (2 : Int32) ∨ s = (3 : Int32) := by
  have q : (c &&& (3 : Int32)).toInt = c.toInt % 2 ^ 2 := Jvm.Kit.i32_mask c 3 (k := 2) (by decide) (by decide)
  rw [← h] at q
  simp only [← Int32.toInt_inj, own_e0, own_e1, own_e2, own_e3]; omega
theorem own_l2 {c s : Int32} (h : s = c &&& (1 : Int32)) : s = (0 : Int32) ∨ s = (1 : Int32) := by
  have q : (c &&& (1 : Int32)).toInt = c.toInt % 2 ^ 1 := Jvm.Kit.i32_mask c 1 (k := 1) (by decide) (by decide)
  rw [← h] at q
  simp only [← Int32.toInt_inj, own_e0, own_e1]; omega
theorem own_rng4 {s : Int32} (h : s = (0 : Int32) ∨ s = (1 : Int32) ∨ s = (2 : Int32) ∨ s = (3 : Int32)) : own_rng s := by rcases h with rfl | rfl | rfl | rfl <;> decide
theorem own_two2 {s : Int32} (h : s = (0 : Int32) ∨ s = (1 : Int32)) : own_two s := by rcases h with rfl | rfl <;> decide
theorem own_nz {n : Int32} (h : n = (1 : Int32) ∨ n = (2 : Int32) ∨ n = (3 : Int32)) : n ≠ 0 := by rcases h with rfl | rfl | rfl <;> decide
theorem d3_0 : decode jdk_65_method_103_code 0 = .ok (.iconst 0, 1) := by decide +kernel
theorem d3_1 : decode jdk_65_method_103_code 1 = .ok (.istore_n 2, 1) := by decide +kernel
theorem d3_2 : decode jdk_65_method_103_code 2 = .ok (.aload_n 0, 1) := by decide +kernel
theorem d3_3 : decode jdk_65_method_103_code 3 = .ok (.arraylength, 1) := by decide +kernel
theorem d3_4 : decode jdk_65_method_103_code 4 = .ok (.istore_n 3, 1) := by decide +kernel
theorem d3_5 : decode jdk_65_method_103_code 5 = .ok (.iload_n 2, 1) := by decide +kernel
theorem d3_6 : decode jdk_65_method_103_code 6 = .ok (.iload_n 3, 1) := by decide +kernel
theorem d3_7 : decode jdk_65_method_103_code 7 = .ok (.if_icmp .ge 13, 3) := by decide +kernel
theorem d3_10 : decode jdk_65_method_103_code 10 = .ok (.aload_n 0, 1) := by decide +kernel
theorem d3_11 : decode jdk_65_method_103_code 11 = .ok (.iload_n 2, 1) := by decide +kernel
theorem d3_12 : decode jdk_65_method_103_code 12 = .ok (.iload_n 1, 1) := by decide +kernel
theorem d3_13 : decode jdk_65_method_103_code 13 = .ok (.iastore, 1) := by decide +kernel
theorem d3_14 : decode jdk_65_method_103_code 14 = .ok (.iinc 2 1, 3) := by decide +kernel
theorem d3_17 : decode jdk_65_method_103_code 17 = .ok (.goto (-12), 3) := by decide +kernel
theorem d3_20 : decode jdk_65_method_103_code 20 = .ok (.return_, 1) := by decide +kernel
theorem pn_0 : plainName "java/util/Arrays" = true := by first | (simp [plainName, overriddenIn]; done) | decide +kernel
theorem ef_rmL (m : MethodId) (x0 : Addr) (x1 : Int32) : entryFrame m #[(.ref x0), (.int x1)] 4 = mkF m 0 #[.val (.ref x0), .val (.int x1), .unset, .unset] [] := by first | (simp [entryFrame, mkF, argsToLocals, Value.category]; done) | rfl
def QL (Z : State) (a1 : Addr) (p2 : Int32) (f : Int32 → Int32) (h0 : Heap) (n0 : Nat) (v : Option Value) (h : Heap) (L : List Loc) : Prop := v = none ∧ Fr n0 L ∧ Keep h0 h [a1] ∧ own_IA Z h a1 (2 : Int32) (own_upd (own_upd f (0 : Int32) p2) ((0 : Int32) + (1 : Int32)) p2)
set_option maxRecDepth 65536 in
set_option maxHeartbeats 40000000 in
theorem rmL (l : Launch) (Z : State) (a0 : Array Value) (hw : ∀ d ∈ tables_1, d.before a0 Z = true) (ws : List Jvm.Cond) (a1 : Addr) (p2 : Int32) (f : Int32 → Int32) (h0 : Heap) (n0 : Nat) (Z0 : n0 ≤ h0.size) (A_a1 : own_IA Z h0 a1 (2 : Int32) f) (g_a1 : n0 ≤ a1) :
    MetFree l (⟨"java/util/Arrays", "fill", "([II)V"⟩ : MethodName) (head1 (Jvm.Cond.code (⟨"java/util/Arrays", "fill", "([II)V"⟩ : MethodName) jdk_65_method_103_code 4 none :: ws) ({ frames := 0, cells := 0, slots := 0, locals := 0 } : Room)) (fun a U => a = #[(.ref a1), (.int p2)] ∧ Z.Warmed39 U.vm ∧ U.heap = h0) (fun _ _ _ _ _ => True) (fun _ U o U' => ∃ v L, o = .returned v ∧ QL Z a1 p2 f h0 n0 v U'.heap L ∧ FrameEnd U o U' L ({ frames := 0, cells := 0, slots := 0, locals := 0 } : Room).cells ({ frames := 0, cells := 0, slots := 0, locals := 0 } : Room).slots) := by
  refine MetFree.of_bodySF (plainFor_of_name pn_0) hisR ?_
  intro p e s m args below meth c s₁ Bd hml0 hP hK
  obtain ⟨rfl, hZ, hh⟩ := hP
  have hx := Bd.exec
  have hby := Bd.bytes
  have hml : c.maxLocals = 4 := hml0
  have hown : s.vm.findClass "java/util/Arrays" = some m.cls := findClass_of_methodNamed Bd.named
  have hnm := (name_of_methodNamed Bd.named Bd.method).1
  have X0 : Stand p l e ({ frames := 0, cells := 0, slots := 0, locals := 0 } : Room) s m #[(.ref a1), (.int p2)] below meth c s₁ [] 0 0 := Stand.of_body Bd
  have e0 : s₁.heap = h0 := by rw [← hh, Bd.state]; rfl
  have N0 := Fr.nil n0
  have pre0 : ∀ t, Steps p.tables e below (s₁.setTop (mkF m 0 #[.val (.ref a1), .val (.int p2), .unset, .unset] [])) t → Steps p.tables e below (s₁.setTop (entryFrame m #[(.ref a1), (.int p2)] 4)) t := fun t k => castTop (ef_rmL m a1 p2) k
  have K0 := Keep.refl h0 [a1]
  obtain ⟨cl1, Ar1, Sz1, Nn1, Ge1⟩ := id A_a1
  have hc7_2 : (0 : Int32) < (2 : Int32) := by decide
  obtain ⟨cl3, Ar3, Sz3, Nn3, Ge3⟩ := id A_a1
  have hin3 := inb_of Sz3 (j := (0 : Int32)) ⟨(by decide), (by decide)⟩
  obtain ⟨T3, h3, X3, e3, W3, st3⟩ := stI X0 hx hZ e0 Ar3 (j := (0 : Int32)) hin3 (g := (mkF m 13 #[.val (.ref a1), .val (.int p2), .val (.int (0 : Int32)), .val (.int (2 : Int32))] [(.int p2), (.int (0 : Int32)), (.ref a1)])) rfl rfl (hb hby d3_13)
  have Aw3 := own_IA_set Ar3 Sz3 Nn3 Ge3 (by decide) (by decide) W3
  have Zs3 : n0 ≤ h3.size := Nat.le_trans Z0 (Keep.of_wr W3).1
  have K3 := K0.wr W3 (Or.inl (List.mem_of_getElem? (i := 0) rfl))
  have N3 := Fr.snoc X3 N0 g_a1
  have hc7_4 : ((0 : Int32) + (1 : Int32)) < (2 : Int32) := by decide
  obtain ⟨cl5, Ar5, Sz5, Nn5, Ge5⟩ := id Aw3
  have hin5 := inb_of Sz5 (j := ((0 : Int32) + (1 : Int32))) ⟨(by decide), (by decide)⟩
  obtain ⟨T5, h5, X5, e5, W5, st5⟩ := stI X3 hx hZ e3 Ar5 (j := ((0 : Int32) + (1 : Int32))) hin5 (g := (mkF m 13 #[.val (.ref a1), .val (.int p2), .val (.int ((0 : Int32) + (1 : Int32))), .val (.int (2 : Int32))] [(.int p2), (.int ((0 : Int32) + (1 : Int32))), (.ref a1)])) rfl rfl (hb hby d3_13)
  have Aw5 := own_IA_set Ar5 Sz5 Nn5 Ge5 (by decide) (by decide) W5
  have Zs5 : n0 ≤ h5.size := Nat.le_trans Zs3 (Keep.of_wr W5).1
  have K5 := K3.wr W5 (Or.inl (List.mem_of_getElem? (i := 0) rfl))
  have N5 := Fr.snoc X5 N3 g_a1
  have hc7_6 : ¬ ((((0 : Int32) + (1 : Int32)) + (1 : Int32)) < (2 : Int32)) := by decide
  have P7 : ∀ t, Steps p.tables e below (T5.setTop (mkF m 20 #[.val (.ref a1), .val (.int p2), .val (.int (((0 : Int32) + (1 : Int32)) + (1 : Int32))), .val (.int (2 : Int32))] [])) t → Steps p.tables e below (s₁.setTop (entryFrame m #[(.ref a1), (.int p2)] 4)) t := fun t kt => pre0 t (by
    show Steps p.tables e below (s₁.setTop (mkF m 0 #[.val (.ref a1), .val (.int p2), .unset, .unset] [])) _
    refine XS.iconst X0.here hx rfl (hb hby d3_0) ?_
    show Steps p.tables e below (s₁.setTop (mkF m 1 #[.val (.ref a1), .val (.int p2), .unset, .unset] [(.int (0 : Int32))])) _
    refine XS.istoreN X0.here hx rfl (hb hby d3_1) rfl (l' := #[.val (.ref a1), .val (.int p2), .val (.int (0 : Int32)), .unset]) rfl ?_
    show Steps p.tables e below (s₁.setTop (mkF m 2 #[.val (.ref a1), .val (.int p2), .val (.int (0 : Int32)), .unset] [])) _
    refine XS.aloadN X0.here hx rfl (hb hby d3_2) rfl rfl ?_
    show Steps p.tables e below (s₁.setTop (mkF m 3 #[.val (.ref a1), .val (.int p2), .val (.int (0 : Int32)), .unset] [(.ref a1)])) _
    refine X0.arraylength hx (by rw [e0]; exact Ar1.1) (State.isArrayOf_alike hZ.alike Ar1.2.1) (g := (mkF m 3 #[.val (.ref a1), .val (.int p2), .val (.int (0 : Int32)), .unset] [(.ref a1)])) rfl rfl (hb hby d3_3) _ ?_
    rw [len_of Sz1 Nn1]
    show Steps p.tables e below (s₁.setTop (mkF m 4 #[.val (.ref a1), .val (.int p2), .val (.int (0 : Int32)), .unset] [(.int (2 : Int32))])) _
    refine XS.istoreN X0.here hx rfl (hb hby d3_4) rfl (l' := #[.val (.ref a1), .val (.int p2), .val (.int (0 : Int32)), .val (.int (2 : Int32))]) rfl ?_
    show Steps p.tables e below (s₁.setTop (mkF m 5 #[.val (.ref a1), .val (.int p2), .val (.int (0 : Int32)), .val (.int (2 : Int32))] [])) _
    refine XS.iloadN X0.here hx rfl (hb hby d3_5) rfl ?_
    show Steps p.tables e below (s₁.setTop (mkF m 6 #[.val (.ref a1), .val (.int p2), .val (.int (0 : Int32)), .val (.int (2 : Int32))] [(.int (0 : Int32))])) _
    refine XS.iloadN X0.here hx rfl (hb hby d3_6) rfl ?_
    show Steps p.tables e below (s₁.setTop (mkF m 7 #[.val (.ref a1), .val (.int p2), .val (.int (0 : Int32)), .val (.int (2 : Int32))] [(.int (2 : Int32)), (.int (0 : Int32))])) _
    refine XS.icmpNo X0.here hx rfl (hb hby d3_7) rfl (XT.ii_ge_f hc7_2) ?_
    show Steps p.tables e below (s₁.setTop (mkF m 10 #[.val (.ref a1), .val (.int p2), .val (.int (0 : Int32)), .val (.int (2 : Int32))] [])) _
    refine XS.aloadN X0.here hx rfl (hb hby d3_10) rfl rfl ?_
    show Steps p.tables e below (s₁.setTop (mkF m 11 #[.val (.ref a1), .val (.int p2), .val (.int (0 : Int32)), .val (.int (2 : Int32))] [(.ref a1)])) _
    refine XS.iloadN X0.here hx rfl (hb hby d3_11) rfl ?_
    show Steps p.tables e below (s₁.setTop (mkF m 12 #[.val (.ref a1), .val (.int p2), .val (.int (0 : Int32)), .val (.int (2 : Int32))] [(.int (0 : Int32)), (.ref a1)])) _
    refine XS.iloadN X0.here hx rfl (hb hby d3_12) rfl ?_
    show Steps p.tables e below (s₁.setTop (mkF m 13 #[.val (.ref a1), .val (.int p2), .val (.int (0 : Int32)), .val (.int (2 : Int32))] [(.int p2), (.int (0 : Int32)), (.ref a1)])) _
    refine st3 _ ?_
    show Steps p.tables e below (T3.setTop (mkF m 14 #[.val (.ref a1), .val (.int p2), .val (.int (0 : Int32)), .val (.int (2 : Int32))] [])) _
    refine XS.iinc X3.here hx rfl (hb hby d3_14) rfl (l' := #[.val (.ref a1), .val (.int p2), .val (.int ((0 : Int32) + (1 : Int32))), .val (.int (2 : Int32))]) rfl ?_
    show Steps p.tables e below (T3.setTop (mkF m 17 #[.val (.ref a1), .val (.int p2), .val (.int ((0 : Int32) + (1 : Int32))), .val (.int (2 : Int32))] [])) _
    refine XS.goto X3.here hx rfl (pc0 := 17) (pc' := 5) rfl (hb hby d3_17) (by decide) (by decide) ?_
    show Steps p.tables e below (T3.setTop (mkF m 5 #[.val (.ref a1), .val (.int p2), .val (.int ((0 : Int32) + (1 : Int32))), .val (.int (2 : Int32))] [])) _
    refine XS.iloadN X3.here hx rfl (hb hby d3_5) rfl ?_
    show Steps p.tables e below (T3.setTop (mkF m 6 #[.val (.ref a1), .val (.int p2), .val (.int ((0 : Int32) + (1 : Int32))), .val (.int (2 : Int32))] [(.int ((0 : Int32) + (1 : Int32)))])) _
    refine XS.iloadN X3.here hx rfl (hb hby d3_6) rfl ?_
    show Steps p.tables e below (T3.setTop (mkF m 7 #[.val (.ref a1), .val (.int p2), .val (.int ((0 : Int32) + (1 : Int32))), .val (.int (2 : Int32))] [(.int (2 : Int32)), (.int ((0 : Int32) + (1 : Int32)))])) _
    refine XS.icmpNo X3.here hx rfl (hb hby d3_7) rfl (XT.ii_ge_f hc7_4) ?_
    show Steps p.tables e below (T3.setTop (mkF m 10 #[.val (.ref a1), .val (.int p2), .val (.int ((0 : Int32) + (1 : Int32))), .val (.int (2 : Int32))] [])) _
    refine XS.aloadN X3.here hx rfl (hb hby d3_10) rfl rfl ?_
    show Steps p.tables e below (T3.setTop (mkF m 11 #[.val (.ref a1), .val (.int p2), .val (.int ((0 : Int32) + (1 : Int32))), .val (.int (2 : Int32))] [(.ref a1)])) _
    refine XS.iloadN X3.here hx rfl (hb hby d3_11) rfl ?_
    show Steps p.tables e below (T3.setTop (mkF m 12 #[.val (.ref a1), .val (.int p2), .val (.int ((0 : Int32) + (1 : Int32))), .val (.int (2 : Int32))] [(.int ((0 : Int32) + (1 : Int32))), (.ref a1)])) _
    refine XS.iloadN X3.here hx rfl (hb hby d3_12) rfl ?_
    show Steps p.tables e below (T3.setTop (mkF m 13 #[.val (.ref a1), .val (.int p2), .val (.int ((0 : Int32) + (1 : Int32))), .val (.int (2 : Int32))] [(.int p2), (.int ((0 : Int32) + (1 : Int32))), (.ref a1)])) _
    refine st5 _ ?_
    show Steps p.tables e below (T5.setTop (mkF m 14 #[.val (.ref a1), .val (.int p2), .val (.int ((0 : Int32) + (1 : Int32))), .val (.int (2 : Int32))] [])) _
    refine XS.iinc X5.here hx rfl (hb hby d3_14) rfl (l' := #[.val (.ref a1), .val (.int p2), .val (.int (((0 : Int32) + (1 : Int32)) + (1 : Int32))), .val (.int (2 : Int32))]) rfl ?_
    show Steps p.tables e below (T5.setTop (mkF m 17 #[.val (.ref a1), .val (.int p2), .val (.int (((0 : Int32) + (1 : Int32)) + (1 : Int32))), .val (.int (2 : Int32))] [])) _
    refine XS.goto X5.here hx rfl (pc0 := 17) (pc' := 5) rfl (hb hby d3_17) (by decide) (by decide) ?_
    show Steps p.tables e below (T5.setTop (mkF m 5 #[.val (.ref a1), .val (.int p2), .val (.int (((0 : Int32) + (1 : Int32)) + (1 : Int32))), .val (.int (2 : Int32))] [])) _
    refine XS.iloadN X5.here hx rfl (hb hby d3_5) rfl ?_
    show Steps p.tables e below (T5.setTop (mkF m 6 #[.val (.ref a1), .val (.int p2), .val (.int (((0 : Int32) + (1 : Int32)) + (1 : Int32))), .val (.int (2 : Int32))] [(.int (((0 : Int32) + (1 : Int32)) + (1 : Int32)))])) _
    refine XS.iloadN X5.here hx rfl (hb hby d3_6) rfl ?_
    show Steps p.tables e below (T5.setTop (mkF m 7 #[.val (.ref a1), .val (.int p2), .val (.int (((0 : Int32) + (1 : Int32)) + (1 : Int32))), .val (.int (2 : Int32))] [(.int (2 : Int32)), (.int (((0 : Int32) + (1 : Int32)) + (1 : Int32)))])) _
    refine XS.icmpYes X5.here hx rfl (pc0 := 7) (pc' := 20) rfl (hb hby d3_7) rfl (XT.ii_ge_t hc7_6) (by decide) (by decide) ?_
    exact kt)
  obtain ⟨fs, hr, hrun, hended, hW, hsame⟩ := X5.leave (v := none) (fun _ => rfl)
  refine ⟨_, _, P7 _ ?_, hrun, hended, _, _, rfl, ?_, ⟨_, rfl⟩, hW, hsame.mono (by decide) (by decide)⟩
  · exact X5.returnOut hx Bd.returns (hb hby d3_20) hr
  · show QL Z a1 p2 f h0 n0 _ T5.heap _
    rw [e5]
    exact ⟨rfl, N5, K5, Aw5⟩
theorem d1_0 : decode prog_42_method_1_code 0 = .ok (.aload_n 0, 1) := by decide +kernel
theorem d1_1 : decode prog_42_method_1_code 1 = .ok (.invokespecial 1, 3) := by decide +kernel
theorem d1_4 : decode prog_42_method_1_code 4 = .ok (.aload_n 0, 1) := by decide +kernel
theorem d1_5 : decode prog_42_method_1_code 5 = .ok (.iload_n 1, 1) := by decide +kernel
theorem d1_6 : decode prog_42_method_1_code 6 = .ok (.newarray .int, 2) := by decide +kernel
theorem d1_8 : decode prog_42_method_1_code 8 = .ok (.putfield 7, 3) := by decide +kernel
theorem d1_11 : decode prog_42_method_1_code 11 = .ok (.aload_n 0, 1) := by decide +kernel
theorem d1_12 : decode prog_42_method_1_code 12 = .ok (.getfield 7, 3) := by decide +kernel
theorem d1_15 : decode prog_42_method_1_code 15 = .ok (.iconst (-1), 1) := by decide +kernel
theorem d1_16 : decode prog_42_method_1_code 16 = .ok (.invokestatic 13, 3) := by decide +kernel
theorem d1_19 : decode prog_42_method_1_code 19 = .ok (.aload_n 0, 1) := by decide +kernel
theorem d1_20 : decode prog_42_method_1_code 20 = .ok (.iload_n 1, 1) := by decide +kernel
theorem d1_21 : decode prog_42_method_1_code 21 = .ok (.newarray .int, 2) := by decide +kernel
theorem d1_23 : decode prog_42_method_1_code 23 = .ok (.putfield 19, 3) := by decide +kernel
theorem d1_26 : decode prog_42_method_1_code 26 = .ok (.aload_n 0, 1) := by decide +kernel
theorem d1_27 : decode prog_42_method_1_code 27 = .ok (.iload_n 2, 1) := by decide +kernel
theorem d1_28 : decode prog_42_method_1_code 28 = .ok (.newarray .int, 2) := by decide +kernel
theorem d1_30 : decode prog_42_method_1_code 30 = .ok (.putfield 22, 3) := by decide +kernel
theorem d1_33 : decode prog_42_method_1_code 33 = .ok (.aload_n 0, 1) := by decide +kernel
theorem d1_34 : decode prog_42_method_1_code 34 = .ok (.iload_n 2, 1) := by decide +kernel
theorem d1_35 : decode prog_42_method_1_code 35 = .ok (.newarray .int, 2) := by decide +kernel
theorem d1_37 : decode prog_42_method_1_code 37 = .ok (.putfield 25, 3) := by decide +kernel
theorem d1_40 : decode prog_42_method_1_code 40 = .ok (.return_, 1) := by decide +kernel
theorem pn_1 : plainName "com/example/exact_equiv/exactequiv/equivalence/IntLists" = true := by first | (simp [plainName, overriddenIn]; done) | decide +kernel
theorem pd_0 : parseMethodDescriptor "([II)V" = some ⟨[(.array .int), .int], none⟩ := by decide +kernel
theorem ef_rmN (m : MethodId) (x0 : Addr) (x1 : Int32) (x2 : Int32) : entryFrame m #[(.ref x0), (.int x1), (.int x2)] 3 = mkF m 0 #[.val (.ref x0), .val (.int x1), .val (.int x2)] [] := by first | (simp [entryFrame, mkF, argsToLocals, Value.category]; done) | rfl
def QN (Z : State) (a1 : Addr) (h0 : Heap) (n0 : Nat) (v : Option Value) (h : Heap) (L : List Loc) : Prop := v = none ∧ Fr n0 L ∧ Keep h0 h [a1] ∧ ∃ aF aS aN aP, own_IL Z h n0 a1 aF aS aN aP own_S0
set_option maxRecDepth 65536 in
set_option maxHeartbeats 40000000 in
theorem rmN (l : Launch) (Z : State) (a0 : Array Value) (hw : ∀ d ∈ tables_1, d.before a0 Z = true) (ws : List Jvm.Cond) (a1 : Addr) (h0 : Heap) (n0 : Nat) (Z0 : n0 ≤ h0.size) (E_a1 : Exa Z h0 a1 "com/example/exact_equiv/exactequiv/equivalence/IntLists") (F_a1_firsts : Fld Z h0 a1 "com/example/exact_equiv/exactequiv/equivalence/IntLists" "firsts" "[I" .null) (F_a1_sizes : Fld Z h0 a1 "com/example/exact_equiv/exactequiv/equivalence/IntLists" "sizes" "[I" .null) (F_a1_nexts : Fld Z h0 a1 "com/example/exact_equiv/exactequiv/equivalence/IntLists" "nexts" "[I" .null) (F_a1_previouses : Fld Z h0 a1 "com/example/exact_equiv/exactequiv/equivalence/IntLists" "previouses" "[I" .null) (g_a1 : n0 ≤ a1) :
    MetFree l (⟨"com/example/exact_equiv/exactequiv/equivalence/IntLists", "<init>", "(II)V"⟩ : MethodName) (head1 (Jvm.Cond.code (⟨"com/example/exact_equiv/exactequiv/equivalence/IntLists", "<init>", "(II)V"⟩ : MethodName) prog_42_method_1_code 3 none :: ws) ({ frames := 1, cells := 4, slots := 12, locals := 15 } : Room)) (fun a U => a = #[(.ref a1), (.int (2 : Int32)), (.int (4 : Int32))] ∧ Z.Warmed39 U.vm ∧ U.heap = h0) (fun _ _ _ _ _ => True) (fun _ U o U' => ∃ v L, o = .returned v ∧ QN Z a1 h0 n0 v U'.heap L ∧ FrameEnd U o U' L ({ frames := 1, cells := 4, slots := 12, locals := 15 } : Room).cells ({ frames := 1, cells := 4, slots := 12, locals := 15 } : Room).slots) := by
  refine MetFree.of_bodySF (plainFor_of_name pn_1) hisR ?_
  intro p e s m args below meth c s₁ Bd hml0 hP hK
  obtain ⟨rfl, hZ, hh⟩ := hP
  have hx := Bd.exec
  have hby := Bd.bytes
  have hml : c.maxLocals = 3 := hml0
  have hown : s.vm.findClass "com/example/exact_equiv/exactequiv/equivalence/IntLists" = some m.cls := findClass_of_methodNamed Bd.named
  have hnm := (name_of_methodNamed Bd.named Bd.method).1
  have X0 : Stand p l e ({ frames := 1, cells := 4, slots := 12, locals := 15 } : Room) s m #[(.ref a1), (.int (2 : Int32)), (.int (4 : Int32))] below meth c s₁ [] 0 0 := Stand.of_body Bd
  have e0 : s₁.heap = h0 := by rw [← hh, Bd.state]; rfl
  have N0 := Fr.nil n0
  have pre0 : ∀ t, Steps p.tables e below (s₁.setTop (mkF m 0 #[.val (.ref a1), .val (.int (2 : Int32)), .val (.int (4 : Int32))] [])) t → Steps p.tables e below (s₁.setTop (entryFrame m #[(.ref a1), (.int (2 : Int32)), (.int (4 : Int32))] 3)) t := fun t k => castTop (ef_rmN m a1 (2 : Int32) (4 : Int32)) k
  have K0 := Keep.refl h0 [a1]
  obtain ⟨T1, X1, e1, st1⟩ := initO X0 hx hZ hown (hw _ (List.mem_of_getElem? (i := 7) rfl)) (hw _ (List.mem_of_getElem? (i := 8) rfl)) (hw _ (List.mem_of_getElem? (i := 9) rfl)) e0 (g := (mkF m 1 #[.val (.ref a1), .val (.int (2 : Int32)), .val (.int (4 : Int32))] [(.ref a1)])) rfl (by rw [hml]; rfl) rfl (hb hby d1_1) (by decide) (W := 0) (by show 2 * 0 + _ ≤ _; exact Nat.le_of_eq rfl) (by decide)
  obtain ⟨T2, h2, k2, X2, e2, E2, A2, st2⟩ := newP X1 hx hZ (hw _ (List.mem_of_getElem? (i := 10) rfl)) e1 (g := (mkF m 6 #[.val (.ref a1), .val (.int (2 : Int32)), .val (.int (4 : Int32))] [(.int (2 : Int32)), (.ref a1)])) rfl (hb hby d1_6) rfl (by decide) (cap := 2) (by decide) (by decide) (by decide) (by decide)
  obtain ⟨b2, g2⟩ : ∃ z, z = h0.size := ⟨_, rfl⟩
  rw [← g2] at A2 st2
  have g_b2 : n0 ≤ b2 := Nat.le_trans Z0 (Nat.le_of_eq g2.symm)
  have sz_b2 : h0.size ≤ b2 := Nat.le_trans K0.1 (Nat.le_of_eq g2.symm)
  have ne3 : a1 ≠ b2 := Nat.ne_of_lt (Nat.lt_of_lt_of_le E_a1.lt (Nat.le_of_eq g2.symm))
  have c4 := E_a1.ext E2
  have c5 := F_a1_firsts.ext E2
  have c6 := F_a1_sizes.ext E2
  have c7 := F_a1_nexts.ext E2
  have c8 := F_a1_previouses.ext E2
  have Zs2 : n0 ≤ h2.size := Nat.le_trans Z0 E2.1
  have K2 := K0.ext E2
  have V2 := own_IA_new A2 (by decide)
  obtain ⟨T9, h9, X9, e9, W9, st9⟩ := putF X2 hx hZ hown (host := "") (Or.inl (hw _ (List.mem_of_getElem? (i := 11) rfl))) Via.refl e2 c5 c4 (Or.inr ⟨(hw _ (List.mem_of_getElem? (i := 12) rfl)), rfl, hnm⟩) (hw _ (List.mem_of_getElem? (i := 2) rfl)) (ty := (.array .int)) (by decide) rfl rfl (g := (mkF m 8 #[.val (.ref a1), .val (.int (2 : Int32)), .val (.int (4 : Int32))] [(.ref b2), (.ref a1)])) rfl rfl (hb hby d1_8)
  have c10 := c4.wr W9
  have c11 := c6.other W9 (Or.inr (slot_ne (Or.inr (hw _ (List.mem_of_getElem? (i := 18) rfl))) (Or.inr (hw _ (List.mem_of_getElem? (i := 12) rfl))) (by decide) (t := (.array .int)) (t' := (.array .int)) (by decide) (by decide)))
  have c12 := c7.other W9 (Or.inr (slot_ne (Or.inl (hw _ (List.mem_of_getElem? (i := 20) rfl))) (Or.inr (hw _ (List.mem_of_getElem? (i := 12) rfl))) (by decide) (t := (.array .int)) (t' := (.array .int)) (by decide) (by decide)))
  have c13 := c8.other W9 (Or.inr (slot_ne (Or.inl (hw _ (List.mem_of_getElem? (i := 22) rfl))) (Or.inr (hw _ (List.mem_of_getElem? (i := 12) rfl))) (by decide) (t := (.array .int)) (t' := (.array .int)) (by decide) (by decide)))
  have c14 := V2.other W9 (Ne.symm ne3)
  have Zs9 : n0 ≤ h9.size := Nat.le_trans Zs2 (Keep.of_wr W9).1
  have K9 := K2.wr W9 (Or.inl (List.mem_of_getElem? (i := 0) rfl))
  have N9 := Fr.snoc X9 N0 g_a1
  have Fw9 := c5.same W9
  obtain ⟨T15, X15, e15, st15⟩ := getF X9 hx hZ hown (host := "") (Or.inl (hw _ (List.mem_of_getElem? (i := 11) rfl))) Via.refl e9 Fw9 (g := (mkF m 12 #[.val (.ref a1), .val (.int (2 : Int32)), .val (.int (4 : Int32))] [(.ref a1)])) rfl rfl (hb hby d1_12)
  obtain ⟨_, _, ⟨T16, L16, k16, n16⟩, -, X16, ⟨Lc16, hQ16, l16, y16, z16⟩, st16⟩ := Jvm.LawKit.callS X15 hx (y := (⟨"java/util/Arrays", "fill", "([II)V"⟩ : MethodName)) hown (mvT hZ (hw _ (List.mem_of_getElem? (i := 13) rfl))) (mvT hZ (hw _ (List.mem_of_getElem? (i := 14) rfl))) (mvT hZ (hw _ (List.mem_of_getElem? (i := 15) rfl))) (mvT hZ (hw _ (List.mem_of_getElem? (i := 16) rfl))) (by decide) (backOf (W := 0) (rmL l Z a0 hw [] b2 (-1 : Int32) (fun _ => (0 : Int32)) h9 n0 Zs9 c14 g_b2) hZ (hw _ (List.mem_of_getElem? (i := 16) rfl)) (hw _ (List.mem_of_getElem? (i := 15) rfl)) (by decide) (by decide)) (g := (mkF m 16 #[.val (.ref a1), .val (.int (2 : Int32)), .val (.int (4 : Int32))] [(.int (-1 : Int32)), (.ref b2)])) rfl (by rw [hml]; rfl) (argsL := [(.ref b2), (.int (-1 : Int32))]) (rest := []) (lenOf pd_0 rfl) rfl (by show 2 * 0 + _ ≤ _; exact Nat.le_of_eq rfl) (hb hby d1_16) (fun _ _ => ⟨rfl, e15, (by decide : 1 + 0 ≤ _), (by decide : 2 + 0 ≤ _)⟩)
  dsimp only [Pt.U, Pt.locs, Pt.cells, Pt.slots] at X16 l16 y16 z16 st16 hQ16
  subst l16 y16 z16
  obtain ⟨rfl, N16q, Kq16, Aq16⟩ := hQ16
  have N16 := Fr.app N9 N16q
  have c17 := c10.keep Kq16
  have c18 := c11.keep Kq16 (ninS ne3 nin0)
  have c19 := c12.keep Kq16 (ninS ne3 nin0)
  have c20 := c13.keep Kq16 (ninS ne3 nin0)
  have c21 := Fw9.keep Kq16 (ninS ne3 nin0)
  have Zs16 : n0 ≤ T16.heap.size := Nat.le_trans Zs9 Kq16.1
  have K16 := K9.trans Kq16 (allS (Or.inr sz_b2) all0)
  obtain ⟨T22, h22, k22, X22, e22, E22, A22, st22⟩ := newP X16 hx hZ (hw _ (List.mem_of_getElem? (i := 10) rfl)) rfl (g := (mkF m 21 #[.val (.ref a1), .val (.int (2 : Int32)), .val (.int (4 : Int32))] [(.int (2 : Int32)), (.ref a1)])) rfl (hb hby d1_21) rfl (by decide) (cap := 2) (by decide) (by decide) (by decide) (by decide)
  obtain ⟨b22, g22⟩ : ∃ z, z = T16.heap.size := ⟨_, rfl⟩
  rw [← g22] at A22 st22
  have g_b22 : n0 ≤ b22 := Nat.le_trans Zs16 (Nat.le_of_eq g22.symm)
  have sz_b22 : h0.size ≤ b22 := Nat.le_trans K16.1 (Nat.le_of_eq g22.symm)
  have ne23 : a1 ≠ b22 := Nat.ne_of_lt (Nat.lt_of_lt_of_le c17.lt (Nat.le_of_eq g22.symm))
  have ne24 : b2 ≠ b22 := Nat.ne_of_lt (Nat.lt_of_lt_of_le Aq16.lt (Nat.le_of_eq g22.symm))
  have c25 := c17.ext E22
  have c26 := c18.ext E22
  have c27 := c19.ext E22
  have c28 := c20.ext E22
  have c29 := c21.ext E22
  have c30 := Aq16.ext E22
  have Zs22 : n0 ≤ h22.size := Nat.le_trans Zs16 E22.1
  have K22 := K16.ext E22
  have V22 := own_IA_new A22 (by decide)
  obtain ⟨T31, h31, X31, e31, W31, st31⟩ := putF X22 hx hZ hown (host := "") (Or.inl (hw _ (List.mem_of_getElem? (i := 17) rfl))) Via.refl e22 c26 c25 (Or.inr ⟨(hw _ (List.mem_of_getElem? (i := 18) rfl)), rfl, hnm⟩) (hw _ (List.mem_of_getElem? (i := 2) rfl)) (ty := (.array .int)) (by decide) rfl rfl (g := (mkF m 23 #[.val (.ref a1), .val (.int (2 : Int32)), .val (.int (4 : Int32))] [(.ref b22), (.ref a1)])) rfl rfl (hb hby d1_23)
  have c32 := c25.wr W31
  have c33 := c27.other W31 (Or.inr (slot_ne (Or.inl (hw _ (List.mem_of_getElem? (i := 20) rfl))) (Or.inr (hw _ (List.mem_of_getElem? (i := 18) rfl))) (by decide) (t := (.array .int)) (t' := (.array .int)) (by decide) (by decide)))
  have c34 := c28.other W31 (Or.inr (slot_ne (Or.inl (hw _ (List.mem_of_getElem? (i := 22) rfl))) (Or.inr (hw _ (List.mem_of_getElem? (i := 18) rfl))) (by decide) (t := (.array .int)) (t' := (.array .int)) (by decide) (by decide)))
  have c35 := c29.other W31 (Or.inr (slot_ne (Or.inr (hw _ (List.mem_of_getElem? (i := 12) rfl))) (Or.inr (hw _ (List.mem_of_getElem? (i := 18) rfl))) (by decide) (t := (.array .int)) (t' := (.array .int)) (by decide) (by decide)))
  have c36 := c30.other W31 (Ne.symm ne3)
  have c37 := V22.other W31 (Ne.symm ne23)
  have Zs31 : n0 ≤ h31.size := Nat.le_trans Zs22 (Keep.of_wr W31).1
  have K31 := K22.wr W31 (Or.inl (List.mem_of_getElem? (i := 0) rfl))
  have N31 := Fr.snoc X31 N16 g_a1
  have Fw31 := c26.same W31
  obtain ⟨T38, h38, k38, X38, e38, E38, A38, st38⟩ := newP X31 hx hZ (hw _ (List.mem_of_getElem? (i := 10) rfl)) e31 (g := (mkF m 28 #[.val (.ref a1), .val (.int (2 : Int32)), .val (.int (4 : Int32))] [(.int (4 : Int32)), (.ref a1)])) rfl (hb hby d1_28) rfl (by decide) (cap := 4) (by decide) (by decide) (by decide) (by decide)
  obtain ⟨b38, g38⟩ : ∃ z, z = h31.size := ⟨_, rfl⟩
  rw [← g38] at A38 st38
  have g_b38 : n0 ≤ b38 := Nat.le_trans Zs31 (Nat.le_of_eq g38.symm)
  have sz_b38 : h0.size ≤ b38 := Nat.le_trans K31.1 (Nat.le_of_eq g38.symm)
  have ne39 : a1 ≠ b38 := Nat.ne_of_lt (Nat.lt_of_lt_of_le c32.lt (Nat.le_of_eq g38.symm))
  have ne40 : b2 ≠ b38 := Nat.ne_of_lt (Nat.lt_of_lt_of_le c36.lt (Nat.le_of_eq g38.symm))
  have ne41 : b22 ≠ b38 := Nat.ne_of_lt (Nat.lt_of_lt_of_le c37.lt (Nat.le_of_eq g38.symm))
  have c42 := c32.ext E38
  have c43 := c33.ext E38
  have c44 := c34.ext E38
  have c45 := c35.ext E38
  have c46 := c36.ext E38
  have c47 := c37.ext E38
  have c48 := Fw31.ext E38
  have Zs38 : n0 ≤ h38.size := Nat.le_trans Zs31 E38.1
  have K38 := K31.ext E38
  have V38 := own_IA_new A38 (by decide)
  obtain ⟨T49, h49, X49, e49, W49, st49⟩ := putF X38 hx hZ hown (host := "") (Or.inl (hw _ (List.mem_of_getElem? (i := 19) rfl))) Via.refl e38 c43 c42 (Or.inl (hw _ (List.mem_of_getElem? (i := 20) rfl))) (hw _ (List.mem_of_getElem? (i := 2) rfl)) (ty := (.array .int)) (by decide) rfl rfl (g := (mkF m 30 #[.val (.ref a1), .val (.int (2 : Int32)), .val (.int (4 : Int32))] [(.ref b38), (.ref a1)])) rfl rfl (hb hby d1_30)
  have c50 := c42.wr W49
  have c51 := c44.other W49 (Or.inr (slot_ne (Or.inl (hw _ (List.mem_of_getElem? (i := 22) rfl))) (Or.inl (hw _ (List.mem_of_getElem? (i := 20) rfl))) (by decide) (t := (.array .int)) (t' := (.array .int)) (by decide) (by decide)))
  have c52 := c45.other W49 (Or.inr (slot_ne (Or.inr (hw _ (List.mem_of_getElem? (i := 12) rfl))) (Or.inl (hw _ (List.mem_of_getElem? (i := 20) rfl))) (by decide) (t := (.array .int)) (t' := (.array .int)) (by decide) (by decide)))
  have c53 := c46.other W49 (Ne.symm ne3)
  have c54 := c47.other W49 (Ne.symm ne23)
  have c55 := c48.other W49 (Or.inr (slot_ne (Or.inr (hw _ (List.mem_of_getElem? (i := 18) rfl))) (Or.inl (hw _ (List.mem_of_getElem? (i := 20) rfl))) (by decide) (t := (.array .int)) (t' := (.array .int)) (by decide) (by decide)))
  have c56 := V38.other W49 (Ne.symm ne39)
  have Zs49 : n0 ≤ h49.size := Nat.le_trans Zs38 (Keep.of_wr W49).1
  have K49 := K38.wr W49 (Or.inl (List.mem_of_getElem? (i := 0) rfl))
  have N49 := Fr.snoc X49 N31 g_a1
  have Fw49 := c43.same W49
  obtain ⟨T57, h57, k57, X57, e57, E57, A57, st57⟩ := newP X49 hx hZ (hw _ (List.mem_of_getElem? (i := 10) rfl)) e49 (g := (mkF m 35 #[.val (.ref a1), .val (.int (2 : Int32)), .val (.int (4 : Int32))] [(.int (4 : Int32)), (.ref a1)])) rfl (hb hby d1_35) rfl (by decide) (cap := 4) (by decide) (by decide) (by decide) (by decide)
  obtain ⟨b57, g57⟩ : ∃ z, z = h49.size := ⟨_, rfl⟩
  rw [← g57] at A57 st57
  have g_b57 : n0 ≤ b57 := Nat.le_trans Zs49 (Nat.le_of_eq g57.symm)
  have sz_b57 : h0.size ≤ b57 := Nat.le_trans K49.1 (Nat.le_of_eq g57.symm)
  have ne58 : a1 ≠ b57 := Nat.ne_of_lt (Nat.lt_of_lt_of_le c50.lt (Nat.le_of_eq g57.symm))
  have ne59 : b2 ≠ b57 := Nat.ne_of_lt (Nat.lt_of_lt_of_le c53.lt (Nat.le_of_eq g57.symm))
  have ne60 : b22 ≠ b57 := Nat.ne_of_lt (Nat.lt_of_lt_of_le c54.lt (Nat.le_of_eq g57.symm))
  have ne61 : b38 ≠ b57 := Nat.ne_of_lt (Nat.lt_of_lt_of_le c56.lt (Nat.le_of_eq g57.symm))
  have c62 := c50.ext E57
  have c63 := c51.ext E57
  have c64 := c52.ext E57
  have c65 := c53.ext E57
  have c66 := c54.ext E57
  have c67 := c55.ext E57
  have c68 := c56.ext E57
  have c69 := Fw49.ext E57
  have Zs57 : n0 ≤ h57.size := Nat.le_trans Zs49 E57.1
  have K57 := K49.ext E57
  have V57 := own_IA_new A57 (by decide)
  obtain ⟨T70, h70, X70, e70, W70, st70⟩ := putF X57 hx hZ hown (host := "") (Or.inl (hw _ (List.mem_of_getElem? (i := 21) rfl))) Via.refl e57 c63 c62 (Or.inl (hw _ (List.mem_of_getElem? (i := 22) rfl))) (hw _ (List.mem_of_getElem? (i := 2) rfl)) (ty := (.array .int)) (by decide) rfl rfl (g := (mkF m 37 #[.val (.ref a1), .val (.int (2 : Int32)), .val (.int (4 : Int32))] [(.ref b57), (.ref a1)])) rfl rfl (hb hby d1_37)
  have c71 := c62.wr W70
  have c72 := c64.other W70 (Or.inr (slot_ne (Or.inr (hw _ (List.mem_of_getElem? (i := 12) rfl))) (Or.inl (hw _ (List.mem_of_getElem? (i := 22) rfl))) (by decide) (t := (.array .int)) (t' := (.array .int)) (by decide) (by decide)))
  have c73 := c65.other W70 (Ne.symm ne3)
  have c74 := c66.other W70 (Ne.symm ne23)
  have c75 := c67.other W70 (Or.inr (slot_ne (Or.inr (hw _ (List.mem_of_getElem? (i := 18) rfl))) (Or.inl (hw _ (List.mem_of_getElem? (i := 22) rfl))) (by decide) (t := (.array .int)) (t' := (.array .int)) (by decide) (by decide)))
  have c76 := c68.other W70 (Ne.symm ne39)
  have c77 := c69.other W70 (Or.inr (slot_ne (Or.inl (hw _ (List.mem_of_getElem? (i := 20) rfl))) (Or.inl (hw _ (List.mem_of_getElem? (i := 22) rfl))) (by decide) (t := (.array .int)) (t' := (.array .int)) (by decide) (by decide)))
  have c78 := V57.other W70 (Ne.symm ne58)
  have Zs70 : n0 ≤ h70.size := Nat.le_trans Zs57 (Keep.of_wr W70).1
  have K70 := K57.wr W70 (Or.inl (List.mem_of_getElem? (i := 0) rfl))
  have N70 := Fr.snoc X70 N49 g_a1
  have Fw70 := c63.same W70
  have P79 : ∀ t, Steps p.tables e below (T70.setTop (mkF m 40 #[.val (.ref a1), .val (.int (2 : Int32)), .val (.int (4 : Int32))] [])) t → Steps p.tables e below (s₁.setTop (entryFrame m #[(.ref a1), (.int (2 : Int32)), (.int (4 : Int32))] 3)) t := fun t kt => pre0 t (by
    show Steps p.tables e below (s₁.setTop (mkF m 0 #[.val (.ref a1), .val (.int (2 : Int32)), .val (.int (4 : Int32))] [])) _
    refine XS.aloadN X0.here hx rfl (hb hby d1_0) rfl rfl ?_
    show Steps p.tables e below (s₁.setTop (mkF m 1 #[.val (.ref a1), .val (.int (2 : Int32)), .val (.int (4 : Int32))] [(.ref a1)])) _
    refine st1 _ ?_
    show Steps p.tables e below (T1.setTop (mkF m 4 #[.val (.ref a1), .val (.int (2 : Int32)), .val (.int (4 : Int32))] [])) _
    refine XS.aloadN X1.here hx rfl (hb hby d1_4) rfl rfl ?_
    show Steps p.tables e below (T1.setTop (mkF m 5 #[.val (.ref a1), .val (.int (2 : Int32)), .val (.int (4 : Int32))] [(.ref a1)])) _
    refine XS.iloadN X1.here hx rfl (hb hby d1_5) rfl ?_
    show Steps p.tables e below (T1.setTop (mkF m 6 #[.val (.ref a1), .val (.int (2 : Int32)), .val (.int (4 : Int32))] [(.int (2 : Int32)), (.ref a1)])) _
    refine st2 _ ?_
    show Steps p.tables e below (T2.setTop (mkF m 8 #[.val (.ref a1), .val (.int (2 : Int32)), .val (.int (4 : Int32))] [(.ref b2), (.ref a1)])) _
    refine st9 _ ?_
    show Steps p.tables e below (T9.setTop (mkF m 11 #[.val (.ref a1), .val (.int (2 : Int32)), .val (.int (4 : Int32))] [])) _
    refine XS.aloadN X9.here hx rfl (hb hby d1_11) rfl rfl ?_
    show Steps p.tables e below (T9.setTop (mkF m 12 #[.val (.ref a1), .val (.int (2 : Int32)), .val (.int (4 : Int32))] [(.ref a1)])) _
    refine st15 _ ?_
    show Steps p.tables e below (T15.setTop (mkF m 15 #[.val (.ref a1), .val (.int (2 : Int32)), .val (.int (4 : Int32))] [(.ref b2)])) _
    refine XS.iconst X15.here hx rfl (hb hby d1_15) ?_
    show Steps p.tables e below (T15.setTop (mkF m 16 #[.val (.ref a1), .val (.int (2 : Int32)), .val (.int (4 : Int32))] [(.int (-1 : Int32)), (.ref b2)])) _
    refine st16 _ ?_
    show Steps p.tables e below (T16.setTop (mkF m 19 #[.val (.ref a1), .val (.int (2 : Int32)), .val (.int (4 : Int32))] [])) _
    refine XS.aloadN X16.here hx rfl (hb hby d1_19) rfl rfl ?_
    show Steps p.tables e below (T16.setTop (mkF m 20 #[.val (.ref a1), .val (.int (2 : Int32)), .val (.int (4 : Int32))] [(.ref a1)])) _
    refine XS.iloadN X16.here hx rfl (hb hby d1_20) rfl ?_
    show Steps p.tables e below (T16.setTop (mkF m 21 #[.val (.ref a1), .val (.int (2 : Int32)), .val (.int (4 : Int32))] [(.int (2 : Int32)), (.ref a1)])) _
    refine st22 _ ?_
    show Steps p.tables e below (T22.setTop (mkF m 23 #[.val (.ref a1), .val (.int (2 : Int32)), .val (.int (4 : Int32))] [(.ref b22), (.ref a1)])) _
    refine st31 _ ?_
    show Steps p.tables e below (T31.setTop (mkF m 26 #[.val (.ref a1), .val (.int (2 : Int32)), .val (.int (4 : Int32))] [])) _
    refine XS.aloadN X31.here hx rfl (hb hby d1_26) rfl rfl ?_
    show Steps p.tables e below (T31.setTop (mkF m 27 #[.val (.ref a1), .val (.int (2 : Int32)), .val (.int (4 : Int32))] [(.ref a1)])) _
    refine XS.iloadN X31.here hx rfl (hb hby d1_27) rfl ?_
    show Steps p.tables e below (T31.setTop (mkF m 28 #[.val (.ref a1), .val (.int (2 : Int32)), .val (.int (4 : Int32))] [(.int (4 : Int32)), (.ref a1)])) _
    refine st38 _ ?_
    show Steps p.tables e below (T38.setTop (mkF m 30 #[.val (.ref a1), .val (.int (2 : Int32)), .val (.int (4 : Int32))] [(.ref b38), (.ref a1)])) _
    refine st49 _ ?_
    show Steps p.tables e below (T49.setTop (mkF m 33 #[.val (.ref a1), .val (.int (2 : Int32)), .val (.int (4 : Int32))] [])) _
    refine XS.aloadN X49.here hx rfl (hb hby d1_33) rfl rfl ?_
    show Steps p.tables e below (T49.setTop (mkF m 34 #[.val (.ref a1), .val (.int (2 : Int32)), .val (.int (4 : Int32))] [(.ref a1)])) _
    refine XS.iloadN X49.here hx rfl (hb hby d1_34) rfl ?_
    show Steps p.tables e below (T49.setTop (mkF m 35 #[.val (.ref a1), .val (.int (2 : Int32)), .val (.int (4 : Int32))] [(.int (4 : Int32)), (.ref a1)])) _
    refine st57 _ ?_
    show Steps p.tables e below (T57.setTop (mkF m 37 #[.val (.ref a1), .val (.int (2 : Int32)), .val (.int (4 : Int32))] [(.ref b57), (.ref a1)])) _
    refine st70 _ ?_
    exact kt)
  obtain ⟨fs, hr, hrun, hended, hW, hsame⟩ := X70.leave (v := none) (fun _ => rfl)
  refine ⟨_, _, P79 _ ?_, hrun, hended, _, _, rfl, ?_, ⟨_, rfl⟩, hW, hsame.mono (by decide) (by decide)⟩
  · exact X70.returnOut hx Bd.returns (hb hby d1_40) hr
  · show QN Z a1 h0 n0 _ T70.heap _
    rw [e70]
    exact ⟨rfl, N70, K70, b2, b22, b38, b57, g_b2, g_b22, g_b38, g_b57, ⟨ne3, ne23, ne39, ne58, ne24, ne40, ne59, ne41, ne60, ne61⟩, c71, c72, c75, c77, Fw70, c73, c74, c76, c78⟩
theorem d4_0 : decode prog_42_method_5_code 0 = .ok (.aload_n 0, 1) := by decide +kernel
theorem d4_1 : decode prog_42_method_5_code 1 = .ok (.getfield 25, 3) := by decide +kernel
theorem d4_4 : decode prog_42_method_5_code 4 = .ok (.iload_n 2, 1) := by decide +kernel
theorem d4_5 : decode prog_42_method_5_code 5 = .ok (.iconst (-1), 1) := by decide +kernel
theorem d4_6 : decode prog_42_method_5_code 6 = .ok (.iastore, 1) := by decide +kernel
theorem d4_7 : decode prog_42_method_5_code 7 = .ok (.aload_n 0, 1) := by decide +kernel
theorem d4_8 : decode prog_42_method_5_code 8 = .ok (.getfield 22, 3) := by decide +kernel
theorem d4_11 : decode prog_42_method_5_code 11 = .ok (.iload_n 2, 1) := by decide +kernel
theorem d4_12 : decode prog_42_method_5_code 12 = .ok (.aload_n 0, 1) := by decide +kernel
theorem d4_13 : decode prog_42_method_5_code 13 = .ok (.getfield 7, 3) := by decide +kernel
theorem d4_16 : decode prog_42_method_5_code 16 = .ok (.iload_n 1, 1) := by decide +kernel
theorem d4_17 : decode prog_42_method_5_code 17 = .ok (.iaload, 1) := by decide +kernel
theorem d4_18 : decode prog_42_method_5_code 18 = .ok (.iastore, 1) := by decide +kernel
theorem d4_19 : decode prog_42_method_5_code 19 = .ok (.aload_n 0, 1) := by decide +kernel
theorem d4_20 : decode prog_42_method_5_code 20 = .ok (.getfield 7, 3) := by decide +kernel
theorem d4_23 : decode prog_42_method_5_code 23 = .ok (.iload_n 1, 1) := by decide +kernel
theorem d4_24 : decode prog_42_method_5_code 24 = .ok (.iaload, 1) := by decide +kernel
theorem d4_25 : decode prog_42_method_5_code 25 = .ok (.iconst (-1), 1) := by decide +kernel
theorem d4_26 : decode prog_42_method_5_code 26 = .ok (.if_icmp .eq 15, 3) := by decide +kernel
theorem d4_29 : decode prog_42_method_5_code 29 = .ok (.aload_n 0, 1) := by decide +kernel
theorem d4_30 : decode prog_42_method_5_code 30 = .ok (.getfield 25, 3) := by decide +kernel
theorem d4_33 : decode prog_42_method_5_code 33 = .ok (.aload_n 0, 1) := by decide +kernel
theorem d4_34 : decode prog_42_method_5_code 34 = .ok (.getfield 7, 3) := by decide +kernel
theorem d4_37 : decode prog_42_method_5_code 37 = .ok (.iload_n 1, 1) := by decide +kernel
theorem d4_38 : decode prog_42_method_5_code 38 = .ok (.iaload, 1) := by decide +kernel
theorem d4_39 : decode prog_42_method_5_code 39 = .ok (.iload_n 2, 1) := by decide +kernel
theorem d4_40 : decode prog_42_method_5_code 40 = .ok (.iastore, 1) := by decide +kernel
theorem d4_41 : decode prog_42_method_5_code 41 = .ok (.aload_n 0, 1) := by decide +kernel
theorem d4_42 : decode prog_42_method_5_code 42 = .ok (.getfield 7, 3) := by decide +kernel
theorem d4_45 : decode prog_42_method_5_code 45 = .ok (.iload_n 1, 1) := by decide +kernel
theorem d4_46 : decode prog_42_method_5_code 46 = .ok (.iload_n 2, 1) := by decide +kernel
theorem d4_47 : decode prog_42_method_5_code 47 = .ok (.iastore, 1) := by decide +kernel
theorem d4_48 : decode prog_42_method_5_code 48 = .ok (.aload_n 0, 1) := by decide +kernel
theorem d4_49 : decode prog_42_method_5_code 49 = .ok (.getfield 19, 3) := by decide +kernel
theorem d4_52 : decode prog_42_method_5_code 52 = .ok (.iload_n 1, 1) := by decide +kernel
theorem d4_53 : decode prog_42_method_5_code 53 = .ok (.dup2, 1) := by decide +kernel
theorem d4_54 : decode prog_42_method_5_code 54 = .ok (.iaload, 1) := by decide +kernel
theorem d4_55 : decode prog_42_method_5_code 55 = .ok (.iconst 1, 1) := by decide +kernel
theorem d4_56 : decode prog_42_method_5_code 56 = .ok (.iadd, 1) := by decide +kernel
theorem d4_57 : decode prog_42_method_5_code 57 = .ok (.iastore, 1) := by decide +kernel
theorem d4_58 : decode prog_42_method_5_code 58 = .ok (.return_, 1) := by decide +kernel
theorem ef_rmA (m : MethodId) (x0 : Addr) (x1 : Int32) (x2 : Int32) : entryFrame m #[(.ref x0), (.int x1), (.int x2)] 3 = mkF m 0 #[.val (.ref x0), .val (.int x1), .val (.int x2)] [] := by first | (simp [entryFrame, mkF, argsToLocals, Value.category]; done) | rfl
def QA (Z : State) (a1 : Addr) (p2 : Int32) (p3 : Int32) (aF : Addr) (aS : Addr) (aN : Addr) (aP : Addr) (S : LS) (h0 : Heap) (n0 : Nat) (v : Option Value) (h : Heap) (L : List Loc) : Prop := v = none ∧ Fr n0 L ∧ Keep h0 h [aF, aS, aN, aP] ∧ own_IL Z h n0 a1 aF aS aN aP (own_add S p2 p3)
set_option maxRecDepth 65536 in
set_option maxHeartbeats 40000000 in
theorem rmA (l : Launch) (Z : State) (a0 : Array Value) (hw : ∀ d ∈ tables_1, d.before a0 Z = true) (ws : List Jvm.Cond) (a1 : Addr) (p2 : Int32) (p3 : Int32) (aF : Addr) (aS : Addr) (aN : Addr) (aP : Addr) (S : LS) (h0 : Heap) (n0 : Nat) (Z0 : n0 ≤ h0.size) (HI : own_IL Z h0 n0 a1 aF aS aN aP S) (hl : own_two p2) (hr : own_rng p3) (hF : S.1 p2 = (-1 : Int32) ∨ own_rng (S.1 p2)) :
    MetFree l (⟨"com/example/exact_equiv/exactequiv/equivalence/IntLists", "add", "(II)V"⟩ : MethodName) (head1 (Jvm.Cond.code (⟨"com/example/exact_equiv/exactequiv/equivalence/IntLists", "add", "(II)V"⟩ : MethodName) prog_42_method_5_code 3 none :: ws) ({ frames := 0, cells := 0, slots := 0, locals := 0 } : Room)) (fun a U => a = #[(.ref a1), (.int p2), (.int p3)] ∧ Z.Warmed39 U.vm ∧ U.heap = h0) (fun _ _ _ _ _ => True) (fun _ U o U' => ∃ v L, o = .returned v ∧ QA Z a1 p2 p3 aF aS aN aP S h0 n0 v U'.heap L ∧ FrameEnd U o U' L ({ frames := 0, cells := 0, slots := 0, locals := 0 } : Room).cells ({ frames := 0, cells := 0, slots := 0, locals := 0 } : Room).slots) := by
  refine MetFree.of_bodySF (plainFor_of_name pn_1) hisR ?_
  intro p e s m args below meth c s₁ Bd hml0 hP hK
  obtain ⟨rfl, hZ, hh⟩ := hP
  have hx := Bd.exec
  have hby := Bd.bytes
  have hml : c.maxLocals = 3 := hml0
  have hown : s.vm.findClass "com/example/exact_equiv/exactequiv/equivalence/IntLists" = some m.cls := findClass_of_methodNamed Bd.named
  have hnm := (name_of_methodNamed Bd.named Bd.method).1
  have X0 : Stand p l e ({ frames := 0, cells := 0, slots := 0, locals := 0 } : Room) s m #[(.ref a1), (.int p2), (.int p3)] below meth c s₁ [] 0 0 := Stand.of_body Bd
  have e0 : s₁.heap = h0 := by rw [← hh, Bd.state]; rfl
  have N0 := Fr.nil n0
  have pre0 : ∀ t, Steps p.tables e below (s₁.setTop (mkF m 0 #[.val (.ref a1), .val (.int p2), .val (.int p3)] [])) t → Steps p.tables e below (s₁.setTop (entryFrame m #[(.ref a1), (.int p2), (.int p3)] 3)) t := fun t k => castTop (ef_rmA m a1 p2 p3) k
  obtain ⟨g_aF, g_aS, g_aN, g_aP, ⟨d1, d2, d3, d4, d5, d6, d7, d8, d9, d10⟩, E_b, F1, F2, F3, F4, A1, A2, A3, A4⟩ := HI
  have K0 := Keep.refl h0 [aF, aS, aN, aP]
  obtain ⟨T1, X1, e1, st1⟩ := getF X0 hx hZ hown (host := "") (Or.inl (hw _ (List.mem_of_getElem? (i := 21) rfl))) Via.refl e0 F4 (g := (mkF m 1 #[.val (.ref a1), .val (.int p2), .val (.int p3)] [(.ref a1)])) rfl rfl (hb hby d4_1)
  obtain ⟨cl2, Ar2, Sz2, Nn2, Ge2⟩ := id A4
  have hin2 := inb_of Sz2 (j := p3) ⟨hr.1, hr.2⟩
  obtain ⟨T2, h2, X2, e2, W2, st2⟩ := stI X1 hx hZ e1 Ar2 (j := p3) hin2 (g := (mkF m 6 #[.val (.ref a1), .val (.int p2), .val (.int p3)] [(.int (-1 : Int32)), (.int p3), (.ref aP)])) rfl rfl (hb hby d4_6)
  have Aw2 := own_IA_set Ar2 Sz2 Nn2 Ge2 hr.1 hr.2 W2
  have c3 := E_b.wr W2
  have c4 := F1.other W2 (Or.inl d4)
  have c5 := A1.other W2 d7
  have c6 := F2.other W2 (Or.inl d4)
  have c7 := A2.other W2 d9
  have c8 := F3.other W2 (Or.inl d4)
  have c9 := A3.other W2 d10
  have c10 := F4.other W2 (Or.inl d4)
  have Zs2 : n0 ≤ h2.size := Nat.le_trans Z0 (Keep.of_wr W2).1
  have K2 := K0.wr W2 (Or.inl (List.mem_of_getElem? (i := 3) rfl))
  have N2 := Fr.snoc X2 N0 g_aP
  obtain ⟨T11, X11, e11, st11⟩ := getF X2 hx hZ hown (host := "") (Or.inl (hw _ (List.mem_of_getElem? (i := 19) rfl))) Via.refl e2 c8 (g := (mkF m 8 #[.val (.ref a1), .val (.int p2), .val (.int p3)] [(.ref a1)])) rfl rfl (hb hby d4_8)
  obtain ⟨T12, X12, e12, st12⟩ := getF X11 hx hZ hown (host := "") (Or.inl (hw _ (List.mem_of_getElem? (i := 11) rfl))) Via.refl e11 c4 (g := (mkF m 13 #[.val (.ref a1), .val (.int p2), .val (.int p3)] [(.ref a1), (.int p3), (.ref aN)])) rfl rfl (hb hby d4_13)
  obtain ⟨cl13, Ar13, Sz13, Nn13, Ge13⟩ := id c5
  have hin13 := inb_of Sz13 (j := p2) ⟨hl.1, hl.2⟩
  obtain ⟨cl14, Ar14, Sz14, Nn14, Ge14⟩ := id c9
  have hin14 := inb_of Sz14 (j := p3) ⟨hr.1, hr.2⟩
  obtain ⟨T14, h14, X14, e14, W14, st14⟩ := stI X12 hx hZ e12 Ar14 (j := p3) hin14 (g := (mkF m 18 #[.val (.ref a1), .val (.int p2), .val (.int p3)] [(.int (S.1 p2)), (.int p3), (.ref aN)])) rfl rfl (hb hby d4_18)
  have Aw14 := own_IA_set Ar14 Sz14 Nn14 Ge14 hr.1 hr.2 W14
  have c15 := c3.wr W14
  have c16 := c4.other W14 (Or.inl d3)
  have c17 := c5.other W14 d6
  have c18 := c6.other W14 (Or.inl d3)
  have c19 := c7.other W14 d8
  have c20 := c8.other W14 (Or.inl d3)
  have c21 := c10.other W14 (Or.inl d3)
  have c22 := Aw2.other W14 (Ne.symm d10)
  have Zs14 : n0 ≤ h14.size := Nat.le_trans Zs2 (Keep.of_wr W14).1
  have K14 := K2.wr W14 (Or.inl (List.mem_of_getElem? (i := 2) rfl))
  have N14 := Fr.snoc X14 N2 g_aN
  obtain ⟨T23, X23, e23, st23⟩ := getF X14 hx hZ hown (host := "") (Or.inl (hw _ (List.mem_of_getElem? (i := 11) rfl))) Via.refl e14 c16 (g := (mkF m 20 #[.val (.ref a1), .val (.int p2), .val (.int p3)] [(.ref a1)])) rfl rfl (hb hby d4_20)
  obtain ⟨cl24, Ar24, Sz24, Nn24, Ge24⟩ := id c17
  have hin24 := inb_of Sz24 (j := p2) ⟨hl.1, hl.2⟩
  have P26 : ∀ t, Steps p.tables e below (T23.setTop (mkF m 26 #[.val (.ref a1), .val (.int p2), .val (.int p3)] [(.int (-1 : Int32)), (.int (S.1 p2))])) t → Steps p.tables e below (s₁.setTop (entryFrame m #[(.ref a1), (.int p2), (.int p3)] 3)) t := fun t kt => pre0 t (by
    show Steps p.tables e below (s₁.setTop (mkF m 0 #[.val (.ref a1), .val (.int p2), .val (.int p3)] [])) _
    refine XS.aloadN X0.here hx rfl (hb hby d4_0) rfl rfl ?_
    show Steps p.tables e below (s₁.setTop (mkF m 1 #[.val (.ref a1), .val (.int p2), .val (.int p3)] [(.ref a1)])) _
    refine st1 _ ?_
    show Steps p.tables e below (T1.setTop (mkF m 4 #[.val (.ref a1), .val (.int p2), .val (.int p3)] [(.ref aP)])) _
    refine XS.iloadN X1.here hx rfl (hb hby d4_4) rfl ?_
    show Steps p.tables e below (T1.setTop (mkF m 5 #[.val (.ref a1), .val (.int p2), .val (.int p3)] [(.int p3), (.ref aP)])) _
    refine XS.iconst X1.here hx rfl (hb hby d4_5) ?_
    show Steps p.tables e below (T1.setTop (mkF m 6 #[.val (.ref a1), .val (.int p2), .val (.int p3)] [(.int (-1 : Int32)), (.int p3), (.ref aP)])) _
    refine st2 _ ?_
    show Steps p.tables e below (T2.setTop (mkF m 7 #[.val (.ref a1), .val (.int p2), .val (.int p3)] [])) _
    refine XS.aloadN X2.here hx rfl (hb hby d4_7) rfl rfl ?_
    show Steps p.tables e below (T2.setTop (mkF m 8 #[.val (.ref a1), .val (.int p2), .val (.int p3)] [(.ref a1)])) _
    refine st11 _ ?_
    show Steps p.tables e below (T11.setTop (mkF m 11 #[.val (.ref a1), .val (.int p2), .val (.int p3)] [(.ref aN)])) _
    refine XS.iloadN X11.here hx rfl (hb hby d4_11) rfl ?_
    show Steps p.tables e below (T11.setTop (mkF m 12 #[.val (.ref a1), .val (.int p2), .val (.int p3)] [(.int p3), (.ref aN)])) _
    refine XS.aloadN X11.here hx rfl (hb hby d4_12) rfl rfl ?_
    show Steps p.tables e below (T11.setTop (mkF m 13 #[.val (.ref a1), .val (.int p2), .val (.int p3)] [(.ref a1), (.int p3), (.ref aN)])) _
    refine st12 _ ?_
    show Steps p.tables e below (T12.setTop (mkF m 16 #[.val (.ref a1), .val (.int p2), .val (.int p3)] [(.ref aF), (.int p3), (.ref aN)])) _
    refine XS.iloadN X12.here hx rfl (hb hby d4_16) rfl ?_
    show Steps p.tables e below (T12.setTop (mkF m 17 #[.val (.ref a1), .val (.int p2), .val (.int p3)] [(.int p2), (.ref aF), (.int p3), (.ref aN)])) _
    refine X12.iaload hx (j := p2) (v := (.int (S.1 p2))) (by rw [e12]; exact Ar13.1) (State.isArrayOf_alike hZ.alike Ar13.2.1) Ar13.2.2 hin13 (Ge13 _ hl.1 hl.2) (g := (mkF m 17 #[.val (.ref a1), .val (.int p2), .val (.int p3)] [(.int p2), (.ref aF), (.int p3), (.ref aN)])) rfl rfl (hb hby d4_17) _ ?_
    show Steps p.tables e below (T12.setTop (mkF m 18 #[.val (.ref a1), .val (.int p2), .val (.int p3)] [(.int (S.1 p2)), (.int p3), (.ref aN)])) _
    refine st14 _ ?_
    show Steps p.tables e below (T14.setTop (mkF m 19 #[.val (.ref a1), .val (.int p2), .val (.int p3)] [])) _
    refine XS.aloadN X14.here hx rfl (hb hby d4_19) rfl rfl ?_
    show Steps p.tables e below (T14.setTop (mkF m 20 #[.val (.ref a1), .val (.int p2), .val (.int p3)] [(.ref a1)])) _
    refine st23 _ ?_
    show Steps p.tables e below (T23.setTop (mkF m 23 #[.val (.ref a1), .val (.int p2), .val (.int p3)] [(.ref aF)])) _
    refine XS.iloadN X23.here hx rfl (hb hby d4_23) rfl ?_
    show Steps p.tables e below (T23.setTop (mkF m 24 #[.val (.ref a1), .val (.int p2), .val (.int p3)] [(.int p2), (.ref aF)])) _
    refine X23.iaload hx (j := p2) (v := (.int (S.1 p2))) (by rw [e23]; exact Ar24.1) (State.isArrayOf_alike hZ.alike Ar24.2.1) Ar24.2.2 hin24 (Ge24 _ hl.1 hl.2) (g := (mkF m 24 #[.val (.ref a1), .val (.int p2), .val (.int p3)] [(.int p2), (.ref aF)])) rfl rfl (hb hby d4_24) _ ?_
    show Steps p.tables e below (T23.setTop (mkF m 25 #[.val (.ref a1), .val (.int p2), .val (.int p3)] [(.int (S.1 p2))])) _
    refine XS.iconst X23.here hx rfl (hb hby d4_25) ?_
    exact kt)
  by_cases hc26_25 : (S.1 p2) = (-1 : Int32)
  · skip
    obtain ⟨T27, X27, e27, st27⟩ := getF X23 hx hZ hown (host := "") (Or.inl (hw _ (List.mem_of_getElem? (i := 11) rfl))) Via.refl e23 c16 (g := (mkF m 42 #[.val (.ref a1), .val (.int p2), .val (.int p3)] [(.ref a1)])) rfl rfl (hb hby d4_42)
    obtain ⟨cl28, Ar28, Sz28, Nn28, Ge28⟩ := id c17
    have hin28 := inb_of Sz28 (j := p2) ⟨hl.1, hl.2⟩
    obtain ⟨T28, h28, X28, e28, W28, st28⟩ := stI X27 hx hZ e27 Ar28 (j := p2) hin28 (g := (mkF m 47 #[.val (.ref a1), .val (.int p2), .val (.int p3)] [(.int p3), (.int p2), (.ref aF)])) rfl rfl (hb hby d4_47)
    have Aw28 := own_IA_set Ar28 Sz28 Nn28 Ge28 hl.1 hl.2 W28
    have c29 := c15.wr W28
    have c30 := c16.other W28 (Or.inl d1)
    have c31 := c18.other W28 (Or.inl d1)
    have c32 := c19.other W28 (Ne.symm d5)
    have c33 := c20.other W28 (Or.inl d1)
    have c34 := c21.other W28 (Or.inl d1)
    have c35 := c22.other W28 (Ne.symm d7)
    have c36 := Aw14.other W28 (Ne.symm d6)
    have Zs28 : n0 ≤ h28.size := Nat.le_trans Zs14 (Keep.of_wr W28).1
    have K28 := K14.wr W28 (Or.inl (List.mem_of_getElem? (i := 0) rfl))
    have N28 := Fr.snoc X28 N14 g_aF
    obtain ⟨T37, X37, e37, st37⟩ := getF X28 hx hZ hown (host := "") (Or.inl (hw _ (List.mem_of_getElem? (i := 17) rfl))) Via.refl e28 c31 (g := (mkF m 49 #[.val (.ref a1), .val (.int p2), .val (.int p3)] [(.ref a1)])) rfl rfl (hb hby d4_49)
    obtain ⟨cl38, Ar38, Sz38, Nn38, Ge38⟩ := id c32
    have hin38 := inb_of Sz38 (j := p2) ⟨hl.1, hl.2⟩
    obtain ⟨cl39, Ar39, Sz39, Nn39, Ge39⟩ := id c32
    have hin39 := inb_of Sz39 (j := p2) ⟨hl.1, hl.2⟩
    obtain ⟨T39, h39, X39, e39, W39, st39⟩ := stI X37 hx hZ e37 Ar39 (j := p2) hin39 (g := (mkF m 57 #[.val (.ref a1), .val (.int p2), .val (.int p3)] [(.int ((S.2.1 p2) + (1 : Int32))), (.int p2), (.ref aS)])) rfl rfl (hb hby d4_57)
    have Aw39 := own_IA_set Ar39 Sz39 Nn39 Ge39 hl.1 hl.2 W39
    have c40 := c29.wr W39
    have c41 := c30.other W39 (Or.inl d2)
    have c42 := c31.other W39 (Or.inl d2)
    have c43 := c33.other W39 (Or.inl d2)
    have c44 := c34.other W39 (Or.inl d2)
    have c45 := c35.other W39 (Ne.symm d9)
    have c46 := c36.other W39 (Ne.symm d8)
    have c47 := Aw28.other W39 d5
    have Zs39 : n0 ≤ h39.size := Nat.le_trans Zs28 (Keep.of_wr W39).1
    have K39 := K28.wr W39 (Or.inl (List.mem_of_getElem? (i := 1) rfl))
    have N39 := Fr.snoc X39 N28 g_aS
    have P48 : ∀ t, Steps p.tables e below (T39.setTop (mkF m 58 #[.val (.ref a1), .val (.int p2), .val (.int p3)] [])) t → Steps p.tables e below (s₁.setTop (entryFrame m #[(.ref a1), (.int p2), (.int p3)] 3)) t := fun t kt => P26 t (by
      show Steps p.tables e below (T23.setTop (mkF m 26 #[.val (.ref a1), .val (.int p2), .val (.int p3)] [(.int (-1 : Int32)), (.int (S.1 p2))])) _
      refine XS.icmpYes X23.here hx rfl (pc0 := 26) (pc' := 41) rfl (hb hby d4_26) rfl (XT.ii_eq_t hc26_25) (by decide) (by decide) ?_
      show Steps p.tables e below (T23.setTop (mkF m 41 #[.val (.ref a1), .val (.int p2), .val (.int p3)] [])) _
      refine XS.aloadN X23.here hx rfl (hb hby d4_41) rfl rfl ?_
      show Steps p.tables e below (T23.setTop (mkF m 42 #[.val (.ref a1), .val (.int p2), .val (.int p3)] [(.ref a1)])) _
      refine st27 _ ?_
      show Steps p.tables e below (T27.setTop (mkF m 45 #[.val (.ref a1), .val (.int p2), .val (.int p3)] [(.ref aF)])) _
      refine XS.iloadN X27.here hx rfl (hb hby d4_45) rfl ?_
      show Steps p.tables e below (T27.setTop (mkF m 46 #[.val (.ref a1), .val (.int p2), .val (.int p3)] [(.int p2), (.ref aF)])) _
      refine XS.iloadN X27.here hx rfl (hb hby d4_46) rfl ?_
      show Steps p.tables e below (T27.setTop (mkF m 47 #[.val (.ref a1), .val (.int p2), .val (.int p3)] [(.int p3), (.int p2), (.ref aF)])) _
      refine st28 _ ?_
      show Steps p.tables e below (T28.setTop (mkF m 48 #[.val (.ref a1), .val (.int p2), .val (.int p3)] [])) _
      refine XS.aloadN X28.here hx rfl (hb hby d4_48) rfl rfl ?_
      show Steps p.tables e below (T28.setTop (mkF m 49 #[.val (.ref a1), .val (.int p2), .val (.int p3)] [(.ref a1)])) _
      refine st37 _ ?_
      show Steps p.tables e below (T37.setTop (mkF m 52 #[.val (.ref a1), .val (.int p2), .val (.int p3)] [(.ref aS)])) _
      refine XS.iloadN X37.here hx rfl (hb hby d4_52) rfl ?_
      show Steps p.tables e below (T37.setTop (mkF m 53 #[.val (.ref a1), .val (.int p2), .val (.int p3)] [(.int p2), (.ref aS)])) _
      refine XT.dup2 X37.here hx rfl (hb hby d4_53) rfl rfl rfl ?_
      show Steps p.tables e below (T37.setTop (mkF m 54 #[.val (.ref a1), .val (.int p2), .val (.int p3)] [(.int p2), (.ref aS), (.int p2), (.ref aS)])) _
      refine X37.iaload hx (j := p2) (v := (.int (S.2.1 p2))) (by rw [e37]; exact Ar38.1) (State.isArrayOf_alike hZ.alike Ar38.2.1) Ar38.2.2 hin38 (Ge38 _ hl.1 hl.2) (g := (mkF m 54 #[.val (.ref a1), .val (.int p2), .val (.int p3)] [(.int p2), (.ref aS), (.int p2), (.ref aS)])) rfl rfl (hb hby d4_54) _ ?_
      show Steps p.tables e below (T37.setTop (mkF m 55 #[.val (.ref a1), .val (.int p2), .val (.int p3)] [(.int (S.2.1 p2)), (.int p2), (.ref aS)])) _
      refine XS.iconst X37.here hx rfl (hb hby d4_55) ?_
      show Steps p.tables e below (T37.setTop (mkF m 56 #[.val (.ref a1), .val (.int p2), .val (.int p3)] [(.int (1 : Int32)), (.int (S.2.1 p2)), (.int p2), (.ref aS)])) _
      refine XS.iadd X37.here hx rfl (hb hby d4_56) rfl ?_
      show Steps p.tables e below (T37.setTop (mkF m 57 #[.val (.ref a1), .val (.int p2), .val (.int p3)] [(.int ((S.2.1 p2) + (1 : Int32))), (.int p2), (.ref aS)])) _
      refine st39 _ ?_
      exact kt)
    obtain ⟨fs, hr, hrun, hended, hW, hsame⟩ := X39.leave (v := none) (fun _ => rfl)
    refine ⟨_, _, P48 _ ?_, hrun, hended, _, _, rfl, ?_, ⟨_, rfl⟩, hW, hsame.mono (by decide) (by decide)⟩
    · exact X39.returnOut hx Bd.returns (hb hby d4_58) hr
    · show QA Z a1 p2 p3 aF aS aN aP S h0 n0 _ T39.heap _
      rw [e39]
      refine ⟨rfl, N39, K39, g_aF, g_aS, g_aN, g_aP, ⟨d1, d2, d3, d4, d5, d6, d7, d8, d9, d10⟩, c40, c41, c42, c43, c44, ?_, ?_, ?_, ?_⟩
      · exact c47
      · exact Aw39
      · exact c46
      · have q : (own_add S p2 p3).2.2.2 = (own_upd S.2.2.2 p3 (-1 : Int32)) := by show (if S.1 p2 = (-1 : Int32) then _ else _) = _; rw [if_pos hc26_25]
        rw [q]; exact c45
  · skip
    obtain ⟨T49, X49, e49, st49⟩ := getF X23 hx hZ hown (host := "") (Or.inl (hw _ (List.mem_of_getElem? (i := 21) rfl))) Via.refl e23 c21 (g := (mkF m 30 #[.val (.ref a1), .val (.int p2), .val (.int p3)] [(.ref a1)])) rfl rfl (hb hby d4_30)
    obtain ⟨T50, X50, e50, st50⟩ := getF X49 hx hZ hown (host := "") (Or.inl (hw _ (List.mem_of_getElem? (i := 11) rfl))) Via.refl e49 c16 (g := (mkF m 34 #[.val (.ref a1), .val (.int p2), .val (.int p3)] [(.ref a1), (.ref aP)])) rfl rfl (hb hby d4_34)
    obtain ⟨cl51, Ar51, Sz51, Nn51, Ge51⟩ := id c17
    have hin51 := inb_of Sz51 (j := p2) ⟨hl.1, hl.2⟩
    obtain ⟨cl52, Ar52, Sz52, Nn52, Ge52⟩ := id c22
    have hin52 := inb_of Sz52 (j := (S.1 p2)) ⟨(hF.resolve_left hc26_25).1, (hF.resolve_left hc26_25).2⟩
    obtain ⟨T52, h52, X52, e52, W52, st52⟩ := stI X50 hx hZ e50 Ar52 (j := (S.1 p2)) hin52 (g := (mkF m 40 #[.val (.ref a1), .val (.int p2), .val (.int p3)] [(.int p3), (.int (S.1 p2)), (.ref aP)])) rfl rfl (hb hby d4_40)
    have Aw52 := own_IA_set Ar52 Sz52 Nn52 Ge52 (hF.resolve_left hc26_25).1 (hF.resolve_left hc26_25).2 W52
    have c53 := c15.wr W52
    have c54 := c16.other W52 (Or.inl d4)
    have c55 := c17.other W52 d7
    have c56 := c18.other W52 (Or.inl d4)
    have c57 := c19.other W52 d9
    have c58 := c20.other W52 (Or.inl d4)
    have c59 := c21.other W52 (Or.inl d4)
    have c60 := Aw14.other W52 d10
    have Zs52 : n0 ≤ h52.size := Nat.le_trans Zs14 (Keep.of_wr W52).1
    have K52 := K14.wr W52 (Or.inl (List.mem_of_getElem? (i := 3) rfl))
    have N52 := Fr.snoc X52 N14 g_aP
    obtain ⟨T61, X61, e61, st61⟩ := getF X52 hx hZ hown (host := "") (Or.inl (hw _ (List.mem_of_getElem? (i := 11) rfl))) Via.refl e52 c54 (g := (mkF m 42 #[.val (.ref a1), .val (.int p2), .val (.int p3)] [(.ref a1)])) rfl rfl (hb hby d4_42)
    obtain ⟨cl62, Ar62, Sz62, Nn62, Ge62⟩ := id c55
    have hin62 := inb_of Sz62 (j := p2) ⟨hl.1, hl.2⟩
    obtain ⟨T62, h62, X62, e62, W62, st62⟩ := stI X61 hx hZ e61 Ar62 (j := p2) hin62 (g := (mkF m 47 #[.val (.ref a1), .val (.int p2), .val (.int p3)] [(.int p3), (.int p2), (.ref aF)])) rfl rfl (hb hby d4_47)
    have Aw62 := own_IA_set Ar62 Sz62 Nn62 Ge62 hl.1 hl.2 W62
    have c63 := c53.wr W62
    have c64 := c54.other W62 (Or.inl d1)
    have c65 := c56.other W62 (Or.inl d1)
    have c66 := c57.other W62 (Ne.symm d5)
    have c67 := c58.other W62 (Or.inl d1)
    have c68 := c59.other W62 (Or.inl d1)
    have c69 := c60.other W62 (Ne.symm d6)
    have c70 := Aw52.other W62 (Ne.symm d7)
    have Zs62 : n0 ≤ h62.size := Nat.le_trans Zs52 (Keep.of_wr W62).1
    have K62 := K52.wr W62 (Or.inl (List.mem_of_getElem? (i := 0) rfl))
    have N62 := Fr.snoc X62 N52 g_aF
    obtain ⟨T71, X71, e71, st71⟩ := getF X62 hx hZ hown (host := "") (Or.inl (hw _ (List.mem_of_getElem? (i := 17) rfl))) Via.refl e62 c65 (g := (mkF m 49 #[.val (.ref a1), .val (.int p2), .val (.int p3)] [(.ref a1)])) rfl rfl (hb hby d4_49)
    obtain ⟨cl72, Ar72, Sz72, Nn72, Ge72⟩ := id c66
    have hin72 := inb_of Sz72 (j := p2) ⟨hl.1, hl.2⟩
    obtain ⟨cl73, Ar73, Sz73, Nn73, Ge73⟩ := id c66
    have hin73 := inb_of Sz73 (j := p2) ⟨hl.1, hl.2⟩
    obtain ⟨T73, h73, X73, e73, W73, st73⟩ := stI X71 hx hZ e71 Ar73 (j := p2) hin73 (g := (mkF m 57 #[.val (.ref a1), .val (.int p2), .val (.int p3)] [(.int ((S.2.1 p2) + (1 : Int32))), (.int p2), (.ref aS)])) rfl rfl (hb hby d4_57)
    have Aw73 := own_IA_set Ar73 Sz73 Nn73 Ge73 hl.1 hl.2 W73
    have c74 := c63.wr W73
    have c75 := c64.other W73 (Or.inl d2)
    have c76 := c65.other W73 (Or.inl d2)
    have c77 := c67.other W73 (Or.inl d2)
    have c78 := c68.other W73 (Or.inl d2)
    have c79 := c69.other W73 (Ne.symm d8)
    have c80 := c70.other W73 (Ne.symm d9)
    have c81 := Aw62.other W73 d5
    have Zs73 : n0 ≤ h73.size := Nat.le_trans Zs62 (Keep.of_wr W73).1
    have K73 := K62.wr W73 (Or.inl (List.mem_of_getElem? (i := 1) rfl))
    have N73 := Fr.snoc X73 N62 g_aS
    have P82 : ∀ t, Steps p.tables e below (T73.setTop (mkF m 58 #[.val (.ref a1), .val (.int p2), .val (.int p3)] [])) t → Steps p.tables e below (s₁.setTop (entryFrame m #[(.ref a1), (.int p2), (.int p3)] 3)) t := fun t kt => P26 t (by
      show Steps p.tables e below (T23.setTop (mkF m 26 #[.val (.ref a1), .val (.int p2), .val (.int p3)] [(.int (-1 : Int32)), (.int (S.1 p2))])) _
      refine XS.icmpNo X23.here hx rfl (hb hby d4_26) rfl (XT.ii_eq_f hc26_25) ?_
      show Steps p.tables e below (T23.setTop (mkF m 29 #[.val (.ref a1), .val (.int p2), .val (.int p3)] [])) _
      refine XS.aloadN X23.here hx rfl (hb hby d4_29) rfl rfl ?_
      show Steps p.tables e below (T23.setTop (mkF m 30 #[.val (.ref a1), .val (.int p2), .val (.int p3)] [(.ref a1)])) _
      refine st49 _ ?_
      show Steps p.tables e below (T49.setTop (mkF m 33 #[.val (.ref a1), .val (.int p2), .val (.int p3)] [(.ref aP)])) _
      refine XS.aloadN X49.here hx rfl (hb hby d4_33) rfl rfl ?_
      show Steps p.tables e below (T49.setTop (mkF m 34 #[.val (.ref a1), .val (.int p2), .val (.int p3)] [(.ref a1), (.ref aP)])) _
      refine st50 _ ?_
      show Steps p.tables e below (T50.setTop (mkF m 37 #[.val (.ref a1), .val (.int p2), .val (.int p3)] [(.ref aF), (.ref aP)])) _
      refine XS.iloadN X50.here hx rfl (hb hby d4_37) rfl ?_
      show Steps p.tables e below (T50.setTop (mkF m 38 #[.val (.ref a1), .val (.int p2), .val (.int p3)] [(.int p2), (.ref aF), (.ref aP)])) _
      refine X50.iaload hx (j := p2) (v := (.int (S.1 p2))) (by rw [e50]; exact Ar51.1) (State.isArrayOf_alike hZ.alike Ar51.2.1) Ar51.2.2 hin51 (Ge51 _ hl.1 hl.2) (g := (mkF m 38 #[.val (.ref a1), .val (.int p2), .val (.int p3)] [(.int p2), (.ref aF), (.ref aP)])) rfl rfl (hb hby d4_38) _ ?_
      show Steps p.tables e below (T50.setTop (mkF m 39 #[.val (.ref a1), .val (.int p2), .val (.int p3)] [(.int (S.1 p2)), (.ref aP)])) _
      refine XS.iloadN X50.here hx rfl (hb hby d4_39) rfl ?_
      show Steps p.tables e below (T50.setTop (mkF m 40 #[.val (.ref a1), .val (.int p2), .val (.int p3)] [(.int p3), (.int (S.1 p2)), (.ref aP)])) _
      refine st52 _ ?_
      show Steps p.tables e below (T52.setTop (mkF m 41 #[.val (.ref a1), .val (.int p2), .val (.int p3)] [])) _
      refine XS.aloadN X52.here hx rfl (hb hby d4_41) rfl rfl ?_
      show Steps p.tables e below (T52.setTop (mkF m 42 #[.val (.ref a1), .val (.int p2), .val (.int p3)] [(.ref a1)])) _
      refine st61 _ ?_
      show Steps p.tables e below (T61.setTop (mkF m 45 #[.val (.ref a1), .val (.int p2), .val (.int p3)] [(.ref aF)])) _
      refine XS.iloadN X61.here hx rfl (hb hby d4_45) rfl ?_
      show Steps p.tables e below (T61.setTop (mkF m 46 #[.val (.ref a1), .val (.int p2), .val (.int p3)] [(.int p2), (.ref aF)])) _
      refine XS.iloadN X61.here hx rfl (hb hby d4_46) rfl ?_
      show Steps p.tables e below (T61.setTop (mkF m 47 #[.val (.ref a1), .val (.int p2), .val (.int p3)] [(.int p3), (.int p2), (.ref aF)])) _
      refine st62 _ ?_
      show Steps p.tables e below (T62.setTop (mkF m 48 #[.val (.ref a1), .val (.int p2), .val (.int p3)] [])) _
      refine XS.aloadN X62.here hx rfl (hb hby d4_48) rfl rfl ?_
      show Steps p.tables e below (T62.setTop (mkF m 49 #[.val (.ref a1), .val (.int p2), .val (.int p3)] [(.ref a1)])) _
      refine st71 _ ?_
      show Steps p.tables e below (T71.setTop (mkF m 52 #[.val (.ref a1), .val (.int p2), .val (.int p3)] [(.ref aS)])) _
      refine XS.iloadN X71.here hx rfl (hb hby d4_52) rfl ?_
      show Steps p.tables e below (T71.setTop (mkF m 53 #[.val (.ref a1), .val (.int p2), .val (.int p3)] [(.int p2), (.ref aS)])) _
      refine XT.dup2 X71.here hx rfl (hb hby d4_53) rfl rfl rfl ?_
      show Steps p.tables e below (T71.setTop (mkF m 54 #[.val (.ref a1), .val (.int p2), .val (.int p3)] [(.int p2), (.ref aS), (.int p2), (.ref aS)])) _
      refine X71.iaload hx (j := p2) (v := (.int (S.2.1 p2))) (by rw [e71]; exact Ar72.1) (State.isArrayOf_alike hZ.alike Ar72.2.1) Ar72.2.2 hin72 (Ge72 _ hl.1 hl.2) (g := (mkF m 54 #[.val (.ref a1), .val (.int p2), .val (.int p3)] [(.int p2), (.ref aS), (.int p2), (.ref aS)])) rfl rfl (hb hby d4_54) _ ?_
      show Steps p.tables e below (T71.setTop (mkF m 55 #[.val (.ref a1), .val (.int p2), .val (.int p3)] [(.int (S.2.1 p2)), (.int p2), (.ref aS)])) _
      refine XS.iconst X71.here hx rfl (hb hby d4_55) ?_
      show Steps p.tables e below (T71.setTop (mkF m 56 #[.val (.ref a1), .val (.int p2), .val (.int p3)] [(.int (1 : Int32)), (.int (S.2.1 p2)), (.int p2), (.ref aS)])) _
      refine XS.iadd X71.here hx rfl (hb hby d4_56) rfl ?_
      show Steps p.tables e below (T71.setTop (mkF m 57 #[.val (.ref a1), .val (.int p2), .val (.int p3)] [(.int ((S.2.1 p2) + (1 : Int32))), (.int p2), (.ref aS)])) _
      refine st73 _ ?_
      exact kt)
    obtain ⟨fs, hr, hrun, hended, hW, hsame⟩ := X73.leave (v := none) (fun _ => rfl)
    refine ⟨_, _, P82 _ ?_, hrun, hended, _, _, rfl, ?_, ⟨_, rfl⟩, hW, hsame.mono (by decide) (by decide)⟩
    · exact X73.returnOut hx Bd.returns (hb hby d4_58) hr
    · show QA Z a1 p2 p3 aF aS aN aP S h0 n0 _ T73.heap _
      rw [e73]
      refine ⟨rfl, N73, K73, g_aF, g_aS, g_aN, g_aP, ⟨d1, d2, d3, d4, d5, d6, d7, d8, d9, d10⟩, c74, c75, c76, c77, c78, ?_, ?_, ?_, ?_⟩
      · exact c81
      · exact Aw73
      · exact c79
      · have q : (own_add S p2 p3).2.2.2 = (own_upd (own_upd S.2.2.2 p3 (-1 : Int32)) (S.1 p2) p3) := by show (if S.1 p2 = (-1 : Int32) then _ else _) = _; rw [if_neg hc26_25]
        rw [q]; exact c80
theorem d5_0 : decode prog_42_method_6_code 0 = .ok (.aload_n 0, 1) := by decide +kernel
theorem d5_1 : decode prog_42_method_6_code 1 = .ok (.getfield 25, 3) := by decide +kernel
theorem d5_4 : decode prog_42_method_6_code 4 = .ok (.iload_n 2, 1) := by decide +kernel
theorem d5_5 : decode prog_42_method_6_code 5 = .ok (.iaload, 1) := by decide +kernel
theorem d5_6 : decode prog_42_method_6_code 6 = .ok (.iconst (-1), 1) := by decide +kernel
theorem d5_7 : decode prog_42_method_6_code 7 = .ok (.if_icmp .ne 18, 3) := by decide +kernel
theorem d5_10 : decode prog_42_method_6_code 10 = .ok (.aload_n 0, 1) := by decide +kernel
theorem d5_11 : decode prog_42_method_6_code 11 = .ok (.getfield 7, 3) := by decide +kernel
theorem d5_14 : decode prog_42_method_6_code 14 = .ok (.iload_n 1, 1) := by decide +kernel
theorem d5_15 : decode prog_42_method_6_code 15 = .ok (.aload_n 0, 1) := by decide +kernel
theorem d5_16 : decode prog_42_method_6_code 16 = .ok (.getfield 22, 3) := by decide +kernel
theorem d5_19 : decode prog_42_method_6_code 19 = .ok (.iload_n 2, 1) := by decide +kernel
theorem d5_20 : decode prog_42_method_6_code 20 = .ok (.iaload, 1) := by decide +kernel
theorem d5_21 : decode prog_42_method_6_code 21 = .ok (.iastore, 1) := by decide +kernel
theorem d5_22 : decode prog_42_method_6_code 22 = .ok (.goto 20, 3) := by decide +kernel
theorem d5_25 : decode prog_42_method_6_code 25 = .ok (.aload_n 0, 1) := by decide +kernel
theorem d5_26 : decode prog_42_method_6_code 26 = .ok (.getfield 22, 3) := by decide +kernel
theorem d5_29 : decode prog_42_method_6_code 29 = .ok (.aload_n 0, 1) := by decide +kernel
theorem d5_30 : decode prog_42_method_6_code 30 = .ok (.getfield 25, 3) := by decide +kernel
theorem d5_33 : decode prog_42_method_6_code 33 = .ok (.iload_n 2, 1) := by decide +kernel
theorem d5_34 : decode prog_42_method_6_code 34 = .ok (.iaload, 1) := by decide +kernel
theorem d5_35 : decode prog_42_method_6_code 35 = .ok (.aload_n 0, 1) := by decide +kernel
theorem d5_36 : decode prog_42_method_6_code 36 = .ok (.getfield 22, 3) := by decide +kernel
theorem d5_39 : decode prog_42_method_6_code 39 = .ok (.iload_n 2, 1) := by decide +kernel
theorem d5_40 : decode prog_42_method_6_code 40 = .ok (.iaload, 1) := by decide +kernel
theorem d5_41 : decode prog_42_method_6_code 41 = .ok (.iastore, 1) := by decide +kernel
theorem d5_42 : decode prog_42_method_6_code 42 = .ok (.aload_n 0, 1) := by decide +kernel
theorem d5_43 : decode prog_42_method_6_code 43 = .ok (.getfield 22, 3) := by decide +kernel
theorem d5_46 : decode prog_42_method_6_code 46 = .ok (.iload_n 2, 1) := by decide +kernel
theorem d5_47 : decode prog_42_method_6_code 47 = .ok (.iaload, 1) := by decide +kernel
theorem d5_48 : decode prog_42_method_6_code 48 = .ok (.iconst (-1), 1) := by decide +kernel
theorem d5_49 : decode prog_42_method_6_code 49 = .ok (.if_icmp .eq 20, 3) := by decide +kernel
theorem d5_52 : decode prog_42_method_6_code 52 = .ok (.aload_n 0, 1) := by decide +kernel
theorem d5_53 : decode prog_42_method_6_code 53 = .ok (.getfield 25, 3) := by decide +kernel
theorem d5_56 : decode prog_42_method_6_code 56 = .ok (.aload_n 0, 1) := by decide +kernel
theorem d5_57 : decode prog_42_method_6_code 57 = .ok (.getfield 22, 3) := by decide +kernel
theorem d5_60 : decode prog_42_method_6_code 60 = .ok (.iload_n 2, 1) := by decide +kernel
theorem d5_61 : decode prog_42_method_6_code 61 = .ok (.iaload, 1) := by decide +kernel
theorem d5_62 : decode prog_42_method_6_code 62 = .ok (.aload_n 0, 1) := by decide +kernel
theorem d5_63 : decode prog_42_method_6_code 63 = .ok (.getfield 25, 3) := by decide +kernel
theorem d5_66 : decode prog_42_method_6_code 66 = .ok (.iload_n 2, 1) := by decide +kernel
theorem d5_67 : decode prog_42_method_6_code 67 = .ok (.iaload, 1) := by decide +kernel
theorem d5_68 : decode prog_42_method_6_code 68 = .ok (.iastore, 1) := by decide +kernel
theorem d5_69 : decode prog_42_method_6_code 69 = .ok (.aload_n 0, 1) := by decide +kernel
theorem d5_70 : decode prog_42_method_6_code 70 = .ok (.getfield 19, 3) := by decide +kernel
theorem d5_73 : decode prog_42_method_6_code 73 = .ok (.iload_n 1, 1) := by decide +kernel
theorem d5_74 : decode prog_42_method_6_code 74 = .ok (.dup2, 1) := by decide +kernel
theorem d5_75 : decode prog_42_method_6_code 75 = .ok (.iaload, 1) := by decide +kernel
theorem d5_76 : decode prog_42_method_6_code 76 = .ok (.iconst 1, 1) := by decide +kernel
theorem d5_77 : decode prog_42_method_6_code 77 = .ok (.isub, 1) := by decide +kernel
theorem d5_78 : decode prog_42_method_6_code 78 = .ok (.iastore, 1) := by decide +kernel
theorem d5_79 : decode prog_42_method_6_code 79 = .ok (.return_, 1) := by decide +kernel
theorem ef_rmM (m : MethodId) (x0 : Addr) (x1 : Int32) (x2 : Int32) : entryFrame m #[(.ref x0), (.int x1), (.int x2)] 3 = mkF m 0 #[.val (.ref x0), .val (.int x1), .val (.int x2)] [] := by first | (simp [entryFrame, mkF, argsToLocals, Value.category]; done) | rfl
def QM (Z : State) (a1 : Addr) (p2 : Int32) (p3 : Int32) (aF : Addr) (aS : Addr) (aN : Addr) (aP : Addr) (S : LS) (h0 : Heap) (n0 : Nat) (v : Option Value) (h : Heap) (L : List Loc) : Prop := v = none ∧ Fr n0 L ∧ Keep h0 h [aF, aS, aN, aP] ∧ own_IL Z h n0 a1 aF aS aN aP (own_rem S p2 p3)
set_option maxRecDepth 65536 in
set_option maxHeartbeats 40000000 in
theorem rmM (l : Launch) (Z : State) (a0 : Array Value) (hw : ∀ d ∈ tables_1, d.before a0 Z = true) (ws : List Jvm.Cond) (a1 : Addr) (p2 : Int32) (p3 : Int32) (aF : Addr) (aS : Addr) (aN : Addr) (aP : Addr) (S : LS) (h0 : Heap) (n0 : Nat) (Z0 : n0 ≤ h0.size) (HI : own_IL Z h0 n0 a1 aF aS aN aP S) (hl : own_two p2) (hp : own_pre S p3) :
    MetFree l (⟨"com/example/exact_equiv/exactequiv/equivalence/IntLists", "remove", "(II)V"⟩ : MethodName) (head1 (Jvm.Cond.code (⟨"com/example/exact_equiv/exactequiv/equivalence/IntLists", "remove", "(II)V"⟩ : MethodName) prog_42_method_6_code 3 none :: ws) ({ frames := 0, cells := 0, slots := 0, locals := 0 } : Room)) (fun a U => a = #[(.ref a1), (.int p2), (.int p3)] ∧ Z.Warmed39 U.vm ∧ U.heap = h0) (fun _ _ _ _ _ => True) (fun _ U o U' => ∃ v L, o = .returned v ∧ QM Z a1 p2 p3 aF aS aN aP S h0 n0 v U'.heap L ∧ FrameEnd U o U' L ({ frames := 0, cells := 0, slots := 0, locals := 0 } : Room).cells ({ frames := 0, cells := 0, slots := 0, locals := 0 } : Room).slots) := by
  refine MetFree.of_bodySF (plainFor_of_name pn_1) hisR ?_
  intro p e s m args below meth c s₁ Bd hml0 hP hK
  obtain ⟨rfl, hZ, hh⟩ := hP
  have hx := Bd.exec
  have hby := Bd.bytes
  have hml : c.maxLocals = 3 := hml0
  have hown : s.vm.findClass "com/example/exact_equiv/exactequiv/equivalence/IntLists" = some m.cls := findClass_of_methodNamed Bd.named
  have hnm := (name_of_methodNamed Bd.named Bd.method).1
  have X0 : Stand p l e ({ frames := 0, cells := 0, slots := 0, locals := 0 } : Room) s m #[(.ref a1), (.int p2), (.int p3)] below meth c s₁ [] 0 0 := Stand.of_body Bd
  have e0 : s₁.heap = h0 := by rw [← hh, Bd.state]; rfl
  have N0 := Fr.nil n0
  have pre0 : ∀ t, Steps p.tables e below (s₁.setTop (mkF m 0 #[.val (.ref a1), .val (.int p2), .val (.int p3)] [])) t → Steps p.tables e below (s₁.setTop (entryFrame m #[(.ref a1), (.int p2), (.int p3)] 3)) t := fun t k => castTop (ef_rmM m a1 p2 p3) k
  obtain ⟨g_aF, g_aS, g_aN, g_aP, ⟨d1, d2, d3, d4, d5, d6, d7, d8, d9, d10⟩, E_b, F1, F2, F3, F4, A1, A2, A3, A4⟩ := HI
  have K0 := Keep.refl h0 [aF, aS, aN, aP]
  obtain ⟨T1, X1, e1, st1⟩ := getF X0 hx hZ hown (host := "") (Or.inl (hw _ (List.mem_of_getElem? (i := 21) rfl))) Via.refl e0 F4 (g := (mkF m 1 #[.val (.ref a1), .val (.int p2), .val (.int p3)] [(.ref a1)])) rfl rfl (hb hby d5_1)
  obtain ⟨cl2, Ar2, Sz2, Nn2, Ge2⟩ := id A4
  have hin2 := inb_of Sz2 (j := p3) ⟨hp.1.1, hp.1.2⟩
  have P4 : ∀ t, Steps p.tables e below (T1.setTop (mkF m 7 #[.val (.ref a1), .val (.int p2), .val (.int p3)] [(.int (-1 : Int32)), (.int (S.2.2.2 p3))])) t → Steps p.tables e below (s₁.setTop (entryFrame m #[(.ref a1), (.int p2), (.int p3)] 3)) t := fun t kt => pre0 t (by
    show Steps p.tables e below (s₁.setTop (mkF m 0 #[.val (.ref a1), .val (.int p2), .val (.int p3)] [])) _
    refine XS.aloadN X0.here hx rfl (hb hby d5_0) rfl rfl ?_
    show Steps p.tables e below (s₁.setTop (mkF m 1 #[.val (.ref a1), .val (.int p2), .val (.int p3)] [(.ref a1)])) _
    refine st1 _ ?_
    show Steps p.tables e below (T1.setTop (mkF m 4 #[.val (.ref a1), .val (.int p2), .val (.int p3)] [(.ref aP)])) _
    refine XS.iloadN X1.here hx rfl (hb hby d5_4) rfl ?_
    show Steps p.tables e below (T1.setTop (mkF m 5 #[.val (.ref a1), .val (.int p2), .val (.int p3)] [(.int p3), (.ref aP)])) _
    refine X1.iaload hx (j := p3) (v := (.int (S.2.2.2 p3))) (by rw [e1]; exact Ar2.1) (State.isArrayOf_alike hZ.alike Ar2.2.1) Ar2.2.2 hin2 (Ge2 _ hp.1.1 hp.1.2) (g := (mkF m 5 #[.val (.ref a1), .val (.int p2), .val (.int p3)] [(.int p3), (.ref aP)])) rfl rfl (hb hby d5_5) _ ?_
    show Steps p.tables e below (T1.setTop (mkF m 6 #[.val (.ref a1), .val (.int p2), .val (.int p3)] [(.int (S.2.2.2 p3))])) _
    refine XS.iconst X1.here hx rfl (hb hby d5_6) ?_
    exact kt)
  by_cases hc7_3 : (S.2.2.2 p3) = (-1 : Int32)
  · skip
    obtain ⟨T5, X5, e5, st5⟩ := getF X1 hx hZ hown (host := "") (Or.inl (hw _ (List.mem_of_getElem? (i := 11) rfl))) Via.refl e1 F1 (g := (mkF m 11 #[.val (.ref a1), .val (.int p2), .val (.int p3)] [(.ref a1)])) rfl rfl (hb hby d5_11)
    obtain ⟨T6, X6, e6, st6⟩ := getF X5 hx hZ hown (host := "") (Or.inl (hw _ (List.mem_of_getElem? (i := 19) rfl))) Via.refl e5 F3 (g := (mkF m 16 #[.val (.ref a1), .val (.int p2), .val (.int p3)] [(.ref a1), (.int p2), (.ref aF)])) rfl rfl (hb hby d5_16)
    obtain ⟨cl7, Ar7, Sz7, Nn7, Ge7⟩ := id A3
    have hin7 := inb_of Sz7 (j := p3) ⟨hp.1.1, hp.1.2⟩
    obtain ⟨cl8, Ar8, Sz8, Nn8, Ge8⟩ := id A1
    have hin8 := inb_of Sz8 (j := p2) ⟨hl.1, hl.2⟩
    obtain ⟨T8, h8, X8, e8, W8, st8⟩ := stI X6 hx hZ e6 Ar8 (j := p2) hin8 (g := (mkF m 21 #[.val (.ref a1), .val (.int p2), .val (.int p3)] [(.int (S.2.2.1 p3)), (.int p2), (.ref aF)])) rfl rfl (hb hby d5_21)
    have Aw8 := own_IA_set Ar8 Sz8 Nn8 Ge8 hl.1 hl.2 W8
    have c9 := E_b.wr W8
    have c10 := F1.other W8 (Or.inl d1)
    have c11 := F2.other W8 (Or.inl d1)
    have c12 := A2.other W8 (Ne.symm d5)
    have c13 := F3.other W8 (Or.inl d1)
    have c14 := A3.other W8 (Ne.symm d6)
    have c15 := F4.other W8 (Or.inl d1)
    have c16 := A4.other W8 (Ne.symm d7)
    have Zs8 : n0 ≤ h8.size := Nat.le_trans Z0 (Keep.of_wr W8).1
    have K8 := K0.wr W8 (Or.inl (List.mem_of_getElem? (i := 0) rfl))
    have N8 := Fr.snoc X8 N0 g_aF
    obtain ⟨T17, X17, e17, st17⟩ := getF X8 hx hZ hown (host := "") (Or.inl (hw _ (List.mem_of_getElem? (i := 19) rfl))) Via.refl e8 c13 (g := (mkF m 43 #[.val (.ref a1), .val (.int p2), .val (.int p3)] [(.ref a1)])) rfl rfl (hb hby d5_43)
    obtain ⟨cl18, Ar18, Sz18, Nn18, Ge18⟩ := id c14
    have hin18 := inb_of Sz18 (j := p3) ⟨hp.1.1, hp.1.2⟩
    have hNe : own_rN S p3 = S.2.2.1 := by unfold own_rN; rw [if_pos hc7_3]
    have hNx := hp.2.2
    rw [hNe] at hNx
    have P20 : ∀ t, Steps p.tables e below (T17.setTop (mkF m 49 #[.val (.ref a1), .val (.int p2), .val (.int p3)] [(.int (-1 : Int32)), (.int (S.2.2.1 p3))])) t → Steps p.tables e below (s₁.setTop (entryFrame m #[(.ref a1), (.int p2), (.int p3)] 3)) t := fun t kt => P4 t (by
      show Steps p.tables e below (T1.setTop (mkF m 7 #[.val (.ref a1), .val (.int p2), .val (.int p3)] [(.int (-1 : Int32)), (.int (S.2.2.2 p3))])) _
      refine XS.icmpNo X1.here hx rfl (hb hby d5_7) rfl (XT.ii_ne_f hc7_3) ?_
      show Steps p.tables e below (T1.setTop (mkF m 10 #[.val (.ref a1), .val (.int p2), .val (.int p3)] [])) _
      refine XS.aloadN X1.here hx rfl (hb hby d5_10) rfl rfl ?_
      show Steps p.tables e below (T1.setTop (mkF m 11 #[.val (.ref a1), .val (.int p2), .val (.int p3)] [(.ref a1)])) _
      refine st5 _ ?_
      show Steps p.tables e below (T5.setTop (mkF m 14 #[.val (.ref a1), .val (.int p2), .val (.int p3)] [(.ref aF)])) _
      refine XS.iloadN X5.here hx rfl (hb hby d5_14) rfl ?_
      show Steps p.tables e below (T5.setTop (mkF m 15 #[.val (.ref a1), .val (.int p2), .val (.int p3)] [(.int p2), (.ref aF)])) _
      refine XS.aloadN X5.here hx rfl (hb hby d5_15) rfl rfl ?_
      show Steps p.tables e below (T5.setTop (mkF m 16 #[.val (.ref a1), .val (.int p2), .val (.int p3)] [(.ref a1), (.int p2), (.ref aF)])) _
      refine st6 _ ?_
      show Steps p.tables e below (T6.setTop (mkF m 19 #[.val (.ref a1), .val (.int p2), .val (.int p3)] [(.ref aN), (.int p2), (.ref aF)])) _
      refine XS.iloadN X6.here hx rfl (hb hby d5_19) rfl ?_
      show Steps p.tables e below (T6.setTop (mkF m 20 #[.val (.ref a1), .val (.int p2), .val (.int p3)] [(.int p3), (.ref aN), (.int p2), (.ref aF)])) _
      refine X6.iaload hx (j := p3) (v := (.int (S.2.2.1 p3))) (by rw [e6]; exact Ar7.1) (State.isArrayOf_alike hZ.alike Ar7.2.1) Ar7.2.2 hin7 (Ge7 _ hp.1.1 hp.1.2) (g := (mkF m 20 #[.val (.ref a1), .val (.int p2), .val (.int p3)] [(.int p3), (.ref aN), (.int p2), (.ref aF)])) rfl rfl (hb hby d5_20) _ ?_
      show Steps p.tables e below (T6.setTop (mkF m 21 #[.val (.ref a1), .val (.int p2), .val (.int p3)] [(.int (S.2.2.1 p3)), (.int p2), (.ref aF)])) _
      refine st8 _ ?_
      show Steps p.tables e below (T8.setTop (mkF m 22 #[.val (.ref a1), .val (.int p2), .val (.int p3)] [])) _
      refine XS.goto X8.here hx rfl (pc0 := 22) (pc' := 42) rfl (hb hby d5_22) (by decide) (by decide) ?_
      show Steps p.tables e below (T8.setTop (mkF m 42 #[.val (.ref a1), .val (.int p2), .val (.int p3)] [])) _
      refine XS.aloadN X8.here hx rfl (hb hby d5_42) rfl rfl ?_
      show Steps p.tables e below (T8.setTop (mkF m 43 #[.val (.ref a1), .val (.int p2), .val (.int p3)] [(.ref a1)])) _
      refine st17 _ ?_
      show Steps p.tables e below (T17.setTop (mkF m 46 #[.val (.ref a1), .val (.int p2), .val (.int p3)] [(.ref aN)])) _
      refine XS.iloadN X17.here hx rfl (hb hby d5_46) rfl ?_
      show Steps p.tables e below (T17.setTop (mkF m 47 #[.val (.ref a1), .val (.int p2), .val (.int p3)] [(.int p3), (.ref aN)])) _
      refine X17.iaload hx (j := p3) (v := (.int (S.2.2.1 p3))) (by rw [e17]; exact Ar18.1) (State.isArrayOf_alike hZ.alike Ar18.2.1) Ar18.2.2 hin18 (Ge18 _ hp.1.1 hp.1.2) (g := (mkF m 47 #[.val (.ref a1), .val (.int p2), .val (.int p3)] [(.int p3), (.ref aN)])) rfl rfl (hb hby d5_47) _ ?_
      show Steps p.tables e below (T17.setTop (mkF m 48 #[.val (.ref a1), .val (.int p2), .val (.int p3)] [(.int (S.2.2.1 p3))])) _
      refine XS.iconst X17.here hx rfl (hb hby d5_48) ?_
      exact kt)
    by_cases hc49_19 : (S.2.2.1 p3) = (-1 : Int32)
    · skip
      obtain ⟨T21, X21, e21, st21⟩ := getF X17 hx hZ hown (host := "") (Or.inl (hw _ (List.mem_of_getElem? (i := 17) rfl))) Via.refl e17 c11 (g := (mkF m 70 #[.val (.ref a1), .val (.int p2), .val (.int p3)] [(.ref a1)])) rfl rfl (hb hby d5_70)
      obtain ⟨cl22, Ar22, Sz22, Nn22, Ge22⟩ := id c12
      have hin22 := inb_of Sz22 (j := p2) ⟨hl.1, hl.2⟩
      obtain ⟨cl23, Ar23, Sz23, Nn23, Ge23⟩ := id c12
      have hin23 := inb_of Sz23 (j := p2) ⟨hl.1, hl.2⟩
      obtain ⟨T23, h23, X23, e23, W23, st23⟩ := stI X21 hx hZ e21 Ar23 (j := p2) hin23 (g := (mkF m 78 #[.val (.ref a1), .val (.int p2), .val (.int p3)] [(.int ((S.2.1 p2) - (1 : Int32))), (.int p2), (.ref aS)])) rfl rfl (hb hby d5_78)
      have Aw23 := own_IA_set Ar23 Sz23 Nn23 Ge23 hl.1 hl.2 W23
      have c24 := c9.wr W23
      have c25 := c10.other W23 (Or.inl d2)
      have c26 := c11.other W23 (Or.inl d2)
      have c27 := c13.other W23 (Or.inl d2)
      have c28 := c14.other W23 (Ne.symm d8)
      have c29 := c15.other W23 (Or.inl d2)
      have c30 := c16.other W23 (Ne.symm d9)
      have c31 := Aw8.other W23 d5
      have Zs23 : n0 ≤ h23.size := Nat.le_trans Zs8 (Keep.of_wr W23).1
      have K23 := K8.wr W23 (Or.inl (List.mem_of_getElem? (i := 1) rfl))
      have N23 := Fr.snoc X23 N8 g_aS
      have P32 : ∀ t, Steps p.tables e below (T23.setTop (mkF m 79 #[.val (.ref a1), .val (.int p2), .val (.int p3)] [])) t → Steps p.tables e below (s₁.setTop (entryFrame m #[(.ref a1), (.int p2), (.int p3)] 3)) t := fun t kt => P20 t (by
        show Steps p.tables e below (T17.setTop (mkF m 49 #[.val (.ref a1), .val (.int p2), .val (.int p3)] [(.int (-1 : Int32)), (.int (S.2.2.1 p3))])) _
        refine XS.icmpYes X17.here hx rfl (pc0 := 49) (pc' := 69) rfl (hb hby d5_49) rfl (XT.ii_eq_t hc49_19) (by decide) (by decide) ?_
        show Steps p.tables e below (T17.setTop (mkF m 69 #[.val (.ref a1), .val (.int p2), .val (.int p3)] [])) _
        refine XS.aloadN X17.here hx rfl (hb hby d5_69) rfl rfl ?_
        show Steps p.tables e below (T17.setTop (mkF m 70 #[.val (.ref a1), .val (.int p2), .val (.int p3)] [(.ref a1)])) _
        refine st21 _ ?_
        show Steps p.tables e below (T21.setTop (mkF m 73 #[.val (.ref a1), .val (.int p2), .val (.int p3)] [(.ref aS)])) _
        refine XS.iloadN X21.here hx rfl (hb hby d5_73) rfl ?_
        show Steps p.tables e below (T21.setTop (mkF m 74 #[.val (.ref a1), .val (.int p2), .val (.int p3)] [(.int p2), (.ref aS)])) _
        refine XT.dup2 X21.here hx rfl (hb hby d5_74) rfl rfl rfl ?_
        show Steps p.tables e below (T21.setTop (mkF m 75 #[.val (.ref a1), .val (.int p2), .val (.int p3)] [(.int p2), (.ref aS), (.int p2), (.ref aS)])) _
        refine X21.iaload hx (j := p2) (v := (.int (S.2.1 p2))) (by rw [e21]; exact Ar22.1) (State.isArrayOf_alike hZ.alike Ar22.2.1) Ar22.2.2 hin22 (Ge22 _ hl.1 hl.2) (g := (mkF m 75 #[.val (.ref a1), .val (.int p2), .val (.int p3)] [(.int p2), (.ref aS), (.int p2), (.ref aS)])) rfl rfl (hb hby d5_75) _ ?_
        show Steps p.tables e below (T21.setTop (mkF m 76 #[.val (.ref a1), .val (.int p2), .val (.int p3)] [(.int (S.2.1 p2)), (.int p2), (.ref aS)])) _
        refine XS.iconst X21.here hx rfl (hb hby d5_76) ?_
        show Steps p.tables e below (T21.setTop (mkF m 77 #[.val (.ref a1), .val (.int p2), .val (.int p3)] [(.int (1 : Int32)), (.int (S.2.1 p2)), (.int p2), (.ref aS)])) _
        refine XS.isub X21.here hx rfl (hb hby d5_77) rfl ?_
        show Steps p.tables e below (T21.setTop (mkF m 78 #[.val (.ref a1), .val (.int p2), .val (.int p3)] [(.int ((S.2.1 p2) - (1 : Int32))), (.int p2), (.ref aS)])) _
        refine st23 _ ?_
        exact kt)
      obtain ⟨fs, hr, hrun, hended, hW, hsame⟩ := X23.leave (v := none) (fun _ => rfl)
      refine ⟨_, _, P32 _ ?_, hrun, hended, _, _, rfl, ?_, ⟨_, rfl⟩, hW, hsame.mono (by decide) (by decide)⟩
      · exact X23.returnOut hx Bd.returns (hb hby d5_79) hr
      · show QM Z a1 p2 p3 aF aS aN aP S h0 n0 _ T23.heap _
        rw [e23]
        refine ⟨rfl, N23, K23, g_aF, g_aS, g_aN, g_aP, ⟨d1, d2, d3, d4, d5, d6, d7, d8, d9, d10⟩, c24, c25, c26, c27, c29, ?_, ?_, ?_, ?_⟩
        · have q : (own_rem S p2 p3).1 = (own_upd S.1 p2 (S.2.2.1 p3)) := by show (if S.2.2.2 p3 = (-1 : Int32) then _ else _) = _; rw [if_pos hc7_3]
          rw [q]; exact c31
        · exact Aw23
        · have q : (own_rem S p2 p3).2.2.1 = S.2.2.1 := by exact hNe
          rw [q]; exact c28
        · have q : (own_rem S p2 p3).2.2.2 = S.2.2.2 := by show (if own_rN S p3 p3 = (-1 : Int32) then _ else _) = _; rw [hNe, if_pos hc49_19]
          rw [q]; exact c30
    · skip
      obtain ⟨T33, X33, e33, st33⟩ := getF X17 hx hZ hown (host := "") (Or.inl (hw _ (List.mem_of_getElem? (i := 21) rfl))) Via.refl e17 c15 (g := (mkF m 53 #[.val (.ref a1), .val (.int p2), .val (.int p3)] [(.ref a1)])) rfl rfl (hb hby d5_53)
      obtain ⟨T34, X34, e34, st34⟩ := getF X33 hx hZ hown (host := "") (Or.inl (hw _ (List.mem_of_getElem? (i := 19) rfl))) Via.refl e33 c13 (g := (mkF m 57 #[.val (.ref a1), .val (.int p2), .val (.int p3)] [(.ref a1), (.ref aP)])) rfl rfl (hb hby d5_57)
      obtain ⟨cl35, Ar35, Sz35, Nn35, Ge35⟩ := id c14
      have hin35 := inb_of Sz35 (j := p3) ⟨hp.1.1, hp.1.2⟩
      obtain ⟨T36, X36, e36, st36⟩ := getF X34 hx hZ hown (host := "") (Or.inl (hw _ (List.mem_of_getElem? (i := 21) rfl))) Via.refl e34 c15 (g := (mkF m 63 #[.val (.ref a1), .val (.int p2), .val (.int p3)] [(.ref a1), (.int (S.2.2.1 p3)), (.ref aP)])) rfl rfl (hb hby d5_63)
      obtain ⟨cl37, Ar37, Sz37, Nn37, Ge37⟩ := id c16
      have hin37 := inb_of Sz37 (j := p3) ⟨hp.1.1, hp.1.2⟩
      obtain ⟨cl38, Ar38, Sz38, Nn38, Ge38⟩ := id c16
      have hin38 := inb_of Sz38 (j := (S.2.2.1 p3)) ⟨(hNx.resolve_left hc49_19).1, (hNx.resolve_left hc49_19).2⟩
      obtain ⟨T38, h38, X38, e38, W38, st38⟩ := stI X36 hx hZ e36 Ar38 (j := (S.2.2.1 p3)) hin38 (g := (mkF m 68 #[.val (.ref a1), .val (.int p2), .val (.int p3)] [(.int (S.2.2.2 p3)), (.int (S.2.2.1 p3)), (.ref aP)])) rfl rfl (hb hby d5_68)
      have Aw38 := own_IA_set Ar38 Sz38 Nn38 Ge38 (hNx.resolve_left hc49_19).1 (hNx.resolve_left hc49_19).2 W38
      have c39 := c9.wr W38
      have c40 := c10.other W38 (Or.inl d4)
      have c41 := c11.other W38 (Or.inl d4)
      have c42 := c12.other W38 d9
      have c43 := c13.other W38 (Or.inl d4)
      have c44 := c14.other W38 d10
      have c45 := c15.other W38 (Or.inl d4)
      have c46 := Aw8.other W38 d7
      have Zs38 : n0 ≤ h38.size := Nat.le_trans Zs8 (Keep.of_wr W38).1
      have K38 := K8.wr W38 (Or.inl (List.mem_of_getElem? (i := 3) rfl))
      have N38 := Fr.snoc X38 N8 g_aP
      obtain ⟨T47, X47, e47, st47⟩ := getF X38 hx hZ hown (host := "") (Or.inl (hw _ (List.mem_of_getElem? (i := 17) rfl))) Via.refl e38 c41 (g := (mkF m 70 #[.val (.ref a1), .val (.int p2), .val (.int p3)] [(.ref a1)])) rfl rfl (hb hby d5_70)
      obtain ⟨cl48, Ar48, Sz48, Nn48, Ge48⟩ := id c42
      have hin48 := inb_of Sz48 (j := p2) ⟨hl.1, hl.2⟩
      obtain ⟨cl49, Ar49, Sz49, Nn49, Ge49⟩ := id c42
      have hin49 := inb_of Sz49 (j := p2) ⟨hl.1, hl.2⟩
      obtain ⟨T49, h49, X49, e49, W49, st49⟩ := stI X47 hx hZ e47 Ar49 (j := p2) hin49 (g := (mkF m 78 #[.val (.ref a1), .val (.int p2), .val (.int p3)] [(.int ((S.2.1 p2) - (1 : Int32))), (.int p2), (.ref aS)])) rfl rfl (hb hby d5_78)
      have Aw49 := own_IA_set Ar49 Sz49 Nn49 Ge49 hl.1 hl.2 W49
      have c50 := c39.wr W49
      have c51 := c40.other W49 (Or.inl d2)
      have c52 := c41.other W49 (Or.inl d2)
      have c53 := c43.other W49 (Or.inl d2)
      have c54 := c44.other W49 (Ne.symm d8)
      have c55 := c45.other W49 (Or.inl d2)
      have c56 := c46.other W49 d5
      have c57 := Aw38.other W49 (Ne.symm d9)
      have Zs49 : n0 ≤ h49.size := Nat.le_trans Zs38 (Keep.of_wr W49).1
      have K49 := K38.wr W49 (Or.inl (List.mem_of_getElem? (i := 1) rfl))
      have N49 := Fr.snoc X49 N38 g_aS
      have P58 : ∀ t, Steps p.tables e below (T49.setTop (mkF m 79 #[.val (.ref a1), .val (.int p2), .val (.int p3)] [])) t → Steps p.tables e below (s₁.setTop (entryFrame m #[(.ref a1), (.int p2), (.int p3)] 3)) t := fun t kt => P20 t (by
        show Steps p.tables e below (T17.setTop (mkF m 49 #[.val (.ref a1), .val (.int p2), .val (.int p3)] [(.int (-1 : Int32)), (.int (S.2.2.1 p3))])) _
        refine XS.icmpNo X17.here hx rfl (hb hby d5_49) rfl (XT.ii_eq_f hc49_19) ?_
        show Steps p.tables e below (T17.setTop (mkF m 52 #[.val (.ref a1), .val (.int p2), .val (.int p3)] [])) _
        refine XS.aloadN X17.here hx rfl (hb hby d5_52) rfl rfl ?_
        show Steps p.tables e below (T17.setTop (mkF m 53 #[.val (.ref a1), .val (.int p2), .val (.int p3)] [(.ref a1)])) _
        refine st33 _ ?_
        show Steps p.tables e below (T33.setTop (mkF m 56 #[.val (.ref a1), .val (.int p2), .val (.int p3)] [(.ref aP)])) _
        refine XS.aloadN X33.here hx rfl (hb hby d5_56) rfl rfl ?_
        show Steps p.tables e below (T33.setTop (mkF m 57 #[.val (.ref a1), .val (.int p2), .val (.int p3)] [(.ref a1), (.ref aP)])) _
        refine st34 _ ?_
        show Steps p.tables e below (T34.setTop (mkF m 60 #[.val (.ref a1), .val (.int p2), .val (.int p3)] [(.ref aN), (.ref aP)])) _
        refine XS.iloadN X34.here hx rfl (hb hby d5_60) rfl ?_
        show Steps p.tables e below (T34.setTop (mkF m 61 #[.val (.ref a1), .val (.int p2), .val (.int p3)] [(.int p3), (.ref aN), (.ref aP)])) _
        refine X34.iaload hx (j := p3) (v := (.int (S.2.2.1 p3))) (by rw [e34]; exact Ar35.1) (State.isArrayOf_alike hZ.alike Ar35.2.1) Ar35.2.2 hin35 (Ge35 _ hp.1.1 hp.1.2) (g := (mkF m 61 #[.val (.ref a1), .val (.int p2), .val (.int p3)] [(.int p3), (.ref aN), (.ref aP)])) rfl rfl (hb hby d5_61) _ ?_
        show Steps p.tables e below (T34.setTop (mkF m 62 #[.val (.ref a1), .val (.int p2), .val (.int p3)] [(.int (S.2.2.1 p3)), (.ref aP)])) _
        refine XS.aloadN X34.here hx rfl (hb hby d5_62) rfl rfl ?_
        show Steps p.tables e below (T34.setTop (mkF m 63 #[.val (.ref a1), .val (.int p2), .val (.int p3)] [(.ref a1), (.int (S.2.2.1 p3)), (.ref aP)])) _
        refine st36 _ ?_
        show Steps p.tables e below (T36.setTop (mkF m 66 #[.val (.ref a1), .val (.int p2), .val (.int p3)] [(.ref aP), (.int (S.2.2.1 p3)), (.ref aP)])) _
        refine XS.iloadN X36.here hx rfl (hb hby d5_66) rfl ?_
        show Steps p.tables e below (T36.setTop (mkF m 67 #[.val (.ref a1), .val (.int p2), .val (.int p3)] [(.int p3), (.ref aP), (.int (S.2.2.1 p3)), (.ref aP)])) _
        refine X36.iaload hx (j := p3) (v := (.int (S.2.2.2 p3))) (by rw [e36]; exact Ar37.1) (State.isArrayOf_alike hZ.alike Ar37.2.1) Ar37.2.2 hin37 (Ge37 _ hp.1.1 hp.1.2) (g := (mkF m 67 #[.val (.ref a1), .val (.int p2), .val (.int p3)] [(.int p3), (.ref aP), (.int (S.2.2.1 p3)), (.ref aP)])) rfl rfl (hb hby d5_67) _ ?_
        show Steps p.tables e below (T36.setTop (mkF m 68 #[.val (.ref a1), .val (.int p2), .val (.int p3)] [(.int (S.2.2.2 p3)), (.int (S.2.2.1 p3)), (.ref aP)])) _
        refine st38 _ ?_
        show Steps p.tables e below (T38.setTop (mkF m 69 #[.val (.ref a1), .val (.int p2), .val (.int p3)] [])) _
        refine XS.aloadN X38.here hx rfl (hb hby d5_69) rfl rfl ?_
        show Steps p.tables e below (T38.setTop (mkF m 70 #[.val (.ref a1), .val (.int p2), .val (.int p3)] [(.ref a1)])) _
        refine st47 _ ?_
        show Steps p.tables e below (T47.setTop (mkF m 73 #[.val (.ref a1), .val (.int p2), .val (.int p3)] [(.ref aS)])) _
        refine XS.iloadN X47.here hx rfl (hb hby d5_73) rfl ?_
        show Steps p.tables e below (T47.setTop (mkF m 74 #[.val (.ref a1), .val (.int p2), .val (.int p3)] [(.int p2), (.ref aS)])) _
        refine XT.dup2 X47.here hx rfl (hb hby d5_74) rfl rfl rfl ?_
        show Steps p.tables e below (T47.setTop (mkF m 75 #[.val (.ref a1), .val (.int p2), .val (.int p3)] [(.int p2), (.ref aS), (.int p2), (.ref aS)])) _
        refine X47.iaload hx (j := p2) (v := (.int (S.2.1 p2))) (by rw [e47]; exact Ar48.1) (State.isArrayOf_alike hZ.alike Ar48.2.1) Ar48.2.2 hin48 (Ge48 _ hl.1 hl.2) (g := (mkF m 75 #[.val (.ref a1), .val (.int p2), .val (.int p3)] [(.int p2), (.ref aS), (.int p2), (.ref aS)])) rfl rfl (hb hby d5_75) _ ?_
        show Steps p.tables e below (T47.setTop (mkF m 76 #[.val (.ref a1), .val (.int p2), .val (.int p3)] [(.int (S.2.1 p2)), (.int p2), (.ref aS)])) _
        refine XS.iconst X47.here hx rfl (hb hby d5_76) ?_
        show Steps p.tables e below (T47.setTop (mkF m 77 #[.val (.ref a1), .val (.int p2), .val (.int p3)] [(.int (1 : Int32)), (.int (S.2.1 p2)), (.int p2), (.ref aS)])) _
        refine XS.isub X47.here hx rfl (hb hby d5_77) rfl ?_
        show Steps p.tables e below (T47.setTop (mkF m 78 #[.val (.ref a1), .val (.int p2), .val (.int p3)] [(.int ((S.2.1 p2) - (1 : Int32))), (.int p2), (.ref aS)])) _
        refine st49 _ ?_
        exact kt)
      obtain ⟨fs, hr, hrun, hended, hW, hsame⟩ := X49.leave (v := none) (fun _ => rfl)
      refine ⟨_, _, P58 _ ?_, hrun, hended, _, _, rfl, ?_, ⟨_, rfl⟩, hW, hsame.mono (by decide) (by decide)⟩
      · exact X49.returnOut hx Bd.returns (hb hby d5_79) hr
      · show QM Z a1 p2 p3 aF aS aN aP S h0 n0 _ T49.heap _
        rw [e49]
        refine ⟨rfl, N49, K49, g_aF, g_aS, g_aN, g_aP, ⟨d1, d2, d3, d4, d5, d6, d7, d8, d9, d10⟩, c50, c51, c52, c53, c55, ?_, ?_, ?_, ?_⟩
        · have q : (own_rem S p2 p3).1 = (own_upd S.1 p2 (S.2.2.1 p3)) := by show (if S.2.2.2 p3 = (-1 : Int32) then _ else _) = _; rw [if_pos hc7_3]
          rw [q]; exact c56
        · exact Aw49
        · have q : (own_rem S p2 p3).2.2.1 = S.2.2.1 := by exact hNe
          rw [q]; exact c54
        · have q : (own_rem S p2 p3).2.2.2 = (own_upd S.2.2.2 (S.2.2.1 p3) (S.2.2.2 p3)) := by show (if own_rN S p3 p3 = (-1 : Int32) then _ else _) = _; rw [hNe, if_neg hc49_19]
          rw [q]; exact c57
  · skip
    obtain ⟨T59, X59, e59, st59⟩ := getF X1 hx hZ hown (host := "") (Or.inl (hw _ (List.mem_of_getElem? (i := 19) rfl))) Via.refl e1 F3 (g := (mkF m 26 #[.val (.ref a1), .val (.int p2), .val (.int p3)] [(.ref a1)])) rfl rfl (hb hby d5_26)
    obtain ⟨T60, X60, e60, st60⟩ := getF X59 hx hZ hown (host := "") (Or.inl (hw _ (List.mem_of_getElem? (i := 21) rfl))) Via.refl e59 F4 (g := (mkF m 30 #[.val (.ref a1), .val (.int p2), .val (.int p3)] [(.ref a1), (.ref aN)])) rfl rfl (hb hby d5_30)
    obtain ⟨cl61, Ar61, Sz61, Nn61, Ge61⟩ := id A4
    have hin61 := inb_of Sz61 (j := p3) ⟨hp.1.1, hp.1.2⟩
    obtain ⟨T62, X62, e62, st62⟩ := getF X60 hx hZ hown (host := "") (Or.inl (hw _ (List.mem_of_getElem? (i := 19) rfl))) Via.refl e60 F3 (g := (mkF m 36 #[.val (.ref a1), .val (.int p2), .val (.int p3)] [(.ref a1), (.int (S.2.2.2 p3)), (.ref aN)])) rfl rfl (hb hby d5_36)
    obtain ⟨cl63, Ar63, Sz63, Nn63, Ge63⟩ := id A3
    have hin63 := inb_of Sz63 (j := p3) ⟨hp.1.1, hp.1.2⟩
    obtain ⟨cl64, Ar64, Sz64, Nn64, Ge64⟩ := id A3
    have hin64 := inb_of Sz64 (j := (S.2.2.2 p3)) ⟨(hp.2.1.resolve_left hc7_3).1, (hp.2.1.resolve_left hc7_3).2⟩
    obtain ⟨T64, h64, X64, e64, W64, st64⟩ := stI X62 hx hZ e62 Ar64 (j := (S.2.2.2 p3)) hin64 (g := (mkF m 41 #[.val (.ref a1), .val (.int p2), .val (.int p3)] [(.int (S.2.2.1 p3)), (.int (S.2.2.2 p3)), (.ref aN)])) rfl rfl (hb hby d5_41)
    have Aw64 := own_IA_set Ar64 Sz64 Nn64 Ge64 (hp.2.1.resolve_left hc7_3).1 (hp.2.1.resolve_left hc7_3).2 W64
    have c65 := E_b.wr W64
    have c66 := F1.other W64 (Or.inl d3)
    have c67 := A1.other W64 d6
    have c68 := F2.other W64 (Or.inl d3)
    have c69 := A2.other W64 d8
    have c70 := F3.other W64 (Or.inl d3)
    have c71 := F4.other W64 (Or.inl d3)
    have c72 := A4.other W64 (Ne.symm d10)
    have Zs64 : n0 ≤ h64.size := Nat.le_trans Z0 (Keep.of_wr W64).1
    have K64 := K0.wr W64 (Or.inl (List.mem_of_getElem? (i := 2) rfl))
    have N64 := Fr.snoc X64 N0 g_aN
    obtain ⟨T73, X73, e73, st73⟩ := getF X64 hx hZ hown (host := "") (Or.inl (hw _ (List.mem_of_getElem? (i := 19) rfl))) Via.refl e64 c70 (g := (mkF m 43 #[.val (.ref a1), .val (.int p2), .val (.int p3)] [(.ref a1)])) rfl rfl (hb hby d5_43)
    obtain ⟨cl74, Ar74, Sz74, Nn74, Ge74⟩ := id Aw64
    have hin74 := inb_of Sz74 (j := p3) ⟨hp.1.1, hp.1.2⟩
    have hNe : own_rN S p3 = (own_upd S.2.2.1 (S.2.2.2 p3) (S.2.2.1 p3)) := by unfold own_rN; rw [if_neg hc7_3]
    have hNx := hp.2.2
    rw [hNe] at hNx
    have P76 : ∀ t, Steps p.tables e below (T73.setTop (mkF m 49 #[.val (.ref a1), .val (.int p2), .val (.int p3)] [(.int (-1 : Int32)), (.int ((own_upd S.2.2.1 (S.2.2.2 p3) (S.2.2.1 p3)) p3))])) t → Steps p.tables e below (s₁.setTop (entryFrame m #[(.ref a1), (.int p2), (.int p3)] 3)) t := fun t kt => P4 t (by
      show Steps p.tables e below (T1.setTop (mkF m 7 #[.val (.ref a1), .val (.int p2), .val (.int p3)] [(.int (-1 : Int32)), (.int (S.2.2.2 p3))])) _
      refine XS.icmpYes X1.here hx rfl (pc0 := 7) (pc' := 25) rfl (hb hby d5_7) rfl (XT.ii_ne_t hc7_3) (by decide) (by decide) ?_
      show Steps p.tables e below (T1.setTop (mkF m 25 #[.val (.ref a1), .val (.int p2), .val (.int p3)] [])) _
      refine XS.aloadN X1.here hx rfl (hb hby d5_25) rfl rfl ?_
      show Steps p.tables e below (T1.setTop (mkF m 26 #[.val (.ref a1), .val (.int p2), .val (.int p3)] [(.ref a1)])) _
      refine st59 _ ?_
      show Steps p.tables e below (T59.setTop (mkF m 29 #[.val (.ref a1), .val (.int p2), .val (.int p3)] [(.ref aN)])) _
      refine XS.aloadN X59.here hx rfl (hb hby d5_29) rfl rfl ?_
      show Steps p.tables e below (T59.setTop (mkF m 30 #[.val (.ref a1), .val (.int p2), .val (.int p3)] [(.ref a1), (.ref aN)])) _
      refine st60 _ ?_
      show Steps p.tables e below (T60.setTop (mkF m 33 #[.val (.ref a1), .val (.int p2), .val (.int p3)] [(.ref aP), (.ref aN)])) _
      refine XS.iloadN X60.here hx rfl (hb hby d5_33) rfl ?_
      show Steps p.tables e below (T60.setTop (mkF m 34 #[.val (.ref a1), .val (.int p2), .val (.int p3)] [(.int p3), (.ref aP), (.ref aN)])) _
      refine X60.iaload hx (j := p3) (v := (.int (S.2.2.2 p3))) (by rw [e60]; exact Ar61.1) (State.isArrayOf_alike hZ.alike Ar61.2.1) Ar61.2.2 hin61 (Ge61 _ hp.1.1 hp.1.2) (g := (mkF m 34 #[.val (.ref a1), .val (.int p2), .val (.int p3)] [(.int p3), (.ref aP), (.ref aN)])) rfl rfl (hb hby d5_34) _ ?_
      show Steps p.tables e below (T60.setTop (mkF m 35 #[.val (.ref a1), .val (.int p2), .val (.int p3)] [(.int (S.2.2.2 p3)), (.ref aN)])) _
      refine XS.aloadN X60.here hx rfl (hb hby d5_35) rfl rfl ?_
      show Steps p.tables e below (T60.setTop (mkF m 36 #[.val (.ref a1), .val (.int p2), .val (.int p3)] [(.ref a1), (.int (S.2.2.2 p3)), (.ref aN)])) _
      refine st62 _ ?_
      show Steps p.tables e below (T62.setTop (mkF m 39 #[.val (.ref a1), .val (.int p2), .val (.int p3)] [(.ref aN), (.int (S.2.2.2 p3)), (.ref aN)])) _
      refine XS.iloadN X62.here hx rfl (hb hby d5_39) rfl ?_
      show Steps p.tables e below (T62.setTop (mkF m 40 #[.val (.ref a1), .val (.int p2), .val (.int p3)] [(.int p3), (.ref aN), (.int (S.2.2.2 p3)), (.ref aN)])) _
      refine X62.iaload hx (j := p3) (v := (.int (S.2.2.1 p3))) (by rw [e62]; exact Ar63.1) (State.isArrayOf_alike hZ.alike Ar63.2.1) Ar63.2.2 hin63 (Ge63 _ hp.1.1 hp.1.2) (g := (mkF m 40 #[.val (.ref a1), .val (.int p2), .val (.int p3)] [(.int p3), (.ref aN), (.int (S.2.2.2 p3)), (.ref aN)])) rfl rfl (hb hby d5_40) _ ?_
      show Steps p.tables e below (T62.setTop (mkF m 41 #[.val (.ref a1), .val (.int p2), .val (.int p3)] [(.int (S.2.2.1 p3)), (.int (S.2.2.2 p3)), (.ref aN)])) _
      refine st64 _ ?_
      show Steps p.tables e below (T64.setTop (mkF m 42 #[.val (.ref a1), .val (.int p2), .val (.int p3)] [])) _
      refine XS.aloadN X64.here hx rfl (hb hby d5_42) rfl rfl ?_
      show Steps p.tables e below (T64.setTop (mkF m 43 #[.val (.ref a1), .val (.int p2), .val (.int p3)] [(.ref a1)])) _
      refine st73 _ ?_
      show Steps p.tables e below (T73.setTop (mkF m 46 #[.val (.ref a1), .val (.int p2), .val (.int p3)] [(.ref aN)])) _
      refine XS.iloadN X73.here hx rfl (hb hby d5_46) rfl ?_
      show Steps p.tables e below (T73.setTop (mkF m 47 #[.val (.ref a1), .val (.int p2), .val (.int p3)] [(.int p3), (.ref aN)])) _
      refine X73.iaload hx (j := p3) (v := (.int ((own_upd S.2.2.1 (S.2.2.2 p3) (S.2.2.1 p3)) p3))) (by rw [e73]; exact Ar74.1) (State.isArrayOf_alike hZ.alike Ar74.2.1) Ar74.2.2 hin74 (Ge74 _ hp.1.1 hp.1.2) (g := (mkF m 47 #[.val (.ref a1), .val (.int p2), .val (.int p3)] [(.int p3), (.ref aN)])) rfl rfl (hb hby d5_47) _ ?_
      show Steps p.tables e below (T73.setTop (mkF m 48 #[.val (.ref a1), .val (.int p2), .val (.int p3)] [(.int ((own_upd S.2.2.1 (S.2.2.2 p3) (S.2.2.1 p3)) p3))])) _
      refine XS.iconst X73.here hx rfl (hb hby d5_48) ?_
      exact kt)
    by_cases hc49_75 : ((own_upd S.2.2.1 (S.2.2.2 p3) (S.2.2.1 p3)) p3) = (-1 : Int32)
    · skip
      obtain ⟨T77, X77, e77, st77⟩ := getF X73 hx hZ hown (host := "") (Or.inl (hw _ (List.mem_of_getElem? (i := 17) rfl))) Via.refl e73 c68 (g := (mkF m 70 #[.val (.ref a1), .val (.int p2), .val (.int p3)] [(.ref a1)])) rfl rfl (hb hby d5_70)
      obtain ⟨cl78, Ar78, Sz78, Nn78, Ge78⟩ := id c69
      have hin78 := inb_of Sz78 (j := p2) ⟨hl.1, hl.2⟩
      obtain ⟨cl79, Ar79, Sz79, Nn79, Ge79⟩ := id c69
      have hin79 := inb_of Sz79 (j := p2) ⟨hl.1, hl.2⟩
      obtain ⟨T79, h79, X79, e79, W79, st79⟩ := stI X77 hx hZ e77 Ar79 (j := p2) hin79 (g := (mkF m 78 #[.val (.ref a1), .val (.int p2), .val (.int p3)] [(.int ((S.2.1 p2) - (1 : Int32))), (.int p2), (.ref aS)])) rfl rfl (hb hby d5_78)
      have Aw79 := own_IA_set Ar79 Sz79 Nn79 Ge79 hl.1 hl.2 W79
      have c80 := c65.wr W79
      have c81 := c66.other W79 (Or.inl d2)
      have c82 := c67.other W79 d5
      have c83 := c68.other W79 (Or.inl d2)
      have c84 := c70.other W79 (Or.inl d2)
      have c85 := c71.other W79 (Or.inl d2)
      have c86 := c72.other W79 (Ne.symm d9)
      have c87 := Aw64.other W79 (Ne.symm d8)
      have Zs79 : n0 ≤ h79.size := Nat.le_trans Zs64 (Keep.of_wr W79).1
      have K79 := K64.wr W79 (Or.inl (List.mem_of_getElem? (i := 1) rfl))
      have N79 := Fr.snoc X79 N64 g_aS
      have P88 : ∀ t, Steps p.tables e below (T79.setTop (mkF m 79 #[.val (.ref a1), .val (.int p2), .val (.int p3)] [])) t → Steps p.tables e below (s₁.setTop (entryFrame m #[(.ref a1), (.int p2), (.int p3)] 3)) t := fun t kt => P76 t (by
        show Steps p.tables e below (T73.setTop (mkF m 49 #[.val (.ref a1), .val (.int p2), .val (.int p3)] [(.int (-1 : Int32)), (.int ((own_upd S.2.2.1 (S.2.2.2 p3) (S.2.2.1 p3)) p3))])) _
        refine XS.icmpYes X73.here hx rfl (pc0 := 49) (pc' := 69) rfl (hb hby d5_49) rfl (XT.ii_eq_t hc49_75) (by decide) (by decide) ?_
        show Steps p.tables e below (T73.setTop (mkF m 69 #[.val (.ref a1), .val (.int p2), .val (.int p3)] [])) _
        refine XS.aloadN X73.here hx rfl (hb hby d5_69) rfl rfl ?_
        show Steps p.tables e below (T73.setTop (mkF m 70 #[.val (.ref a1), .val (.int p2), .val (.int p3)] [(.ref a1)])) _
        refine st77 _ ?_
        show Steps p.tables e below (T77.setTop (mkF m 73 #[.val (.ref a1), .val (.int p2), .val (.int p3)] [(.ref aS)])) _
        refine XS.iloadN X77.here hx rfl (hb hby d5_73) rfl ?_
        show Steps p.tables e below (T77.setTop (mkF m 74 #[.val (.ref a1), .val (.int p2), .val (.int p3)] [(.int p2), (.ref aS)])) _
        refine XT.dup2 X77.here hx rfl (hb hby d5_74) rfl rfl rfl ?_
        show Steps p.tables e below (T77.setTop (mkF m 75 #[.val (.ref a1), .val (.int p2), .val (.int p3)] [(.int p2), (.ref aS), (.int p2), (.ref aS)])) _
        refine X77.iaload hx (j := p2) (v := (.int (S.2.1 p2))) (by rw [e77]; exact Ar78.1) (State.isArrayOf_alike hZ.alike Ar78.2.1) Ar78.2.2 hin78 (Ge78 _ hl.1 hl.2) (g := (mkF m 75 #[.val (.ref a1), .val (.int p2), .val (.int p3)] [(.int p2), (.ref aS), (.int p2), (.ref aS)])) rfl rfl (hb hby d5_75) _ ?_
        show Steps p.tables e below (T77.setTop (mkF m 76 #[.val (.ref a1), .val (.int p2), .val (.int p3)] [(.int (S.2.1 p2)), (.int p2), (.ref aS)])) _
        refine XS.iconst X77.here hx rfl (hb hby d5_76) ?_
        show Steps p.tables e below (T77.setTop (mkF m 77 #[.val (.ref a1), .val (.int p2), .val (.int p3)] [(.int (1 : Int32)), (.int (S.2.1 p2)), (.int p2), (.ref aS)])) _
        refine XS.isub X77.here hx rfl (hb hby d5_77) rfl ?_
        show Steps p.tables e below (T77.setTop (mkF m 78 #[.val (.ref a1), .val (.int p2), .val (.int p3)] [(.int ((S.2.1 p2) - (1 : Int32))), (.int p2), (.ref aS)])) _
        refine st79 _ ?_
        exact kt)
      obtain ⟨fs, hr, hrun, hended, hW, hsame⟩ := X79.leave (v := none) (fun _ => rfl)
      refine ⟨_, _, P88 _ ?_, hrun, hended, _, _, rfl, ?_, ⟨_, rfl⟩, hW, hsame.mono (by decide) (by decide)⟩
      · exact X79.returnOut hx Bd.returns (hb hby d5_79) hr
      · show QM Z a1 p2 p3 aF aS aN aP S h0 n0 _ T79.heap _
        rw [e79]
        refine ⟨rfl, N79, K79, g_aF, g_aS, g_aN, g_aP, ⟨d1, d2, d3, d4, d5, d6, d7, d8, d9, d10⟩, c80, c81, c83, c84, c85, ?_, ?_, ?_, ?_⟩
        · have q : (own_rem S p2 p3).1 = S.1 := by show (if S.2.2.2 p3 = (-1 : Int32) then _ else _) = _; rw [if_neg hc7_3]
          rw [q]; exact c82
        · exact Aw79
        · have q : (own_rem S p2 p3).2.2.1 = (own_upd S.2.2.1 (S.2.2.2 p3) (S.2.2.1 p3)) := by exact hNe
          rw [q]; exact c87
        · have q : (own_rem S p2 p3).2.2.2 = S.2.2.2 := by show (if own_rN S p3 p3 = (-1 : Int32) then _ else _) = _; rw [hNe, if_pos hc49_75]
          rw [q]; exact c86
    · skip
      obtain ⟨T89, X89, e89, st89⟩ := getF X73 hx hZ hown (host := "") (Or.inl (hw _ (List.mem_of_getElem? (i := 21) rfl))) Via.refl e73 c71 (g := (mkF m 53 #[.val (.ref a1), .val (.int p2), .val (.int p3)] [(.ref a1)])) rfl rfl (hb hby d5_53)
      obtain ⟨T90, X90, e90, st90⟩ := getF X89 hx hZ hown (host := "") (Or.inl (hw _ (List.mem_of_getElem? (i := 19) rfl))) Via.refl e89 c70 (g := (mkF m 57 #[.val (.ref a1), .val (.int p2), .val (.int p3)] [(.ref a1), (.ref aP)])) rfl rfl (hb hby d5_57)
      obtain ⟨cl91, Ar91, Sz91, Nn91, Ge91⟩ := id Aw64
      have hin91 := inb_of Sz91 (j := p3) ⟨hp.1.1, hp.1.2⟩
      obtain ⟨T92, X92, e92, st92⟩ := getF X90 hx hZ hown (host := "") (Or.inl (hw _ (List.mem_of_getElem? (i := 21) rfl))) Via.refl e90 c71 (g := (mkF m 63 #[.val (.ref a1), .val (.int p2), .val (.int p3)] [(.ref a1), (.int ((own_upd S.2.2.1 (S.2.2.2 p3) (S.2.2.1 p3)) p3)), (.ref aP)])) rfl rfl (hb hby d5_63)
      obtain ⟨cl93, Ar93, Sz93, Nn93, Ge93⟩ := id c72
      have hin93 := inb_of Sz93 (j := p3) ⟨hp.1.1, hp.1.2⟩
      obtain ⟨cl94, Ar94, Sz94, Nn94, Ge94⟩ := id c72
      have hin94 := inb_of Sz94 (j := ((own_upd S.2.2.1 (S.2.2.2 p3) (S.2.2.1 p3)) p3)) ⟨(hNx.resolve_left hc49_75).1, (hNx.resolve_left hc49_75).2⟩
      obtain ⟨T94, h94, X94, e94, W94, st94⟩ := stI X92 hx hZ e92 Ar94 (j := ((own_upd S.2.2.1 (S.2.2.2 p3) (S.2.2.1 p3)) p3)) hin94 (g := (mkF m 68 #[.val (.ref a1), .val (.int p2), .val (.int p3)] [(.int (S.2.2.2 p3)), (.int ((own_upd S.2.2.1 (S.2.2.2 p3) (S.2.2.1 p3)) p3)), (.ref aP)])) rfl rfl (hb hby d5_68)
      have Aw94 := own_IA_set Ar94 Sz94 Nn94 Ge94 (hNx.resolve_left hc49_75).1 (hNx.resolve_left hc49_75).2 W94
      have c95 := c65.wr W94
      have c96 := c66.other W94 (Or.inl d4)
      have c97 := c67.other W94 d7
      have c98 := c68.other W94 (Or.inl d4)
      have c99 := c69.other W94 d9
      have c100 := c70.other W94 (Or.inl d4)
      have c101 := c71.other W94 (Or.inl d4)
      have c102 := Aw64.other W94 d10
      have Zs94 : n0 ≤ h94.size := Nat.le_trans Zs64 (Keep.of_wr W94).1
      have K94 := K64.wr W94 (Or.inl (List.mem_of_getElem? (i := 3) rfl))
      have N94 := Fr.snoc X94 N64 g_aP
      obtain ⟨T103, X103, e103, st103⟩ := getF X94 hx hZ hown (host := "") (Or.inl (hw _ (List.mem_of_getElem? (i := 17) rfl))) Via.refl e94 c98 (g := (mkF m 70 #[.val (.ref a1), .val (.int p2), .val (.int p3)] [(.ref a1)])) rfl rfl (hb hby d5_70)
      obtain ⟨cl104, Ar104, Sz104, Nn104, Ge104⟩ := id c99
      have hin104 := inb_of Sz104 (j := p2) ⟨hl.1, hl.2⟩
      obtain ⟨cl105, Ar105, Sz105, Nn105, Ge105⟩ := id c99
      have hin105 := inb_of Sz105 (j := p2) ⟨hl.1, hl.2⟩
      obtain ⟨T105, h105, X105, e105, W105, st105⟩ := stI X103 hx hZ e103 Ar105 (j := p2) hin105 (g := (mkF m 78 #[.val (.ref a1), .val (.int p2), .val (.int p3)] [(.int ((S.2.1 p2) - (1 : Int32))), (.int p2), (.ref aS)])) rfl rfl (hb hby d5_78)
      have Aw105 := own_IA_set Ar105 Sz105 Nn105 Ge105 hl.1 hl.2 W105
      have c106 := c95.wr W105
      have c107 := c96.other W105 (Or.inl d2)
      have c108 := c97.other W105 d5
      have c109 := c98.other W105 (Or.inl d2)
      have c110 := c100.other W105 (Or.inl d2)
      have c111 := c101.other W105 (Or.inl d2)
      have c112 := c102.other W105 (Ne.symm d8)
      have c113 := Aw94.other W105 (Ne.symm d9)
      have Zs105 : n0 ≤ h105.size := Nat.le_trans Zs94 (Keep.of_wr W105).1
      have K105 := K94.wr W105 (Or.inl (List.mem_of_getElem? (i := 1) rfl))
      have N105 := Fr.snoc X105 N94 g_aS
      have P114 : ∀ t, Steps p.tables e below (T105.setTop (mkF m 79 #[.val (.ref a1), .val (.int p2), .val (.int p3)] [])) t → Steps p.tables e below (s₁.setTop (entryFrame m #[(.ref a1), (.int p2), (.int p3)] 3)) t := fun t kt => P76 t (by
        show Steps p.tables e below (T73.setTop (mkF m 49 #[.val (.ref a1), .val (.int p2), .val (.int p3)] [(.int (-1 : Int32)), (.int ((own_upd S.2.2.1 (S.2.2.2 p3) (S.2.2.1 p3)) p3))])) _
        refine XS.icmpNo X73.here hx rfl (hb hby d5_49) rfl (XT.ii_eq_f hc49_75) ?_
        show Steps p.tables e below (T73.setTop (mkF m 52 #[.val (.ref a1), .val (.int p2), .val (.int p3)] [])) _
        refine XS.aloadN X73.here hx rfl (hb hby d5_52) rfl rfl ?_
        show Steps p.tables e below (T73.setTop (mkF m 53 #[.val (.ref a1), .val (.int p2), .val (.int p3)] [(.ref a1)])) _
        refine st89 _ ?_
        show Steps p.tables e below (T89.setTop (mkF m 56 #[.val (.ref a1), .val (.int p2), .val (.int p3)] [(.ref aP)])) _
        refine XS.aloadN X89.here hx rfl (hb hby d5_56) rfl rfl ?_
        show Steps p.tables e below (T89.setTop (mkF m 57 #[.val (.ref a1), .val (.int p2), .val (.int p3)] [(.ref a1), (.ref aP)])) _
        refine st90 _ ?_
        show Steps p.tables e below (T90.setTop (mkF m 60 #[.val (.ref a1), .val (.int p2), .val (.int p3)] [(.ref aN), (.ref aP)])) _
        refine XS.iloadN X90.here hx rfl (hb hby d5_60) rfl ?_
        show Steps p.tables e below (T90.setTop (mkF m 61 #[.val (.ref a1), .val (.int p2), .val (.int p3)] [(.int p3), (.ref aN), (.ref aP)])) _
        refine X90.iaload hx (j := p3) (v := (.int ((own_upd S.2.2.1 (S.2.2.2 p3) (S.2.2.1 p3)) p3))) (by rw [e90]; exact Ar91.1) (State.isArrayOf_alike hZ.alike Ar91.2.1) Ar91.2.2 hin91 (Ge91 _ hp.1.1 hp.1.2) (g := (mkF m 61 #[.val (.ref a1), .val (.int p2), .val (.int p3)] [(.int p3), (.ref aN), (.ref aP)])) rfl rfl (hb hby d5_61) _ ?_
        show Steps p.tables e below (T90.setTop (mkF m 62 #[.val (.ref a1), .val (.int p2), .val (.int p3)] [(.int ((own_upd S.2.2.1 (S.2.2.2 p3) (S.2.2.1 p3)) p3)), (.ref aP)])) _
        refine XS.aloadN X90.here hx rfl (hb hby d5_62) rfl rfl ?_
        show Steps p.tables e below (T90.setTop (mkF m 63 #[.val (.ref a1), .val (.int p2), .val (.int p3)] [(.ref a1), (.int ((own_upd S.2.2.1 (S.2.2.2 p3) (S.2.2.1 p3)) p3)), (.ref aP)])) _
        refine st92 _ ?_
        show Steps p.tables e below (T92.setTop (mkF m 66 #[.val (.ref a1), .val (.int p2), .val (.int p3)] [(.ref aP), (.int ((own_upd S.2.2.1 (S.2.2.2 p3) (S.2.2.1 p3)) p3)), (.ref aP)])) _
        refine XS.iloadN X92.here hx rfl (hb hby d5_66) rfl ?_
        show Steps p.tables e below (T92.setTop (mkF m 67 #[.val (.ref a1), .val (.int p2), .val (.int p3)] [(.int p3), (.ref aP), (.int ((own_upd S.2.2.1 (S.2.2.2 p3) (S.2.2.1 p3)) p3)), (.ref aP)])) _
        refine X92.iaload hx (j := p3) (v := (.int (S.2.2.2 p3))) (by rw [e92]; exact Ar93.1) (State.isArrayOf_alike hZ.alike Ar93.2.1) Ar93.2.2 hin93 (Ge93 _ hp.1.1 hp.1.2) (g := (mkF m 67 #[.val (.ref a1), .val (.int p2), .val (.int p3)] [(.int p3), (.ref aP), (.int ((own_upd S.2.2.1 (S.2.2.2 p3) (S.2.2.1 p3)) p3)), (.ref aP)])) rfl rfl (hb hby d5_67) _ ?_
        show Steps p.tables e below (T92.setTop (mkF m 68 #[.val (.ref a1), .val (.int p2), .val (.int p3)] [(.int (S.2.2.2 p3)), (.int ((own_upd S.2.2.1 (S.2.2.2 p3) (S.2.2.1 p3)) p3)), (.ref aP)])) _
        refine st94 _ ?_
        show Steps p.tables e below (T94.setTop (mkF m 69 #[.val (.ref a1), .val (.int p2), .val (.int p3)] [])) _
        refine XS.aloadN X94.here hx rfl (hb hby d5_69) rfl rfl ?_
        show Steps p.tables e below (T94.setTop (mkF m 70 #[.val (.ref a1), .val (.int p2), .val (.int p3)] [(.ref a1)])) _
        refine st103 _ ?_
        show Steps p.tables e below (T103.setTop (mkF m 73 #[.val (.ref a1), .val (.int p2), .val (.int p3)] [(.ref aS)])) _
        refine XS.iloadN X103.here hx rfl (hb hby d5_73) rfl ?_
        show Steps p.tables e below (T103.setTop (mkF m 74 #[.val (.ref a1), .val (.int p2), .val (.int p3)] [(.int p2), (.ref aS)])) _
        refine XT.dup2 X103.here hx rfl (hb hby d5_74) rfl rfl rfl ?_
        show Steps p.tables e below (T103.setTop (mkF m 75 #[.val (.ref a1), .val (.int p2), .val (.int p3)] [(.int p2), (.ref aS), (.int p2), (.ref aS)])) _
        refine X103.iaload hx (j := p2) (v := (.int (S.2.1 p2))) (by rw [e103]; exact Ar104.1) (State.isArrayOf_alike hZ.alike Ar104.2.1) Ar104.2.2 hin104 (Ge104 _ hl.1 hl.2) (g := (mkF m 75 #[.val (.ref a1), .val (.int p2), .val (.int p3)] [(.int p2), (.ref aS), (.int p2), (.ref aS)])) rfl rfl (hb hby d5_75) _ ?_
        show Steps p.tables e below (T103.setTop (mkF m 76 #[.val (.ref a1), .val (.int p2), .val (.int p3)] [(.int (S.2.1 p2)), (.int p2), (.ref aS)])) _
        refine XS.iconst X103.here hx rfl (hb hby d5_76) ?_
        show Steps p.tables e below (T103.setTop (mkF m 77 #[.val (.ref a1), .val (.int p2), .val (.int p3)] [(.int (1 : Int32)), (.int (S.2.1 p2)), (.int p2), (.ref aS)])) _
        refine XS.isub X103.here hx rfl (hb hby d5_77) rfl ?_
        show Steps p.tables e below (T103.setTop (mkF m 78 #[.val (.ref a1), .val (.int p2), .val (.int p3)] [(.int ((S.2.1 p2) - (1 : Int32))), (.int p2), (.ref aS)])) _
        refine st105 _ ?_
        exact kt)
      obtain ⟨fs, hr, hrun, hended, hW, hsame⟩ := X105.leave (v := none) (fun _ => rfl)
      refine ⟨_, _, P114 _ ?_, hrun, hended, _, _, rfl, ?_, ⟨_, rfl⟩, hW, hsame.mono (by decide) (by decide)⟩
      · exact X105.returnOut hx Bd.returns (hb hby d5_79) hr
      · show QM Z a1 p2 p3 aF aS aN aP S h0 n0 _ T105.heap _
        rw [e105]
        refine ⟨rfl, N105, K105, g_aF, g_aS, g_aN, g_aP, ⟨d1, d2, d3, d4, d5, d6, d7, d8, d9, d10⟩, c106, c107, c109, c110, c111, ?_, ?_, ?_, ?_⟩
        · have q : (own_rem S p2 p3).1 = S.1 := by show (if S.2.2.2 p3 = (-1 : Int32) then _ else _) = _; rw [if_neg hc7_3]
          rw [q]; exact c108
        · exact Aw105
        · have q : (own_rem S p2 p3).2.2.1 = (own_upd S.2.2.1 (S.2.2.2 p3) (S.2.2.1 p3)) := by exact hNe
          rw [q]; exact c112
        · have q : (own_rem S p2 p3).2.2.2 = (own_upd S.2.2.2 ((own_upd S.2.2.1 (S.2.2.2 p3) (S.2.2.1 p3)) p3) (S.2.2.2 p3)) := by show (if own_rN S p3 p3 = (-1 : Int32) then _ else _) = _; rw [hNe, if_neg hc49_75]
          rw [q]; exact c113
theorem d6_0 : decode prog_42_method_4_code 0 = .ok (.aload_n 0, 1) := by decide +kernel
theorem d6_1 : decode prog_42_method_4_code 1 = .ok (.getfield 19, 3) := by decide +kernel
theorem d6_4 : decode prog_42_method_4_code 4 = .ok (.iload_n 1, 1) := by decide +kernel
theorem d6_5 : decode prog_42_method_4_code 5 = .ok (.iaload, 1) := by decide +kernel
theorem d6_6 : decode prog_42_method_4_code 6 = .ok (.ireturn, 1) := by decide +kernel
theorem ef_rm6 (m : MethodId) (x0 : Addr) (x1 : Int32) : entryFrame m #[(.ref x0), (.int x1)] 2 = mkF m 0 #[.val (.ref x0), .val (.int x1)] [] := by first | (simp [entryFrame, mkF, argsToLocals, Value.category]; done) | rfl
def Q6 (Z : State) (a1 : Addr) (p2 : Int32) (aF : Addr) (aS : Addr) (aN : Addr) (aP : Addr) (S : LS) (h0 : Heap) (n0 : Nat) (v : Option Value) (h : Heap) (L : List Loc) : Prop := v = some (.int (S.2.1 p2)) ∧ Fr n0 L ∧ h = h0
set_option maxRecDepth 65536 in
set_option maxHeartbeats 40000000 in
theorem rm6 (l : Launch) (Z : State) (a0 : Array Value) (hw : ∀ d ∈ tables_1, d.before a0 Z = true) (ws : List Jvm.Cond) (a1 : Addr) (p2 : Int32) (aF : Addr) (aS : Addr) (aN : Addr) (aP : Addr) (S : LS) (h0 : Heap) (n0 : Nat) (Z0 : n0 ≤ h0.size) (HI : own_IL Z h0 n0 a1 aF aS aN aP S) (hr : own_two p2) :
    MetFree l (⟨"com/example/exact_equiv/exactequiv/equivalence/IntLists", "size", "(I)I"⟩ : MethodName) (head1 (Jvm.Cond.code (⟨"com/example/exact_equiv/exactequiv/equivalence/IntLists", "size", "(I)I"⟩ : MethodName) prog_42_method_4_code 2 (some .int) :: ws) ({ frames := 0, cells := 0, slots := 0, locals := 0 } : Room)) (fun a U => a = #[(.ref a1), (.int p2)] ∧ Z.Warmed39 U.vm ∧ U.heap = h0) (fun _ _ _ _ _ => True) (fun _ U o U' => ∃ v L, o = .returned v ∧ Q6 Z a1 p2 aF aS aN aP S h0 n0 v U'.heap L ∧ FrameEnd U o U' L ({ frames := 0, cells := 0, slots := 0, locals := 0 } : Room).cells ({ frames := 0, cells := 0, slots := 0, locals := 0 } : Room).slots) := by
  refine MetFree.of_bodySF (plainFor_of_name pn_1) hisR ?_
  intro p e s m args below meth c s₁ Bd hml0 hP hK
  obtain ⟨rfl, hZ, hh⟩ := hP
  have hx := Bd.exec
  have hby := Bd.bytes
  have hml : c.maxLocals = 2 := hml0
  have hown : s.vm.findClass "com/example/exact_equiv/exactequiv/equivalence/IntLists" = some m.cls := findClass_of_methodNamed Bd.named
  have hnm := (name_of_methodNamed Bd.named Bd.method).1
  have X0 : Stand p l e ({ frames := 0, cells := 0, slots := 0, locals := 0 } : Room) s m #[(.ref a1), (.int p2)] below meth c s₁ [] 0 0 := Stand.of_body Bd
  have e0 : s₁.heap = h0 := by rw [← hh, Bd.state]; rfl
  have N0 := Fr.nil n0
  have pre0 : ∀ t, Steps p.tables e below (s₁.setTop (mkF m 0 #[.val (.ref a1), .val (.int p2)] [])) t → Steps p.tables e below (s₁.setTop (entryFrame m #[(.ref a1), (.int p2)] 2)) t := fun t k => castTop (ef_rm6 m a1 p2) k
  obtain ⟨g_aF, g_aS, g_aN, g_aP, ⟨d1, d2, d3, d4, d5, d6, d7, d8, d9, d10⟩, E_b, F1, F2, F3, F4, A1, A2, A3, A4⟩ := HI
  obtain ⟨T1, X1, e1, st1⟩ := getF X0 hx hZ hown (host := "") (Or.inl (hw _ (List.mem_of_getElem? (i := 17) rfl))) Via.refl e0 F2 (g := (mkF m 1 #[.val (.ref a1), .val (.int p2)] [(.ref a1)])) rfl rfl (hb hby d6_1)
  obtain ⟨cl2, Ar2, Sz2, Nn2, Ge2⟩ := id A2
  have hin2 := inb_of Sz2 (j := p2) ⟨hr.1, hr.2⟩
  have P3 : ∀ t, Steps p.tables e below (T1.setTop (mkF m 6 #[.val (.ref a1), .val (.int p2)] [(.int (S.2.1 p2))])) t → Steps p.tables e below (s₁.setTop (entryFrame m #[(.ref a1), (.int p2)] 2)) t := fun t kt => pre0 t (by
    show Steps p.tables e below (s₁.setTop (mkF m 0 #[.val (.ref a1), .val (.int p2)] [])) _
    refine XS.aloadN X0.here hx rfl (hb hby d6_0) rfl rfl ?_
    show Steps p.tables e below (s₁.setTop (mkF m 1 #[.val (.ref a1), .val (.int p2)] [(.ref a1)])) _
    refine st1 _ ?_
    show Steps p.tables e below (T1.setTop (mkF m 4 #[.val (.ref a1), .val (.int p2)] [(.ref aS)])) _
    refine XS.iloadN X1.here hx rfl (hb hby d6_4) rfl ?_
    show Steps p.tables e below (T1.setTop (mkF m 5 #[.val (.ref a1), .val (.int p2)] [(.int p2), (.ref aS)])) _
    refine X1.iaload hx (j := p2) (v := (.int (S.2.1 p2))) (by rw [e1]; exact Ar2.1) (State.isArrayOf_alike hZ.alike Ar2.2.1) Ar2.2.2 hin2 (Ge2 _ hr.1 hr.2) (g := (mkF m 5 #[.val (.ref a1), .val (.int p2)] [(.int p2), (.ref aS)])) rfl rfl (hb hby d6_5) _ ?_
    exact kt)
  obtain ⟨fs, hr, hrun, hended, hW, hsame⟩ := X1.leave (v := some (.int (S.2.1 p2))) (fun h => by rw [Bd.returns] at h; cases h)
  refine ⟨_, _, P3 _ ?_, hrun, hended, _, _, rfl, ?_, ⟨_, rfl⟩, hW, hsame.mono (by decide) (by decide)⟩
  · exact retI X1 hx Bd.returns (hb hby d6_6) hr
  · show Q6 Z a1 p2 aF aS aN aP S h0 n0 _ T1.heap _
    rw [e1]
    exact ⟨rfl, N0, rfl⟩
theorem d7_0 : decode prog_42_method_2_code 0 = .ok (.aload_n 0, 1) := by decide +kernel
theorem d7_1 : decode prog_42_method_2_code 1 = .ok (.getfield 7, 3) := by decide +kernel
theorem d7_4 : decode prog_42_method_2_code 4 = .ok (.iload_n 1, 1) := by decide +kernel
theorem d7_5 : decode prog_42_method_2_code 5 = .ok (.iaload, 1) := by decide +kernel
theorem d7_6 : decode prog_42_method_2_code 6 = .ok (.ireturn, 1) := by decide +kernel
theorem ef_rm7 (m : MethodId) (x0 : Addr) (x1 : Int32) : entryFrame m #[(.ref x0), (.int x1)] 2 = mkF m 0 #[.val (.ref x0), .val (.int x1)] [] := by first | (simp [entryFrame, mkF, argsToLocals, Value.category]; done) | rfl
def Q7 (Z : State) (a1 : Addr) (p2 : Int32) (aF : Addr) (aS : Addr) (aN : Addr) (aP : Addr) (S : LS) (h0 : Heap) (n0 : Nat) (v : Option Value) (h : Heap) (L : List Loc) : Prop := v = some (.int (S.1 p2)) ∧ Fr n0 L ∧ h = h0
set_option maxRecDepth 65536 in
set_option maxHeartbeats 40000000 in
theorem rm7 (l : Launch) (Z : State) (a0 : Array Value) (hw : ∀ d ∈ tables_1, d.before a0 Z = true) (ws : List Jvm.Cond) (a1 : Addr) (p2 : Int32) (aF : Addr) (aS : Addr) (aN : Addr) (aP : Addr) (S : LS) (h0 : Heap) (n0 : Nat) (Z0 : n0 ≤ h0.size) (HI : own_IL Z h0 n0 a1 aF aS aN aP S) (hr : own_two p2) :
    MetFree l (⟨"com/example/exact_equiv/exactequiv/equivalence/IntLists", "first", "(I)I"⟩ : MethodName) (head1 (Jvm.Cond.code (⟨"com/example/exact_equiv/exactequiv/equivalence/IntLists", "first", "(I)I"⟩ : MethodName) prog_42_method_2_code 2 (some .int) :: ws) ({ frames := 0, cells := 0, slots := 0, locals := 0 } : Room)) (fun a U => a = #[(.ref a1), (.int p2)] ∧ Z.Warmed39 U.vm ∧ U.heap = h0) (fun _ _ _ _ _ => True) (fun _ U o U' => ∃ v L, o = .returned v ∧ Q7 Z a1 p2 aF aS aN aP S h0 n0 v U'.heap L ∧ FrameEnd U o U' L ({ frames := 0, cells := 0, slots := 0, locals := 0 } : Room).cells ({ frames := 0, cells := 0, slots := 0, locals := 0 } : Room).slots) := by
  refine MetFree.of_bodySF (plainFor_of_name pn_1) hisR ?_
  intro p e s m args below meth c s₁ Bd hml0 hP hK
  obtain ⟨rfl, hZ, hh⟩ := hP
  have hx := Bd.exec
  have hby := Bd.bytes
  have hml : c.maxLocals = 2 := hml0
  have hown : s.vm.findClass "com/example/exact_equiv/exactequiv/equivalence/IntLists" = some m.cls := findClass_of_methodNamed Bd.named
  have hnm := (name_of_methodNamed Bd.named Bd.method).1
  have X0 : Stand p l e ({ frames := 0, cells := 0, slots := 0, locals := 0 } : Room) s m #[(.ref a1), (.int p2)] below meth c s₁ [] 0 0 := Stand.of_body Bd
  have e0 : s₁.heap = h0 := by rw [← hh, Bd.state]; rfl
  have N0 := Fr.nil n0
  have pre0 : ∀ t, Steps p.tables e below (s₁.setTop (mkF m 0 #[.val (.ref a1), .val (.int p2)] [])) t → Steps p.tables e below (s₁.setTop (entryFrame m #[(.ref a1), (.int p2)] 2)) t := fun t k => castTop (ef_rm7 m a1 p2) k
  obtain ⟨g_aF, g_aS, g_aN, g_aP, ⟨d1, d2, d3, d4, d5, d6, d7, d8, d9, d10⟩, E_b, F1, F2, F3, F4, A1, A2, A3, A4⟩ := HI
  obtain ⟨T1, X1, e1, st1⟩ := getF X0 hx hZ hown (host := "") (Or.inl (hw _ (List.mem_of_getElem? (i := 11) rfl))) Via.refl e0 F1 (g := (mkF m 1 #[.val (.ref a1), .val (.int p2)] [(.ref a1)])) rfl rfl (hb hby d7_1)
  obtain ⟨cl2, Ar2, Sz2, Nn2, Ge2⟩ := id A1
  have hin2 := inb_of Sz2 (j := p2) ⟨hr.1, hr.2⟩
  have P3 : ∀ t, Steps p.tables e below (T1.setTop (mkF m 6 #[.val (.ref a1), .val (.int p2)] [(.int (S.1 p2))])) t → Steps p.tables e below (s₁.setTop (entryFrame m #[(.ref a1), (.int p2)] 2)) t := fun t kt => pre0 t (by
    show Steps p.tables e below (s₁.setTop (mkF m 0 #[.val (.ref a1), .val (.int p2)] [])) _
    refine XS.aloadN X0.here hx rfl (hb hby d7_0) rfl rfl ?_
    show Steps p.tables e below (s₁.setTop (mkF m 1 #[.val (.ref a1), .val (.int p2)] [(.ref a1)])) _
    refine st1 _ ?_
    show Steps p.tables e below (T1.setTop (mkF m 4 #[.val (.ref a1), .val (.int p2)] [(.ref aF)])) _
    refine XS.iloadN X1.here hx rfl (hb hby d7_4) rfl ?_
    show Steps p.tables e below (T1.setTop (mkF m 5 #[.val (.ref a1), .val (.int p2)] [(.int p2), (.ref aF)])) _
    refine X1.iaload hx (j := p2) (v := (.int (S.1 p2))) (by rw [e1]; exact Ar2.1) (State.isArrayOf_alike hZ.alike Ar2.2.1) Ar2.2.2 hin2 (Ge2 _ hr.1 hr.2) (g := (mkF m 5 #[.val (.ref a1), .val (.int p2)] [(.int p2), (.ref aF)])) rfl rfl (hb hby d7_5) _ ?_
    exact kt)
  obtain ⟨fs, hr, hrun, hended, hW, hsame⟩ := X1.leave (v := some (.int (S.1 p2))) (fun h => by rw [Bd.returns] at h; cases h)
  refine ⟨_, _, P3 _ ?_, hrun, hended, _, _, rfl, ?_, ⟨_, rfl⟩, hW, hsame.mono (by decide) (by decide)⟩
  · exact retI X1 hx Bd.returns (hb hby d7_6) hr
  · show Q7 Z a1 p2 aF aS aN aP S h0 n0 _ T1.heap _
    rw [e1]
    exact ⟨rfl, N0, rfl⟩
theorem d8_0 : decode prog_42_method_3_code 0 = .ok (.aload_n 0, 1) := by decide +kernel
theorem d8_1 : decode prog_42_method_3_code 1 = .ok (.getfield 22, 3) := by decide +kernel
theorem d8_4 : decode prog_42_method_3_code 4 = .ok (.iload_n 1, 1) := by decide +kernel
theorem d8_5 : decode prog_42_method_3_code 5 = .ok (.iaload, 1) := by decide +kernel
theorem d8_6 : decode prog_42_method_3_code 6 = .ok (.ireturn, 1) := by decide +kernel
theorem ef_rm8 (m : MethodId) (x0 : Addr) (x1 : Int32) : entryFrame m #[(.ref x0), (.int x1)] 2 = mkF m 0 #[.val (.ref x0), .val (.int x1)] [] := by first | (simp [entryFrame, mkF, argsToLocals, Value.category]; done) | rfl
def Q8 (Z : State) (a1 : Addr) (p2 : Int32) (aF : Addr) (aS : Addr) (aN : Addr) (aP : Addr) (S : LS) (h0 : Heap) (n0 : Nat) (v : Option Value) (h : Heap) (L : List Loc) : Prop := v = some (.int (S.2.2.1 p2)) ∧ Fr n0 L ∧ h = h0
set_option maxRecDepth 65536 in
set_option maxHeartbeats 40000000 in
theorem rm8 (l : Launch) (Z : State) (a0 : Array Value) (hw : ∀ d ∈ tables_1, d.before a0 Z = true) (ws : List Jvm.Cond) (a1 : Addr) (p2 : Int32) (aF : Addr) (aS : Addr) (aN : Addr) (aP : Addr) (S : LS) (h0 : Heap) (n0 : Nat) (Z0 : n0 ≤ h0.size) (HI : own_IL Z h0 n0 a1 aF aS aN aP S) (hr : own_rng p2) :
    MetFree l (⟨"com/example/exact_equiv/exactequiv/equivalence/IntLists", "next", "(I)I"⟩ : MethodName) (head1 (Jvm.Cond.code (⟨"com/example/exact_equiv/exactequiv/equivalence/IntLists", "next", "(I)I"⟩ : MethodName) prog_42_method_3_code 2 (some .int) :: ws) ({ frames := 0, cells := 0, slots := 0, locals := 0 } : Room)) (fun a U => a = #[(.ref a1), (.int p2)] ∧ Z.Warmed39 U.vm ∧ U.heap = h0) (fun _ _ _ _ _ => True) (fun _ U o U' => ∃ v L, o = .returned v ∧ Q8 Z a1 p2 aF aS aN aP S h0 n0 v U'.heap L ∧ FrameEnd U o U' L ({ frames := 0, cells := 0, slots := 0, locals := 0 } : Room).cells ({ frames := 0, cells := 0, slots := 0, locals := 0 } : Room).slots) := by
  refine MetFree.of_bodySF (plainFor_of_name pn_1) hisR ?_
  intro p e s m args below meth c s₁ Bd hml0 hP hK
  obtain ⟨rfl, hZ, hh⟩ := hP
  have hx := Bd.exec
  have hby := Bd.bytes
  have hml : c.maxLocals = 2 := hml0
  have hown : s.vm.findClass "com/example/exact_equiv/exactequiv/equivalence/IntLists" = some m.cls := findClass_of_methodNamed Bd.named
  have hnm := (name_of_methodNamed Bd.named Bd.method).1
  have X0 : Stand p l e ({ frames := 0, cells := 0, slots := 0, locals := 0 } : Room) s m #[(.ref a1), (.int p2)] below meth c s₁ [] 0 0 := Stand.of_body Bd
  have e0 : s₁.heap = h0 := by rw [← hh, Bd.state]; rfl
  have N0 := Fr.nil n0
  have pre0 : ∀ t, Steps p.tables e below (s₁.setTop (mkF m 0 #[.val (.ref a1), .val (.int p2)] [])) t → Steps p.tables e below (s₁.setTop (entryFrame m #[(.ref a1), (.int p2)] 2)) t := fun t k => castTop (ef_rm8 m a1 p2) k
  obtain ⟨g_aF, g_aS, g_aN, g_aP, ⟨d1, d2, d3, d4, d5, d6, d7, d8, d9, d10⟩, E_b, F1, F2, F3, F4, A1, A2, A3, A4⟩ := HI
  obtain ⟨T1, X1, e1, st1⟩ := getF X0 hx hZ hown (host := "") (Or.inl (hw _ (List.mem_of_getElem? (i := 19) rfl))) Via.refl e0 F3 (g := (mkF m 1 #[.val (.ref a1), .val (.int p2)] [(.ref a1)])) rfl rfl (hb hby d8_1)
  obtain ⟨cl2, Ar2, Sz2, Nn2, Ge2⟩ := id A3
  have hin2 := inb_of Sz2 (j := p2) ⟨hr.1, hr.2⟩
  have P3 : ∀ t, Steps p.tables e below (T1.setTop (mkF m 6 #[.val (.ref a1), .val (.int p2)] [(.int (S.2.2.1 p2))])) t → Steps p.tables e below (s₁.setTop (entryFrame m #[(.ref a1), (.int p2)] 2)) t := fun t kt => pre0 t (by
    show Steps p.tables e below (s₁.setTop (mkF m 0 #[.val (.ref a1), .val (.int p2)] [])) _
    refine XS.aloadN X0.here hx rfl (hb hby d8_0) rfl rfl ?_
    show Steps p.tables e below (s₁.setTop (mkF m 1 #[.val (.ref a1), .val (.int p2)] [(.ref a1)])) _
    refine st1 _ ?_
    show Steps p.tables e below (T1.setTop (mkF m 4 #[.val (.ref a1), .val (.int p2)] [(.ref aN)])) _
    refine XS.iloadN X1.here hx rfl (hb hby d8_4) rfl ?_
    show Steps p.tables e below (T1.setTop (mkF m 5 #[.val (.ref a1), .val (.int p2)] [(.int p2), (.ref aN)])) _
    refine X1.iaload hx (j := p2) (v := (.int (S.2.2.1 p2))) (by rw [e1]; exact Ar2.1) (State.isArrayOf_alike hZ.alike Ar2.2.1) Ar2.2.2 hin2 (Ge2 _ hr.1 hr.2) (g := (mkF m 5 #[.val (.ref a1), .val (.int p2)] [(.int p2), (.ref aN)])) rfl rfl (hb hby d8_5) _ ?_
    exact kt)
  obtain ⟨fs, hr, hrun, hended, hW, hsame⟩ := X1.leave (v := some (.int (S.2.2.1 p2))) (fun h => by rw [Bd.returns] at h; cases h)
  refine ⟨_, _, P3 _ ?_, hrun, hended, _, _, rfl, ?_, ⟨_, rfl⟩, hW, hsame.mono (by decide) (by decide)⟩
  · exact retI X1 hx Bd.returns (hb hby d8_6) hr
  · show Q8 Z a1 p2 aF aS aN aP S h0 n0 _ T1.heap _
    rw [e1]
    exact ⟨rfl, N0, rfl⟩
theorem pd_1 : parseMethodDescriptor "(II)V" = some ⟨[.int, .int], none⟩ := by decide +kernel
theorem pd_2 : parseMethodDescriptor "(I)I" = some ⟨[.int], some .int⟩ := by decide +kernel
set_option maxRecDepth 65536 in
set_option maxHeartbeats 40000000 in
theorem own_tail {p : Program} {l : Launch} {e : Env} {s : State} {m : MethodId} {args : Array Value} {below : List Frame} {meth : Method} {c : Code} {T0 : State} {locs : List Loc} {Z : State} {a0 : Array Value} {h0 : Heap} {n0 : Nat} (p1 : Int32) (p2 : Int32) (p3 : Int32) (p4 : Int32) (p5 : Int32) (nn : Int32) (ps : Int32) (ss : Int32) (lt : Int32) (t0 : Int32) (t1 : Int32) (t2 : Int32) (b : Addr) (od : Addr) (vc : Int32) (r0 : Int32) (r1 : Int32) (aF : Addr) (aS : Addr) (aN : Addr) (aP : Addr) (S : LS)
    (X0 : Stand p l e room_1 s m args below meth c T0 locs 6 19) (hx : p.tables.exec = Jvm.exec) (hZ : Z.Warmed39 s.vm) (hw : ∀ d ∈ tables_1, d.before a0 Z = true) (hby : c.code = code) (hml : c.maxLocals = 21) (hown : s.vm.findClass "com/example/exact_equiv/exactequiv/equivalence/IntListsRemovePinLaw" = some m.cls) (e0 : T0.heap = h0) (N0 : Fr n0 locs) (Z0 : n0 ≤ h0.size) (HI : own_IL Z h0 n0 b aF aS aN aP S) (hl : own_two lt) (hG : own_Good S lt nn vc r0 r1) :
    ∃ (T' : State) (Ls : Array Slot) (locs' : List Loc), Stand p l e room_1 s m args below meth c T' locs' 6 19 ∧ Fr n0 locs' ∧ ∀ t, Steps p.tables e below (T'.setTop (mkF m 454 Ls [(.int (1 : Int32))])) t → Steps p.tables e below (T0.setTop (mkF m 214 #[.val (.int p1), .val (.int p2), .val (.int p3), .val (.int p4), .val (.int p5), .val (.int nn), .val (.int ps), .val (.int ss), .val (.int lt), .val (.int t0), .val (.int t1), .val (.int t2), .val (.ref b), .val (.ref od), .val (.int vc), .val (.int r0), .val (.int r1), .unset, .unset, .unset, .unset] [])) t := by
  have P0 : ∀ t, Steps p.tables e below (T0.setTop (mkF m 214 #[.val (.int p1), .val (.int p2), .val (.int p3), .val (.int p4), .val (.int p5), .val (.int nn), .val (.int ps), .val (.int ss), .val (.int lt), .val (.int t0), .val (.int t1), .val (.int t2), .val (.ref b), .val (.ref od), .val (.int vc), .val (.int r0), .val (.int r1), .unset, .unset, .unset, .unset] [])) t → Steps p.tables e below (T0.setTop (mkF m 214 #[.val (.int p1), .val (.int p2), .val (.int p3), .val (.int p4), .val (.int p5), .val (.int nn), .val (.int ps), .val (.int ss), .val (.int lt), .val (.int t0), .val (.int t1), .val (.int t2), .val (.ref b), .val (.ref od), .val (.int vc), .val (.int r0), .val (.int r1), .unset, .unset, .unset, .unset] [])) t := fun t k => k
  obtain ⟨cq1, kq1, q1a, q1b, q1c⟩ := isOf hZ e0 HI.exa
  obtain ⟨_, _, ⟨T1, L1, k1, n1⟩, -, X1, ⟨Lc1, hQ1, l1, y1, z1⟩, st1⟩ := X0.virtualBack hx (y := (⟨"com/example/exact_equiv/exactequiv/equivalence/IntLists", "remove", "(II)V"⟩ : MethodName)) (z := (⟨"com/example/exact_equiv/exactequiv/equivalence/IntLists", "remove", "(II)V"⟩ : MethodName)) hown (mvT hZ (hw _ (List.mem_of_getElem? (i := 28) rfl))) (mvT hZ (hw _ (List.mem_of_getElem? (i := 29) rfl))) (notFace_of_selects (args := #[]) (mvT hZ (hw _ (List.mem_of_getElem? (i := 31) rfl)))) (mvT hZ (hw _ (List.mem_of_getElem? (i := 31) rfl))) (mvT hZ (hw _ (List.mem_of_getElem? (i := 30) rfl))) (by decide) (backOf (W := 0) (rmM l Z a0 hw [] b lt vc aF aS aN aP S h0 n0 Z0 HI hl hG.1) hZ (hw _ (List.mem_of_getElem? (i := 32) rfl)) (hw _ (List.mem_of_getElem? (i := 3) rfl)) (by decide) (by decide)) q1a q1c (g := (mkF m 220 #[.val (.int p1), .val (.int p2), .val (.int p3), .val (.int p4), .val (.int p5), .val (.int nn), .val (.int ps), .val (.int ss), .val (.int lt), .val (.int t0), .val (.int t1), .val (.int t2), .val (.ref b), .val (.ref od), .val (.int vc), .val (.int r0), .val (.int r1), .unset, .unset, .unset, .unset] [(.int vc), (.int lt), (.ref b)])) rfl (by rw [hml]; rfl) (Steps.refl _) (argsL := [(.int lt), (.int vc)]) (rest := []) (lenOf pd_1 rfl) rfl (by show 2 * 0 + _ ≤ _; exact Nat.le_of_eq rfl) (hb hby at_220) (fun _ _ => ⟨rfl, e0, (by decide : 6 + 0 ≤ _), (by decide : 19 + 0 ≤ _)⟩)
  dsimp only [Pt.U, Pt.locs, Pt.cells, Pt.slots] at X1 l1 y1 z1 st1 hQ1
  subst l1 y1 z1
  obtain ⟨rfl, N1q, Kq1, HIq1⟩ := hQ1
  have N1 := Fr.app N0 N1q
  have c2 := HI.exa.keep Kq1
  have Zs1 : n0 ≤ T1.heap.size := Nat.le_trans Z0 Kq1.1
  obtain ⟨S1, hS1⟩ : ∃ z, z = own_rem S lt vc := ⟨_, rfl⟩
  rw [← hS1] at HIq1
  obtain ⟨cq3, kq3, q3a, q3b, q3c⟩ := isOf hZ rfl c2
  obtain ⟨_, _, ⟨T3, L3, k3, n3⟩, -, X3, ⟨Lc3, hQ3, l3, y3, z3⟩, st3⟩ := X1.virtualBack hx (y := (⟨"com/example/exact_equiv/exactequiv/equivalence/IntLists", "size", "(I)I"⟩ : MethodName)) (z := (⟨"com/example/exact_equiv/exactequiv/equivalence/IntLists", "size", "(I)I"⟩ : MethodName)) hown (mvT hZ (hw _ (List.mem_of_getElem? (i := 33) rfl))) (mvT hZ (hw _ (List.mem_of_getElem? (i := 34) rfl))) (notFace_of_selects (args := #[]) (mvT hZ (hw _ (List.mem_of_getElem? (i := 36) rfl)))) (mvT hZ (hw _ (List.mem_of_getElem? (i := 36) rfl))) (mvT hZ (hw _ (List.mem_of_getElem? (i := 35) rfl))) (by decide) (backOf (W := 0) (rm6 l Z a0 hw [] b lt aF aS aN aP S1 T1.heap n0 Zs1 HIq1 hl) hZ (hw _ (List.mem_of_getElem? (i := 37) rfl)) (hw _ (List.mem_of_getElem? (i := 3) rfl)) (by decide) (by decide)) q3a q3c (g := (mkF m 227 #[.val (.int p1), .val (.int p2), .val (.int p3), .val (.int p4), .val (.int p5), .val (.int nn), .val (.int ps), .val (.int ss), .val (.int lt), .val (.int t0), .val (.int t1), .val (.int t2), .val (.ref b), .val (.ref od), .val (.int vc), .val (.int r0), .val (.int r1), .unset, .unset, .unset, .unset] [(.int lt), (.ref b)])) rfl (by rw [hml]; rfl) (Steps.refl _) (argsL := [(.int lt)]) (rest := []) (lenOf pd_2 rfl) rfl (by show 2 * 0 + _ ≤ _; exact Nat.le_of_eq rfl) (hb hby at_227) (fun _ _ => ⟨rfl, rfl, (by decide : 6 + 0 ≤ _), (by decide : 19 + 0 ≤ _)⟩)
  dsimp only [Pt.U, Pt.locs, Pt.cells, Pt.slots] at X3 l3 y3 z3 st3 hQ3
  subst l3 y3 z3
  obtain ⟨rfl, N3q, e3⟩ := hQ3
  have N3 := Fr.app N1 N3q
  have hc234_4 : (S1.2.1 lt) = (nn - (1 : Int32)) := by rw [hS1]; exact hG.2.1
  obtain ⟨cq5, kq5, q5a, q5b, q5c⟩ := isOf hZ e3 c2
  obtain ⟨_, _, ⟨T5, L5, k5, n5⟩, -, X5, ⟨Lc5, hQ5, l5, y5, z5⟩, st5⟩ := X3.virtualBack hx (y := (⟨"com/example/exact_equiv/exactequiv/equivalence/IntLists", "first", "(I)I"⟩ : MethodName)) (z := (⟨"com/example/exact_equiv/exactequiv/equivalence/IntLists", "first", "(I)I"⟩ : MethodName)) hown (mvT hZ (hw _ (List.mem_of_getElem? (i := 38) rfl))) (mvT hZ (hw _ (List.mem_of_getElem? (i := 39) rfl))) (notFace_of_selects (args := #[]) (mvT hZ (hw _ (List.mem_of_getElem? (i := 41) rfl)))) (mvT hZ (hw _ (List.mem_of_getElem? (i := 41) rfl))) (mvT hZ (hw _ (List.mem_of_getElem? (i := 40) rfl))) (by decide) (backOf (W := 0) (rm7 l Z a0 hw [] b lt aF aS aN aP S1 T1.heap n0 Zs1 HIq1 hl) hZ (hw _ (List.mem_of_getElem? (i := 42) rfl)) (hw _ (List.mem_of_getElem? (i := 3) rfl)) (by decide) (by decide)) q5a q5c (g := (mkF m 241 #[.val (.int p1), .val (.int p2), .val (.int p3), .val (.int p4), .val (.int p5), .val (.int nn), .val (.int ps), .val (.int ss), .val (.int lt), .val (.int t0), .val (.int t1), .val (.int t2), .val (.ref b), .val (.ref od), .val (.int vc), .val (.int r0), .val (.int r1), .unset, .unset, .unset, .unset] [(.int lt), (.ref b)])) rfl (by rw [hml]; rfl) (Steps.refl _) (argsL := [(.int lt)]) (rest := []) (lenOf pd_2 rfl) rfl (by show 2 * 0 + _ ≤ _; exact Nat.le_of_eq rfl) (hb hby at_241) (fun _ _ => ⟨rfl, e3, (by decide : 6 + 0 ≤ _), (by decide : 19 + 0 ≤ _)⟩)
  dsimp only [Pt.U, Pt.locs, Pt.cells, Pt.slots] at X5 l5 y5 z5 st5 hQ5
  subst l5 y5 z5
  obtain ⟨rfl, N5q, e5⟩ := hQ5
  have N5 := Fr.app N3 N5q
  have hc246_6 : (S1.1 lt) = r0 := by rw [hS1]; exact hG.2.2.1
  have P8 : ∀ t, Steps p.tables e below (T5.setTop (mkF m 259 #[.val (.int p1), .val (.int p2), .val (.int p3), .val (.int p4), .val (.int p5), .val (.int nn), .val (.int ps), .val (.int ss), .val (.int lt), .val (.int t0), .val (.int t1), .val (.int t2), .val (.ref b), .val (.ref od), .val (.int vc), .val (.int r0), .val (.int r1), .val (.int (1 : Int32)), .unset, .unset, .unset] [(.int (-1 : Int32)), (.int r0)])) t → Steps p.tables e below (T0.setTop (mkF m 214 #[.val (.int p1), .val (.int p2), .val (.int p3), .val (.int p4), .val (.int p5), .val (.int nn), .val (.int ps), .val (.int ss), .val (.int lt), .val (.int t0), .val (.int t1), .val (.int t2), .val (.ref b), .val (.ref od), .val (.int vc), .val (.int r0), .val (.int r1), .unset, .unset, .unset, .unset] [])) t := fun t kt => P0 t (by
    show Steps p.tables e below (T0.setTop (mkF m 214 #[.val (.int p1), .val (.int p2), .val (.int p3), .val (.int p4), .val (.int p5), .val (.int nn), .val (.int ps), .val (.int ss), .val (.int lt), .val (.int t0), .val (.int t1), .val (.int t2), .val (.ref b), .val (.ref od), .val (.int vc), .val (.int r0), .val (.int r1), .unset, .unset, .unset, .unset] [])) _
    refine XS.aload X0.here hx rfl (hb hby at_214) rfl rfl ?_
    show Steps p.tables e below (T0.setTop (mkF m 216 #[.val (.int p1), .val (.int p2), .val (.int p3), .val (.int p4), .val (.int p5), .val (.int nn), .val (.int ps), .val (.int ss), .val (.int lt), .val (.int t0), .val (.int t1), .val (.int t2), .val (.ref b), .val (.ref od), .val (.int vc), .val (.int r0), .val (.int r1), .unset, .unset, .unset, .unset] [(.ref b)])) _
    refine XS.iload X0.here hx rfl (hb hby at_216) rfl ?_
    show Steps p.tables e below (T0.setTop (mkF m 218 #[.val (.int p1), .val (.int p2), .val (.int p3), .val (.int p4), .val (.int p5), .val (.int nn), .val (.int ps), .val (.int ss), .val (.int lt), .val (.int t0), .val (.int t1), .val (.int t2), .val (.ref b), .val (.ref od), .val (.int vc), .val (.int r0), .val (.int r1), .unset, .unset, .unset, .unset] [(.int lt), (.ref b)])) _
    refine XS.iload X0.here hx rfl (hb hby at_218) rfl ?_
    show Steps p.tables e below (T0.setTop (mkF m 220 #[.val (.int p1), .val (.int p2), .val (.int p3), .val (.int p4), .val (.int p5), .val (.int nn), .val (.int ps), .val (.int ss), .val (.int lt), .val (.int t0), .val (.int t1), .val (.int t2), .val (.ref b), .val (.ref od), .val (.int vc), .val (.int r0), .val (.int r1), .unset, .unset, .unset, .unset] [(.int vc), (.int lt), (.ref b)])) _
    refine st1.trans ?_
    show Steps p.tables e below (T1.setTop (mkF m 223 #[.val (.int p1), .val (.int p2), .val (.int p3), .val (.int p4), .val (.int p5), .val (.int nn), .val (.int ps), .val (.int ss), .val (.int lt), .val (.int t0), .val (.int t1), .val (.int t2), .val (.ref b), .val (.ref od), .val (.int vc), .val (.int r0), .val (.int r1), .unset, .unset, .unset, .unset] [])) _
    refine XS.aload X1.here hx rfl (hb hby at_223) rfl rfl ?_
    show Steps p.tables e below (T1.setTop (mkF m 225 #[.val (.int p1), .val (.int p2), .val (.int p3), .val (.int p4), .val (.int p5), .val (.int nn), .val (.int ps), .val (.int ss), .val (.int lt), .val (.int t0), .val (.int t1), .val (.int t2), .val (.ref b), .val (.ref od), .val (.int vc), .val (.int r0), .val (.int r1), .unset, .unset, .unset, .unset] [(.ref b)])) _
    refine XS.iload X1.here hx rfl (hb hby at_225) rfl ?_
    show Steps p.tables e below (T1.setTop (mkF m 227 #[.val (.int p1), .val (.int p2), .val (.int p3), .val (.int p4), .val (.int p5), .val (.int nn), .val (.int ps), .val (.int ss), .val (.int lt), .val (.int t0), .val (.int t1), .val (.int t2), .val (.ref b), .val (.ref od), .val (.int vc), .val (.int r0), .val (.int r1), .unset, .unset, .unset, .unset] [(.int lt), (.ref b)])) _
    refine st3.trans ?_
    show Steps p.tables e below (T3.setTop (mkF m 230 #[.val (.int p1), .val (.int p2), .val (.int p3), .val (.int p4), .val (.int p5), .val (.int nn), .val (.int ps), .val (.int ss), .val (.int lt), .val (.int t0), .val (.int t1), .val (.int t2), .val (.ref b), .val (.ref od), .val (.int vc), .val (.int r0), .val (.int r1), .unset, .unset, .unset, .unset] [(.int (S1.2.1 lt))])) _
    refine XS.iload X3.here hx rfl (hb hby at_230) rfl ?_
    show Steps p.tables e below (T3.setTop (mkF m 232 #[.val (.int p1), .val (.int p2), .val (.int p3), .val (.int p4), .val (.int p5), .val (.int nn), .val (.int ps), .val (.int ss), .val (.int lt), .val (.int t0), .val (.int t1), .val (.int t2), .val (.ref b), .val (.ref od), .val (.int vc), .val (.int r0), .val (.int r1), .unset, .unset, .unset, .unset] [(.int nn), (.int (S1.2.1 lt))])) _
    refine XS.iconst X3.here hx rfl (hb hby at_232) ?_
    show Steps p.tables e below (T3.setTop (mkF m 233 #[.val (.int p1), .val (.int p2), .val (.int p3), .val (.int p4), .val (.int p5), .val (.int nn), .val (.int ps), .val (.int ss), .val (.int lt), .val (.int t0), .val (.int t1), .val (.int t2), .val (.ref b), .val (.ref od), .val (.int vc), .val (.int r0), .val (.int r1), .unset, .unset, .unset, .unset] [(.int (1 : Int32)), (.int nn), (.int (S1.2.1 lt))])) _
    refine XS.isub X3.here hx rfl (hb hby at_233) rfl ?_
    show Steps p.tables e below (T3.setTop (mkF m 234 #[.val (.int p1), .val (.int p2), .val (.int p3), .val (.int p4), .val (.int p5), .val (.int nn), .val (.int ps), .val (.int ss), .val (.int lt), .val (.int t0), .val (.int t1), .val (.int t2), .val (.ref b), .val (.ref od), .val (.int vc), .val (.int r0), .val (.int r1), .unset, .unset, .unset, .unset] [(.int (nn - (1 : Int32))), (.int (S1.2.1 lt))])) _
    refine XS.icmpNo X3.here hx rfl (hb hby at_234) rfl (XT.ii_ne_f hc234_4) ?_
    show Steps p.tables e below (T3.setTop (mkF m 237 #[.val (.int p1), .val (.int p2), .val (.int p3), .val (.int p4), .val (.int p5), .val (.int nn), .val (.int ps), .val (.int ss), .val (.int lt), .val (.int t0), .val (.int t1), .val (.int t2), .val (.ref b), .val (.ref od), .val (.int vc), .val (.int r0), .val (.int r1), .unset, .unset, .unset, .unset] [])) _
    refine XS.aload X3.here hx rfl (hb hby at_237) rfl rfl ?_
    show Steps p.tables e below (T3.setTop (mkF m 239 #[.val (.int p1), .val (.int p2), .val (.int p3), .val (.int p4), .val (.int p5), .val (.int nn), .val (.int ps), .val (.int ss), .val (.int lt), .val (.int t0), .val (.int t1), .val (.int t2), .val (.ref b), .val (.ref od), .val (.int vc), .val (.int r0), .val (.int r1), .unset, .unset, .unset, .unset] [(.ref b)])) _
    refine XS.iload X3.here hx rfl (hb hby at_239) rfl ?_
    show Steps p.tables e below (T3.setTop (mkF m 241 #[.val (.int p1), .val (.int p2), .val (.int p3), .val (.int p4), .val (.int p5), .val (.int nn), .val (.int ps), .val (.int ss), .val (.int lt), .val (.int t0), .val (.int t1), .val (.int t2), .val (.ref b), .val (.ref od), .val (.int vc), .val (.int r0), .val (.int r1), .unset, .unset, .unset, .unset] [(.int lt), (.ref b)])) _
    refine st5.trans ?_
    show Steps p.tables e below (T5.setTop (mkF m 244 #[.val (.int p1), .val (.int p2), .val (.int p3), .val (.int p4), .val (.int p5), .val (.int nn), .val (.int ps), .val (.int ss), .val (.int lt), .val (.int t0), .val (.int t1), .val (.int t2), .val (.ref b), .val (.ref od), .val (.int vc), .val (.int r0), .val (.int r1), .unset, .unset, .unset, .unset] [(.int (S1.1 lt))])) _
    refine XS.iload X5.here hx rfl (hb hby at_244) rfl ?_
    show Steps p.tables e below (T5.setTop (mkF m 246 #[.val (.int p1), .val (.int p2), .val (.int p3), .val (.int p4), .val (.int p5), .val (.int nn), .val (.int ps), .val (.int ss), .val (.int lt), .val (.int t0), .val (.int t1), .val (.int t2), .val (.ref b), .val (.ref od), .val (.int vc), .val (.int r0), .val (.int r1), .unset, .unset, .unset, .unset] [(.int r0), (.int (S1.1 lt))])) _
    refine XS.icmpNo X5.here hx rfl (hb hby at_246) rfl (XT.ii_ne_f hc246_6) ?_
    show Steps p.tables e below (T5.setTop (mkF m 249 #[.val (.int p1), .val (.int p2), .val (.int p3), .val (.int p4), .val (.int p5), .val (.int nn), .val (.int ps), .val (.int ss), .val (.int lt), .val (.int t0), .val (.int t1), .val (.int t2), .val (.ref b), .val (.ref od), .val (.int vc), .val (.int r0), .val (.int r1), .unset, .unset, .unset, .unset] [])) _
    refine XS.iconst X5.here hx rfl (hb hby at_249) ?_
    show Steps p.tables e below (T5.setTop (mkF m 250 #[.val (.int p1), .val (.int p2), .val (.int p3), .val (.int p4), .val (.int p5), .val (.int nn), .val (.int ps), .val (.int ss), .val (.int lt), .val (.int t0), .val (.int t1), .val (.int t2), .val (.ref b), .val (.ref od), .val (.int vc), .val (.int r0), .val (.int r1), .unset, .unset, .unset, .unset] [(.int (1 : Int32))])) _
    refine XS.goto X5.here hx rfl (pc0 := 250) (pc' := 254) rfl (hb hby at_250) (by decide) (by decide) ?_
    show Steps p.tables e below (T5.setTop (mkF m 254 #[.val (.int p1), .val (.int p2), .val (.int p3), .val (.int p4), .val (.int p5), .val (.int nn), .val (.int ps), .val (.int ss), .val (.int lt), .val (.int t0), .val (.int t1), .val (.int t2), .val (.ref b), .val (.ref od), .val (.int vc), .val (.int r0), .val (.int r1), .unset, .unset, .unset, .unset] [(.int (1 : Int32))])) _
    refine XS.istore X5.here hx rfl (hb hby at_254) rfl (l' := #[.val (.int p1), .val (.int p2), .val (.int p3), .val (.int p4), .val (.int p5), .val (.int nn), .val (.int ps), .val (.int ss), .val (.int lt), .val (.int t0), .val (.int t1), .val (.int t2), .val (.ref b), .val (.ref od), .val (.int vc), .val (.int r0), .val (.int r1), .val (.int (1 : Int32)), .unset, .unset, .unset]) rfl ?_
    show Steps p.tables e below (T5.setTop (mkF m 256 #[.val (.int p1), .val (.int p2), .val (.int p3), .val (.int p4), .val (.int p5), .val (.int nn), .val (.int ps), .val (.int ss), .val (.int lt), .val (.int t0), .val (.int t1), .val (.int t2), .val (.ref b), .val (.ref od), .val (.int vc), .val (.int r0), .val (.int r1), .val (.int (1 : Int32)), .unset, .unset, .unset] [])) _
    refine XS.iload X5.here hx rfl (hb hby at_256) rfl ?_
    show Steps p.tables e below (T5.setTop (mkF m 258 #[.val (.int p1), .val (.int p2), .val (.int p3), .val (.int p4), .val (.int p5), .val (.int nn), .val (.int ps), .val (.int ss), .val (.int lt), .val (.int t0), .val (.int t1), .val (.int t2), .val (.ref b), .val (.ref od), .val (.int vc), .val (.int r0), .val (.int r1), .val (.int (1 : Int32)), .unset, .unset, .unset] [(.int r0)])) _
    refine XS.iconst X5.here hx rfl (hb hby at_258) ?_
    exact kt)
  by_cases hc259_7 : r0 = (-1 : Int32)
  · skip
    have P10 : ∀ t, Steps p.tables e below (T5.setTop (mkF m 289 #[.val (.int p1), .val (.int p2), .val (.int p3), .val (.int p4), .val (.int p5), .val (.int nn), .val (.int ps), .val (.int ss), .val (.int lt), .val (.int t0), .val (.int t1), .val (.int t2), .val (.ref b), .val (.ref od), .val (.int vc), .val (.int r0), .val (.int r1), .val (.int (1 : Int32)), .unset, .unset, .unset] [(.int (-1 : Int32)), (.int r1)])) t → Steps p.tables e below (T0.setTop (mkF m 214 #[.val (.int p1), .val (.int p2), .val (.int p3), .val (.int p4), .val (.int p5), .val (.int nn), .val (.int ps), .val (.int ss), .val (.int lt), .val (.int t0), .val (.int t1), .val (.int t2), .val (.ref b), .val (.ref od), .val (.int vc), .val (.int r0), .val (.int r1), .unset, .unset, .unset, .unset] [])) t := fun t kt => P8 t (by
      show Steps p.tables e below (T5.setTop (mkF m 259 #[.val (.int p1), .val (.int p2), .val (.int p3), .val (.int p4), .val (.int p5), .val (.int nn), .val (.int ps), .val (.int ss), .val (.int lt), .val (.int t0), .val (.int t1), .val (.int t2), .val (.ref b), .val (.ref od), .val (.int vc), .val (.int r0), .val (.int r1), .val (.int (1 : Int32)), .unset, .unset, .unset] [(.int (-1 : Int32)), (.int r0)])) _
      refine XS.icmpYes X5.here hx rfl (pc0 := 259) (pc' := 286) rfl (hb hby at_259) rfl (XT.ii_eq_t hc259_7) (by decide) (by decide) ?_
      show Steps p.tables e below (T5.setTop (mkF m 286 #[.val (.int p1), .val (.int p2), .val (.int p3), .val (.int p4), .val (.int p5), .val (.int nn), .val (.int ps), .val (.int ss), .val (.int lt), .val (.int t0), .val (.int t1), .val (.int t2), .val (.ref b), .val (.ref od), .val (.int vc), .val (.int r0), .val (.int r1), .val (.int (1 : Int32)), .unset, .unset, .unset] [])) _
      refine XS.iload X5.here hx rfl (hb hby at_286) rfl ?_
      show Steps p.tables e below (T5.setTop (mkF m 288 #[.val (.int p1), .val (.int p2), .val (.int p3), .val (.int p4), .val (.int p5), .val (.int nn), .val (.int ps), .val (.int ss), .val (.int lt), .val (.int t0), .val (.int t1), .val (.int t2), .val (.ref b), .val (.ref od), .val (.int vc), .val (.int r0), .val (.int r1), .val (.int (1 : Int32)), .unset, .unset, .unset] [(.int r1)])) _
      refine XS.iconst X5.here hx rfl (hb hby at_288) ?_
      exact kt)
    by_cases hc289_9 : r1 = (-1 : Int32)
    · skip
      have P12 : ∀ t, Steps p.tables e below (T5.setTop (mkF m 319 #[.val (.int p1), .val (.int p2), .val (.int p3), .val (.int p4), .val (.int p5), .val (.int nn), .val (.int ps), .val (.int ss), .val (.int lt), .val (.int t0), .val (.int t1), .val (.int t2), .val (.ref b), .val (.ref od), .val (.int vc), .val (.int r0), .val (.int r1), .val (.int (1 : Int32)), .unset, .unset, .unset] [(.int (p5 &&& (1 : Int32)))])) t → Steps p.tables e below (T0.setTop (mkF m 214 #[.val (.int p1), .val (.int p2), .val (.int p3), .val (.int p4), .val (.int p5), .val (.int nn), .val (.int ps), .val (.int ss), .val (.int lt), .val (.int t0), .val (.int t1), .val (.int t2), .val (.ref b), .val (.ref od), .val (.int vc), .val (.int r0), .val (.int r1), .unset, .unset, .unset, .unset] [])) t := fun t kt => P10 t (by
        show Steps p.tables e below (T5.setTop (mkF m 289 #[.val (.int p1), .val (.int p2), .val (.int p3), .val (.int p4), .val (.int p5), .val (.int nn), .val (.int ps), .val (.int ss), .val (.int lt), .val (.int t0), .val (.int t1), .val (.int t2), .val (.ref b), .val (.ref od), .val (.int vc), .val (.int r0), .val (.int r1), .val (.int (1 : Int32)), .unset, .unset, .unset] [(.int (-1 : Int32)), (.int r1)])) _
        refine XS.icmpYes X5.here hx rfl (pc0 := 289) (pc' := 315) rfl (hb hby at_289) rfl (XT.ii_eq_t hc289_9) (by decide) (by decide) ?_
        show Steps p.tables e below (T5.setTop (mkF m 315 #[.val (.int p1), .val (.int p2), .val (.int p3), .val (.int p4), .val (.int p5), .val (.int nn), .val (.int ps), .val (.int ss), .val (.int lt), .val (.int t0), .val (.int t1), .val (.int t2), .val (.ref b), .val (.ref od), .val (.int vc), .val (.int r0), .val (.int r1), .val (.int (1 : Int32)), .unset, .unset, .unset] [])) _
        refine XS.iload X5.here hx rfl (hb hby at_315) rfl ?_
        show Steps p.tables e below (T5.setTop (mkF m 317 #[.val (.int p1), .val (.int p2), .val (.int p3), .val (.int p4), .val (.int p5), .val (.int nn), .val (.int ps), .val (.int ss), .val (.int lt), .val (.int t0), .val (.int t1), .val (.int t2), .val (.ref b), .val (.ref od), .val (.int vc), .val (.int r0), .val (.int r1), .val (.int (1 : Int32)), .unset, .unset, .unset] [(.int p5)])) _
        refine XS.iconst X5.here hx rfl (hb hby at_317) ?_
        show Steps p.tables e below (T5.setTop (mkF m 318 #[.val (.int p1), .val (.int p2), .val (.int p3), .val (.int p4), .val (.int p5), .val (.int nn), .val (.int ps), .val (.int ss), .val (.int lt), .val (.int t0), .val (.int t1), .val (.int t2), .val (.ref b), .val (.ref od), .val (.int vc), .val (.int r0), .val (.int r1), .val (.int (1 : Int32)), .unset, .unset, .unset] [(.int (1 : Int32)), (.int p5)])) _
        refine XS.iand X5.here hx rfl (hb hby at_318) rfl ?_
        exact kt)
      by_cases hc319_11 : (p5 &&& (1 : Int32)) = (0 : Int32)
      · skip
        have P13 : ∀ t, Steps p.tables e below (T5.setTop (mkF m 454 #[.val (.int p1), .val (.int p2), .val (.int p3), .val (.int p4), .val (.int p5), .val (.int nn), .val (.int ps), .val (.int ss), .val (.int lt), .val (.int t0), .val (.int t1), .val (.int t2), .val (.ref b), .val (.ref od), .val (.int vc), .val (.int r0), .val (.int r1), .val (.int (1 : Int32)), .unset, .unset, .unset] [(.int (1 : Int32))])) t → Steps p.tables e below (T0.setTop (mkF m 214 #[.val (.int p1), .val (.int p2), .val (.int p3), .val (.int p4), .val (.int p5), .val (.int nn), .val (.int ps), .val (.int ss), .val (.int lt), .val (.int t0), .val (.int t1), .val (.int t2), .val (.ref b), .val (.ref od), .val (.int vc), .val (.int r0), .val (.int r1), .unset, .unset, .unset, .unset] [])) t := fun t kt => P12 t (by
          show Steps p.tables e below (T5.setTop (mkF m 319 #[.val (.int p1), .val (.int p2), .val (.int p3), .val (.int p4), .val (.int p5), .val (.int nn), .val (.int ps), .val (.int ss), .val (.int lt), .val (.int t0), .val (.int t1), .val (.int t2), .val (.ref b), .val (.ref od), .val (.int vc), .val (.int r0), .val (.int r1), .val (.int (1 : Int32)), .unset, .unset, .unset] [(.int (p5 &&& (1 : Int32)))])) _
          refine XS.ifYes X5.here hx rfl (pc0 := 319) (pc' := 452) rfl (hb hby at_319) rfl (XT.i0_eq_t hc319_11) (by decide) (by decide) ?_
          show Steps p.tables e below (T5.setTop (mkF m 452 #[.val (.int p1), .val (.int p2), .val (.int p3), .val (.int p4), .val (.int p5), .val (.int nn), .val (.int ps), .val (.int ss), .val (.int lt), .val (.int t0), .val (.int t1), .val (.int t2), .val (.ref b), .val (.ref od), .val (.int vc), .val (.int r0), .val (.int r1), .val (.int (1 : Int32)), .unset, .unset, .unset] [])) _
          refine XS.iload X5.here hx rfl (hb hby at_452) rfl ?_
          exact kt)
        exact ⟨T5, _, _, X5, N5, P13⟩
      · skip
        have hc325_14 : r0 = (-1 : Int32) := hc259_7
        have P15 : ∀ t, Steps p.tables e below (T5.setTop (mkF m 454 #[.val (.int p1), .val (.int p2), .val (.int p3), .val (.int p4), .val (.int p5), .val (.int nn), .val (.int ps), .val (.int ss), .val (.int lt), .val (.int t0), .val (.int t1), .val (.int t2), .val (.ref b), .val (.ref od), .val (.int vc), .val (.int r0), .val (.int r1), .val (.int (1 : Int32)), .unset, .unset, .unset] [(.int (1 : Int32))])) t → Steps p.tables e below (T0.setTop (mkF m 214 #[.val (.int p1), .val (.int p2), .val (.int p3), .val (.int p4), .val (.int p5), .val (.int nn), .val (.int ps), .val (.int ss), .val (.int lt), .val (.int t0), .val (.int t1), .val (.int t2), .val (.ref b), .val (.ref od), .val (.int vc), .val (.int r0), .val (.int r1), .unset, .unset, .unset, .unset] [])) t := fun t kt => P12 t (by
          show Steps p.tables e below (T5.setTop (mkF m 319 #[.val (.int p1), .val (.int p2), .val (.int p3), .val (.int p4), .val (.int p5), .val (.int nn), .val (.int ps), .val (.int ss), .val (.int lt), .val (.int t0), .val (.int t1), .val (.int t2), .val (.ref b), .val (.ref od), .val (.int vc), .val (.int r0), .val (.int r1), .val (.int (1 : Int32)), .unset, .unset, .unset] [(.int (p5 &&& (1 : Int32)))])) _
          refine XS.ifNo X5.here hx rfl (hb hby at_319) rfl (XT.i0_eq_f hc319_11) ?_
          show Steps p.tables e below (T5.setTop (mkF m 322 #[.val (.int p1), .val (.int p2), .val (.int p3), .val (.int p4), .val (.int p5), .val (.int nn), .val (.int ps), .val (.int ss), .val (.int lt), .val (.int t0), .val (.int t1), .val (.int t2), .val (.ref b), .val (.ref od), .val (.int vc), .val (.int r0), .val (.int r1), .val (.int (1 : Int32)), .unset, .unset, .unset] [])) _
          refine XS.iload X5.here hx rfl (hb hby at_322) rfl ?_
          show Steps p.tables e below (T5.setTop (mkF m 324 #[.val (.int p1), .val (.int p2), .val (.int p3), .val (.int p4), .val (.int p5), .val (.int nn), .val (.int ps), .val (.int ss), .val (.int lt), .val (.int t0), .val (.int t1), .val (.int t2), .val (.ref b), .val (.ref od), .val (.int vc), .val (.int r0), .val (.int r1), .val (.int (1 : Int32)), .unset, .unset, .unset] [(.int r0)])) _
          refine XS.iconst X5.here hx rfl (hb hby at_324) ?_
          show Steps p.tables e below (T5.setTop (mkF m 325 #[.val (.int p1), .val (.int p2), .val (.int p3), .val (.int p4), .val (.int p5), .val (.int nn), .val (.int ps), .val (.int ss), .val (.int lt), .val (.int t0), .val (.int t1), .val (.int t2), .val (.ref b), .val (.ref od), .val (.int vc), .val (.int r0), .val (.int r1), .val (.int (1 : Int32)), .unset, .unset, .unset] [(.int (-1 : Int32)), (.int r0)])) _
          refine XS.icmpYes X5.here hx rfl (pc0 := 325) (pc' := 452) rfl (hb hby at_325) rfl (XT.ii_eq_t hc325_14) (by decide) (by decide) ?_
          show Steps p.tables e below (T5.setTop (mkF m 452 #[.val (.int p1), .val (.int p2), .val (.int p3), .val (.int p4), .val (.int p5), .val (.int nn), .val (.int ps), .val (.int ss), .val (.int lt), .val (.int t0), .val (.int t1), .val (.int t2), .val (.ref b), .val (.ref od), .val (.int vc), .val (.int r0), .val (.int r1), .val (.int (1 : Int32)), .unset, .unset, .unset] [])) _
          refine XS.iload X5.here hx rfl (hb hby at_452) rfl ?_
          exact kt)
        exact ⟨T5, _, _, X5, N5, P15⟩
    · skip
      have hc294_16 : ¬ ((1 : Int32) = (0 : Int32)) := by decide
      obtain ⟨cq17, kq17, q17a, q17b, q17c⟩ := isOf hZ e5 c2
      obtain ⟨_, _, ⟨T17, L17, k17, n17⟩, -, X17, ⟨Lc17, hQ17, l17, y17, z17⟩, st17⟩ := X5.virtualBack hx (y := (⟨"com/example/exact_equiv/exactequiv/equivalence/IntLists", "next", "(I)I"⟩ : MethodName)) (z := (⟨"com/example/exact_equiv/exactequiv/equivalence/IntLists", "next", "(I)I"⟩ : MethodName)) hown (mvT hZ (hw _ (List.mem_of_getElem? (i := 43) rfl))) (mvT hZ (hw _ (List.mem_of_getElem? (i := 44) rfl))) (notFace_of_selects (args := #[]) (mvT hZ (hw _ (List.mem_of_getElem? (i := 46) rfl)))) (mvT hZ (hw _ (List.mem_of_getElem? (i := 46) rfl))) (mvT hZ (hw _ (List.mem_of_getElem? (i := 45) rfl))) (by decide) (backOf (W := 0) (rm8 l Z a0 hw [] b r1 aF aS aN aP S1 T1.heap n0 Zs1 HIq1 ((hG.2.2.2.2.1.resolve_left hc289_9).1)) hZ (hw _ (List.mem_of_getElem? (i := 47) rfl)) (hw _ (List.mem_of_getElem? (i := 3) rfl)) (by decide) (by decide)) q17a q17c (g := (mkF m 301 #[.val (.int p1), .val (.int p2), .val (.int p3), .val (.int p4), .val (.int p5), .val (.int nn), .val (.int ps), .val (.int ss), .val (.int lt), .val (.int t0), .val (.int t1), .val (.int t2), .val (.ref b), .val (.ref od), .val (.int vc), .val (.int r0), .val (.int r1), .val (.int (1 : Int32)), .unset, .unset, .unset] [(.int r1), (.ref b)])) rfl (by rw [hml]; rfl) (Steps.refl _) (argsL := [(.int r1)]) (rest := []) (lenOf pd_2 rfl) rfl (by show 2 * 0 + _ ≤ _; exact Nat.le_of_eq rfl) (hb hby at_301) (fun _ _ => ⟨rfl, e5, (by decide : 6 + 0 ≤ _), (by decide : 19 + 0 ≤ _)⟩)
      dsimp only [Pt.U, Pt.locs, Pt.cells, Pt.slots] at X17 l17 y17 z17 st17 hQ17
      subst l17 y17 z17
      obtain ⟨rfl, N17q, e17⟩ := hQ17
      have N17 := Fr.app N5 N17q
      have hc305_18 : (S1.2.2.1 r1) = (-1 : Int32) := by rw [hS1]; exact (hG.2.2.2.2.1.resolve_left hc289_9).2
      have P20 : ∀ t, Steps p.tables e below (T17.setTop (mkF m 319 #[.val (.int p1), .val (.int p2), .val (.int p3), .val (.int p4), .val (.int p5), .val (.int nn), .val (.int ps), .val (.int ss), .val (.int lt), .val (.int t0), .val (.int t1), .val (.int t2), .val (.ref b), .val (.ref od), .val (.int vc), .val (.int r0), .val (.int r1), .val (.int (1 : Int32)), .unset, .unset, .unset] [(.int (p5 &&& (1 : Int32)))])) t → Steps p.tables e below (T0.setTop (mkF m 214 #[.val (.int p1), .val (.int p2), .val (.int p3), .val (.int p4), .val (.int p5), .val (.int nn), .val (.int ps), .val (.int ss), .val (.int lt), .val (.int t0), .val (.int t1), .val (.int t2), .val (.ref b), .val (.ref od), .val (.int vc), .val (.int r0), .val (.int r1), .unset, .unset, .unset, .unset] [])) t := fun t kt => P10 t (by
        show Steps p.tables e below (T5.setTop (mkF m 289 #[.val (.int p1), .val (.int p2), .val (.int p3), .val (.int p4), .val (.int p5), .val (.int nn), .val (.int ps), .val (.int ss), .val (.int lt), .val (.int t0), .val (.int t1), .val (.int t2), .val (.ref b), .val (.ref od), .val (.int vc), .val (.int r0), .val (.int r1), .val (.int (1 : Int32)), .unset, .unset, .unset] [(.int (-1 : Int32)), (.int r1)])) _
        refine XS.icmpNo X5.here hx rfl (hb hby at_289) rfl (XT.ii_eq_f hc289_9) ?_
        show Steps p.tables e below (T5.setTop (mkF m 292 #[.val (.int p1), .val (.int p2), .val (.int p3), .val (.int p4), .val (.int p5), .val (.int nn), .val (.int ps), .val (.int ss), .val (.int lt), .val (.int t0), .val (.int t1), .val (.int t2), .val (.ref b), .val (.ref od), .val (.int vc), .val (.int r0), .val (.int r1), .val (.int (1 : Int32)), .unset, .unset, .unset] [])) _
        refine XS.iload X5.here hx rfl (hb hby at_292) rfl ?_
        show Steps p.tables e below (T5.setTop (mkF m 294 #[.val (.int p1), .val (.int p2), .val (.int p3), .val (.int p4), .val (.int p5), .val (.int nn), .val (.int ps), .val (.int ss), .val (.int lt), .val (.int t0), .val (.int t1), .val (.int t2), .val (.ref b), .val (.ref od), .val (.int vc), .val (.int r0), .val (.int r1), .val (.int (1 : Int32)), .unset, .unset, .unset] [(.int (1 : Int32))])) _
        refine XS.ifNo X5.here hx rfl (hb hby at_294) rfl (XT.i0_eq_f hc294_16) ?_
        show Steps p.tables e below (T5.setTop (mkF m 297 #[.val (.int p1), .val (.int p2), .val (.int p3), .val (.int p4), .val (.int p5), .val (.int nn), .val (.int ps), .val (.int ss), .val (.int lt), .val (.int t0), .val (.int t1), .val (.int t2), .val (.ref b), .val (.ref od), .val (.int vc), .val (.int r0), .val (.int r1), .val (.int (1 : Int32)), .unset, .unset, .unset] [])) _
        refine XS.aload X5.here hx rfl (hb hby at_297) rfl rfl ?_
        show Steps p.tables e below (T5.setTop (mkF m 299 #[.val (.int p1), .val (.int p2), .val (.int p3), .val (.int p4), .val (.int p5), .val (.int nn), .val (.int ps), .val (.int ss), .val (.int lt), .val (.int t0), .val (.int t1), .val (.int t2), .val (.ref b), .val (.ref od), .val (.int vc), .val (.int r0), .val (.int r1), .val (.int (1 : Int32)), .unset, .unset, .unset] [(.ref b)])) _
        refine XS.iload X5.here hx rfl (hb hby at_299) rfl ?_
        show Steps p.tables e below (T5.setTop (mkF m 301 #[.val (.int p1), .val (.int p2), .val (.int p3), .val (.int p4), .val (.int p5), .val (.int nn), .val (.int ps), .val (.int ss), .val (.int lt), .val (.int t0), .val (.int t1), .val (.int t2), .val (.ref b), .val (.ref od), .val (.int vc), .val (.int r0), .val (.int r1), .val (.int (1 : Int32)), .unset, .unset, .unset] [(.int r1), (.ref b)])) _
        refine st17.trans ?_
        show Steps p.tables e below (T17.setTop (mkF m 304 #[.val (.int p1), .val (.int p2), .val (.int p3), .val (.int p4), .val (.int p5), .val (.int nn), .val (.int ps), .val (.int ss), .val (.int lt), .val (.int t0), .val (.int t1), .val (.int t2), .val (.ref b), .val (.ref od), .val (.int vc), .val (.int r0), .val (.int r1), .val (.int (1 : Int32)), .unset, .unset, .unset] [(.int (S1.2.2.1 r1))])) _
        refine XS.iconst X17.here hx rfl (hb hby at_304) ?_
        show Steps p.tables e below (T17.setTop (mkF m 305 #[.val (.int p1), .val (.int p2), .val (.int p3), .val (.int p4), .val (.int p5), .val (.int nn), .val (.int ps), .val (.int ss), .val (.int lt), .val (.int t0), .val (.int t1), .val (.int t2), .val (.ref b), .val (.ref od), .val (.int vc), .val (.int r0), .val (.int r1), .val (.int (1 : Int32)), .unset, .unset, .unset] [(.int (-1 : Int32)), (.int (S1.2.2.1 r1))])) _
        refine XS.icmpNo X17.here hx rfl (hb hby at_305) rfl (XT.ii_ne_f hc305_18) ?_
        show Steps p.tables e below (T17.setTop (mkF m 308 #[.val (.int p1), .val (.int p2), .val (.int p3), .val (.int p4), .val (.int p5), .val (.int nn), .val (.int ps), .val (.int ss), .val (.int lt), .val (.int t0), .val (.int t1), .val (.int t2), .val (.ref b), .val (.ref od), .val (.int vc), .val (.int r0), .val (.int r1), .val (.int (1 : Int32)), .unset, .unset, .unset] [])) _
        refine XS.iconst X17.here hx rfl (hb hby at_308) ?_
        show Steps p.tables e below (T17.setTop (mkF m 309 #[.val (.int p1), .val (.int p2), .val (.int p3), .val (.int p4), .val (.int p5), .val (.int nn), .val (.int ps), .val (.int ss), .val (.int lt), .val (.int t0), .val (.int t1), .val (.int t2), .val (.ref b), .val (.ref od), .val (.int vc), .val (.int r0), .val (.int r1), .val (.int (1 : Int32)), .unset, .unset, .unset] [(.int (1 : Int32))])) _
        refine XS.goto X17.here hx rfl (pc0 := 309) (pc' := 313) rfl (hb hby at_309) (by decide) (by decide) ?_
        show Steps p.tables e below (T17.setTop (mkF m 313 #[.val (.int p1), .val (.int p2), .val (.int p3), .val (.int p4), .val (.int p5), .val (.int nn), .val (.int ps), .val (.int ss), .val (.int lt), .val (.int t0), .val (.int t1), .val (.int t2), .val (.ref b), .val (.ref od), .val (.int vc), .val (.int r0), .val (.int r1), .val (.int (1 : Int32)), .unset, .unset, .unset] [(.int (1 : Int32))])) _
        refine XS.istore X17.here hx rfl (hb hby at_313) rfl (l' := #[.val (.int p1), .val (.int p2), .val (.int p3), .val (.int p4), .val (.int p5), .val (.int nn), .val (.int ps), .val (.int ss), .val (.int lt), .val (.int t0), .val (.int t1), .val (.int t2), .val (.ref b), .val (.ref od), .val (.int vc), .val (.int r0), .val (.int r1), .val (.int (1 : Int32)), .unset, .unset, .unset]) rfl ?_
        show Steps p.tables e below (T17.setTop (mkF m 315 #[.val (.int p1), .val (.int p2), .val (.int p3), .val (.int p4), .val (.int p5), .val (.int nn), .val (.int ps), .val (.int ss), .val (.int lt), .val (.int t0), .val (.int t1), .val (.int t2), .val (.ref b), .val (.ref od), .val (.int vc), .val (.int r0), .val (.int r1), .val (.int (1 : Int32)), .unset, .unset, .unset] [])) _
        refine XS.iload X17.here hx rfl (hb hby at_315) rfl ?_
        show Steps p.tables e below (T17.setTop (mkF m 317 #[.val (.int p1), .val (.int p2), .val (.int p3), .val (.int p4), .val (.int p5), .val (.int nn), .val (.int ps), .val (.int ss), .val (.int lt), .val (.int t0), .val (.int t1), .val (.int t2), .val (.ref b), .val (.ref od), .val (.int vc), .val (.int r0), .val (.int r1), .val (.int (1 : Int32)), .unset, .unset, .unset] [(.int p5)])) _
        refine XS.iconst X17.here hx rfl (hb hby at_317) ?_
        show Steps p.tables e below (T17.setTop (mkF m 318 #[.val (.int p1), .val (.int p2), .val (.int p3), .val (.int p4), .val (.int p5), .val (.int nn), .val (.int ps), .val (.int ss), .val (.int lt), .val (.int t0), .val (.int t1), .val (.int t2), .val (.ref b), .val (.ref od), .val (.int vc), .val (.int r0), .val (.int r1), .val (.int (1 : Int32)), .unset, .unset, .unset] [(.int (1 : Int32)), (.int p5)])) _
        refine XS.iand X17.here hx rfl (hb hby at_318) rfl ?_
        exact kt)
      by_cases hc319_19 : (p5 &&& (1 : Int32)) = (0 : Int32)
      · skip
        have P21 : ∀ t, Steps p.tables e below (T17.setTop (mkF m 454 #[.val (.int p1), .val (.int p2), .val (.int p3), .val (.int p4), .val (.int p5), .val (.int nn), .val (.int ps), .val (.int ss), .val (.int lt), .val (.int t0), .val (.int t1), .val (.int t2), .val (.ref b), .val (.ref od), .val (.int vc), .val (.int r0), .val (.int r1), .val (.int (1 : Int32)), .unset, .unset, .unset] [(.int (1 : Int32))])) t → Steps p.tables e below (T0.setTop (mkF m 214 #[.val (.int p1), .val (.int p2), .val (.int p3), .val (.int p4), .val (.int p5), .val (.int nn), .val (.int ps), .val (.int ss), .val (.int lt), .val (.int t0), .val (.int t1), .val (.int t2), .val (.ref b), .val (.ref od), .val (.int vc), .val (.int r0), .val (.int r1), .unset, .unset, .unset, .unset] [])) t := fun t kt => P20 t (by
          show Steps p.tables e below (T17.setTop (mkF m 319 #[.val (.int p1), .val (.int p2), .val (.int p3), .val (.int p4), .val (.int p5), .val (.int nn), .val (.int ps), .val (.int ss), .val (.int lt), .val (.int t0), .val (.int t1), .val (.int t2), .val (.ref b), .val (.ref od), .val (.int vc), .val (.int r0), .val (.int r1), .val (.int (1 : Int32)), .unset, .unset, .unset] [(.int (p5 &&& (1 : Int32)))])) _
          refine XS.ifYes X17.here hx rfl (pc0 := 319) (pc' := 452) rfl (hb hby at_319) rfl (XT.i0_eq_t hc319_19) (by decide) (by decide) ?_
          show Steps p.tables e below (T17.setTop (mkF m 452 #[.val (.int p1), .val (.int p2), .val (.int p3), .val (.int p4), .val (.int p5), .val (.int nn), .val (.int ps), .val (.int ss), .val (.int lt), .val (.int t0), .val (.int t1), .val (.int t2), .val (.ref b), .val (.ref od), .val (.int vc), .val (.int r0), .val (.int r1), .val (.int (1 : Int32)), .unset, .unset, .unset] [])) _
          refine XS.iload X17.here hx rfl (hb hby at_452) rfl ?_
          exact kt)
        exact ⟨T17, _, _, X17, N17, P21⟩
      · skip
        have hc325_22 : r0 = (-1 : Int32) := hc259_7
        have P23 : ∀ t, Steps p.tables e below (T17.setTop (mkF m 454 #[.val (.int p1), .val (.int p2), .val (.int p3), .val (.int p4), .val (.int p5), .val (.int nn), .val (.int ps), .val (.int ss), .val (.int lt), .val (.int t0), .val (.int t1), .val (.int t2), .val (.ref b), .val (.ref od), .val (.int vc), .val (.int r0), .val (.int r1), .val (.int (1 : Int32)), .unset, .unset, .unset] [(.int (1 : Int32))])) t → Steps p.tables e below (T0.setTop (mkF m 214 #[.val (.int p1), .val (.int p2), .val (.int p3), .val (.int p4), .val (.int p5), .val (.int nn), .val (.int ps), .val (.int ss), .val (.int lt), .val (.int t0), .val (.int t1), .val (.int t2), .val (.ref b), .val (.ref od), .val (.int vc), .val (.int r0), .val (.int r1), .unset, .unset, .unset, .unset] [])) t := fun t kt => P20 t (by
          show Steps p.tables e below (T17.setTop (mkF m 319 #[.val (.int p1), .val (.int p2), .val (.int p3), .val (.int p4), .val (.int p5), .val (.int nn), .val (.int ps), .val (.int ss), .val (.int lt), .val (.int t0), .val (.int t1), .val (.int t2), .val (.ref b), .val (.ref od), .val (.int vc), .val (.int r0), .val (.int r1), .val (.int (1 : Int32)), .unset, .unset, .unset] [(.int (p5 &&& (1 : Int32)))])) _
          refine XS.ifNo X17.here hx rfl (hb hby at_319) rfl (XT.i0_eq_f hc319_19) ?_
          show Steps p.tables e below (T17.setTop (mkF m 322 #[.val (.int p1), .val (.int p2), .val (.int p3), .val (.int p4), .val (.int p5), .val (.int nn), .val (.int ps), .val (.int ss), .val (.int lt), .val (.int t0), .val (.int t1), .val (.int t2), .val (.ref b), .val (.ref od), .val (.int vc), .val (.int r0), .val (.int r1), .val (.int (1 : Int32)), .unset, .unset, .unset] [])) _
          refine XS.iload X17.here hx rfl (hb hby at_322) rfl ?_
          show Steps p.tables e below (T17.setTop (mkF m 324 #[.val (.int p1), .val (.int p2), .val (.int p3), .val (.int p4), .val (.int p5), .val (.int nn), .val (.int ps), .val (.int ss), .val (.int lt), .val (.int t0), .val (.int t1), .val (.int t2), .val (.ref b), .val (.ref od), .val (.int vc), .val (.int r0), .val (.int r1), .val (.int (1 : Int32)), .unset, .unset, .unset] [(.int r0)])) _
          refine XS.iconst X17.here hx rfl (hb hby at_324) ?_
          show Steps p.tables e below (T17.setTop (mkF m 325 #[.val (.int p1), .val (.int p2), .val (.int p3), .val (.int p4), .val (.int p5), .val (.int nn), .val (.int ps), .val (.int ss), .val (.int lt), .val (.int t0), .val (.int t1), .val (.int t2), .val (.ref b), .val (.ref od), .val (.int vc), .val (.int r0), .val (.int r1), .val (.int (1 : Int32)), .unset, .unset, .unset] [(.int (-1 : Int32)), (.int r0)])) _
          refine XS.icmpYes X17.here hx rfl (pc0 := 325) (pc' := 452) rfl (hb hby at_325) rfl (XT.ii_eq_t hc325_22) (by decide) (by decide) ?_
          show Steps p.tables e below (T17.setTop (mkF m 452 #[.val (.int p1), .val (.int p2), .val (.int p3), .val (.int p4), .val (.int p5), .val (.int nn), .val (.int ps), .val (.int ss), .val (.int lt), .val (.int t0), .val (.int t1), .val (.int t2), .val (.ref b), .val (.ref od), .val (.int vc), .val (.int r0), .val (.int r1), .val (.int (1 : Int32)), .unset, .unset, .unset] [])) _
          refine XS.iload X17.here hx rfl (hb hby at_452) rfl ?_
          exact kt)
        exact ⟨T17, _, _, X17, N17, P23⟩
  · skip
    have hc264_24 : ¬ ((1 : Int32) = (0 : Int32)) := by decide
    obtain ⟨cq25, kq25, q25a, q25b, q25c⟩ := isOf hZ e5 c2
    obtain ⟨_, _, ⟨T25, L25, k25, n25⟩, -, X25, ⟨Lc25, hQ25, l25, y25, z25⟩, st25⟩ := X5.virtualBack hx (y := (⟨"com/example/exact_equiv/exactequiv/equivalence/IntLists", "next", "(I)I"⟩ : MethodName)) (z := (⟨"com/example/exact_equiv/exactequiv/equivalence/IntLists", "next", "(I)I"⟩ : MethodName)) hown (mvT hZ (hw _ (List.mem_of_getElem? (i := 43) rfl))) (mvT hZ (hw _ (List.mem_of_getElem? (i := 44) rfl))) (notFace_of_selects (args := #[]) (mvT hZ (hw _ (List.mem_of_getElem? (i := 46) rfl)))) (mvT hZ (hw _ (List.mem_of_getElem? (i := 46) rfl))) (mvT hZ (hw _ (List.mem_of_getElem? (i := 45) rfl))) (by decide) (backOf (W := 0) (rm8 l Z a0 hw [] b r0 aF aS aN aP S1 T1.heap n0 Zs1 HIq1 ((hG.2.2.2.1.resolve_left hc259_7).1)) hZ (hw _ (List.mem_of_getElem? (i := 47) rfl)) (hw _ (List.mem_of_getElem? (i := 3) rfl)) (by decide) (by decide)) q25a q25c (g := (mkF m 271 #[.val (.int p1), .val (.int p2), .val (.int p3), .val (.int p4), .val (.int p5), .val (.int nn), .val (.int ps), .val (.int ss), .val (.int lt), .val (.int t0), .val (.int t1), .val (.int t2), .val (.ref b), .val (.ref od), .val (.int vc), .val (.int r0), .val (.int r1), .val (.int (1 : Int32)), .unset, .unset, .unset] [(.int r0), (.ref b)])) rfl (by rw [hml]; rfl) (Steps.refl _) (argsL := [(.int r0)]) (rest := []) (lenOf pd_2 rfl) rfl (by show 2 * 0 + _ ≤ _; exact Nat.le_of_eq rfl) (hb hby at_271) (fun _ _ => ⟨rfl, e5, (by decide : 6 + 0 ≤ _), (by decide : 19 + 0 ≤ _)⟩)
    dsimp only [Pt.U, Pt.locs, Pt.cells, Pt.slots] at X25 l25 y25 z25 st25 hQ25
    subst l25 y25 z25
    obtain ⟨rfl, N25q, e25⟩ := hQ25
    have N25 := Fr.app N5 N25q
    have hc276_26 : (S1.2.2.1 r0) = r1 := by rw [hS1]; exact (hG.2.2.2.1.resolve_left hc259_7).2
    have P28 : ∀ t, Steps p.tables e below (T25.setTop (mkF m 289 #[.val (.int p1), .val (.int p2), .val (.int p3), .val (.int p4), .val (.int p5), .val (.int nn), .val (.int ps), .val (.int ss), .val (.int lt), .val (.int t0), .val (.int t1), .val (.int t2), .val (.ref b), .val (.ref od), .val (.int vc), .val (.int r0), .val (.int r1), .val (.int (1 : Int32)), .unset, .unset, .unset] [(.int (-1 : Int32)), (.int r1)])) t → Steps p.tables e below (T0.setTop (mkF m 214 #[.val (.int p1), .val (.int p2), .val (.int p3), .val (.int p4), .val (.int p5), .val (.int nn), .val (.int ps), .val (.int ss), .val (.int lt), .val (.int t0), .val (.int t1), .val (.int t2), .val (.ref b), .val (.ref od), .val (.int vc), .val (.int r0), .val (.int r1), .unset, .unset, .unset, .unset] [])) t := fun t kt => P8 t (by
      show Steps p.tables e below (T5.setTop (mkF m 259 #[.val (.int p1), .val (.int p2), .val (.int p3), .val (.int p4), .val (.int p5), .val (.int nn), .val (.int ps), .val (.int ss), .val (.int lt), .val (.int t0), .val (.int t1), .val (.int t2), .val (.ref b), .val (.ref od), .val (.int vc), .val (.int r0), .val (.int r1), .val (.int (1 : Int32)), .unset, .unset, .unset] [(.int (-1 : Int32)), (.int r0)])) _
      refine XS.icmpNo X5.here hx rfl (hb hby at_259) rfl (XT.ii_eq_f hc259_7) ?_
      show Steps p.tables e below (T5.setTop (mkF m 262 #[.val (.int p1), .val (.int p2), .val (.int p3), .val (.int p4), .val (.int p5), .val (.int nn), .val (.int ps), .val (.int ss), .val (.int lt), .val (.int t0), .val (.int t1), .val (.int t2), .val (.ref b), .val (.ref od), .val (.int vc), .val (.int r0), .val (.int r1), .val (.int (1 : Int32)), .unset, .unset, .unset] [])) _
      refine XS.iload X5.here hx rfl (hb hby at_262) rfl ?_
      show Steps p.tables e below (T5.setTop (mkF m 264 #[.val (.int p1), .val (.int p2), .val (.int p3), .val (.int p4), .val (.int p5), .val (.int nn), .val (.int ps), .val (.int ss), .val (.int lt), .val (.int t0), .val (.int t1), .val (.int t2), .val (.ref b), .val (.ref od), .val (.int vc), .val (.int r0), .val (.int r1), .val (.int (1 : Int32)), .unset, .unset, .unset] [(.int (1 : Int32))])) _
      refine XS.ifNo X5.here hx rfl (hb hby at_264) rfl (XT.i0_eq_f hc264_24) ?_
      show Steps p.tables e below (T5.setTop (mkF m 267 #[.val (.int p1), .val (.int p2), .val (.int p3), .val (.int p4), .val (.int p5), .val (.int nn), .val (.int ps), .val (.int ss), .val (.int lt), .val (.int t0), .val (.int t1), .val (.int t2), .val (.ref b), .val (.ref od), .val (.int vc), .val (.int r0), .val (.int r1), .val (.int (1 : Int32)), .unset, .unset, .unset] [])) _
      refine XS.aload X5.here hx rfl (hb hby at_267) rfl rfl ?_
      show Steps p.tables e below (T5.setTop (mkF m 269 #[.val (.int p1), .val (.int p2), .val (.int p3), .val (.int p4), .val (.int p5), .val (.int nn), .val (.int ps), .val (.int ss), .val (.int lt), .val (.int t0), .val (.int t1), .val (.int t2), .val (.ref b), .val (.ref od), .val (.int vc), .val (.int r0), .val (.int r1), .val (.int (1 : Int32)), .unset, .unset, .unset] [(.ref b)])) _
      refine XS.iload X5.here hx rfl (hb hby at_269) rfl ?_
      show Steps p.tables e below (T5.setTop (mkF m 271 #[.val (.int p1), .val (.int p2), .val (.int p3), .val (.int p4), .val (.int p5), .val (.int nn), .val (.int ps), .val (.int ss), .val (.int lt), .val (.int t0), .val (.int t1), .val (.int t2), .val (.ref b), .val (.ref od), .val (.int vc), .val (.int r0), .val (.int r1), .val (.int (1 : Int32)), .unset, .unset, .unset] [(.int r0), (.ref b)])) _
      refine st25.trans ?_
      show Steps p.tables e below (T25.setTop (mkF m 274 #[.val (.int p1), .val (.int p2), .val (.int p3), .val (.int p4), .val (.int p5), .val (.int nn), .val (.int ps), .val (.int ss), .val (.int lt), .val (.int t0), .val (.int t1), .val (.int t2), .val (.ref b), .val (.ref od), .val (.int vc), .val (.int r0), .val (.int r1), .val (.int (1 : Int32)), .unset, .unset, .unset] [(.int (S1.2.2.1 r0))])) _
      refine XS.iload X25.here hx rfl (hb hby at_274) rfl ?_
      show Steps p.tables e below (T25.setTop (mkF m 276 #[.val (.int p1), .val (.int p2), .val (.int p3), .val (.int p4), .val (.int p5), .val (.int nn), .val (.int ps), .val (.int ss), .val (.int lt), .val (.int t0), .val (.int t1), .val (.int t2), .val (.ref b), .val (.ref od), .val (.int vc), .val (.int r0), .val (.int r1), .val (.int (1 : Int32)), .unset, .unset, .unset] [(.int r1), (.int (S1.2.2.1 r0))])) _
      refine XS.icmpNo X25.here hx rfl (hb hby at_276) rfl (XT.ii_ne_f hc276_26) ?_
      show Steps p.tables e below (T25.setTop (mkF m 279 #[.val (.int p1), .val (.int p2), .val (.int p3), .val (.int p4), .val (.int p5), .val (.int nn), .val (.int ps), .val (.int ss), .val (.int lt), .val (.int t0), .val (.int t1), .val (.int t2), .val (.ref b), .val (.ref od), .val (.int vc), .val (.int r0), .val (.int r1), .val (.int (1 : Int32)), .unset, .unset, .unset] [])) _
      refine XS.iconst X25.here hx rfl (hb hby at_279) ?_
      show Steps p.tables e below (T25.setTop (mkF m 280 #[.val (.int p1), .val (.int p2), .val (.int p3), .val (.int p4), .val (.int p5), .val (.int nn), .val (.int ps), .val (.int ss), .val (.int lt), .val (.int t0), .val (.int t1), .val (.int t2), .val (.ref b), .val (.ref od), .val (.int vc), .val (.int r0), .val (.int r1), .val (.int (1 : Int32)), .unset, .unset, .unset] [(.int (1 : Int32))])) _
      refine XS.goto X25.here hx rfl (pc0 := 280) (pc' := 284) rfl (hb hby at_280) (by decide) (by decide) ?_
      show Steps p.tables e below (T25.setTop (mkF m 284 #[.val (.int p1), .val (.int p2), .val (.int p3), .val (.int p4), .val (.int p5), .val (.int nn), .val (.int ps), .val (.int ss), .val (.int lt), .val (.int t0), .val (.int t1), .val (.int t2), .val (.ref b), .val (.ref od), .val (.int vc), .val (.int r0), .val (.int r1), .val (.int (1 : Int32)), .unset, .unset, .unset] [(.int (1 : Int32))])) _
      refine XS.istore X25.here hx rfl (hb hby at_284) rfl (l' := #[.val (.int p1), .val (.int p2), .val (.int p3), .val (.int p4), .val (.int p5), .val (.int nn), .val (.int ps), .val (.int ss), .val (.int lt), .val (.int t0), .val (.int t1), .val (.int t2), .val (.ref b), .val (.ref od), .val (.int vc), .val (.int r0), .val (.int r1), .val (.int (1 : Int32)), .unset, .unset, .unset]) rfl ?_
      show Steps p.tables e below (T25.setTop (mkF m 286 #[.val (.int p1), .val (.int p2), .val (.int p3), .val (.int p4), .val (.int p5), .val (.int nn), .val (.int ps), .val (.int ss), .val (.int lt), .val (.int t0), .val (.int t1), .val (.int t2), .val (.ref b), .val (.ref od), .val (.int vc), .val (.int r0), .val (.int r1), .val (.int (1 : Int32)), .unset, .unset, .unset] [])) _
      refine XS.iload X25.here hx rfl (hb hby at_286) rfl ?_
      show Steps p.tables e below (T25.setTop (mkF m 288 #[.val (.int p1), .val (.int p2), .val (.int p3), .val (.int p4), .val (.int p5), .val (.int nn), .val (.int ps), .val (.int ss), .val (.int lt), .val (.int t0), .val (.int t1), .val (.int t2), .val (.ref b), .val (.ref od), .val (.int vc), .val (.int r0), .val (.int r1), .val (.int (1 : Int32)), .unset, .unset, .unset] [(.int r1)])) _
      refine XS.iconst X25.here hx rfl (hb hby at_288) ?_
      exact kt)
    by_cases hc289_27 : r1 = (-1 : Int32)
    · skip
      have P30 : ∀ t, Steps p.tables e below (T25.setTop (mkF m 319 #[.val (.int p1), .val (.int p2), .val (.int p3), .val (.int p4), .val (.int p5), .val (.int nn), .val (.int ps), .val (.int ss), .val (.int lt), .val (.int t0), .val (.int t1), .val (.int t2), .val (.ref b), .val (.ref od), .val (.int vc), .val (.int r0), .val (.int r1), .val (.int (1 : Int32)), .unset, .unset, .unset] [(.int (p5 &&& (1 : Int32)))])) t → Steps p.tables e below (T0.setTop (mkF m 214 #[.val (.int p1), .val (.int p2), .val (.int p3), .val (.int p4), .val (.int p5), .val (.int nn), .val (.int ps), .val (.int ss), .val (.int lt), .val (.int t0), .val (.int t1), .val (.int t2), .val (.ref b), .val (.ref od), .val (.int vc), .val (.int r0), .val (.int r1), .unset, .unset, .unset, .unset] [])) t := fun t kt => P28 t (by
        show Steps p.tables e below (T25.setTop (mkF m 289 #[.val (.int p1), .val (.int p2), .val (.int p3), .val (.int p4), .val (.int p5), .val (.int nn), .val (.int ps), .val (.int ss), .val (.int lt), .val (.int t0), .val (.int t1), .val (.int t2), .val (.ref b), .val (.ref od), .val (.int vc), .val (.int r0), .val (.int r1), .val (.int (1 : Int32)), .unset, .unset, .unset] [(.int (-1 : Int32)), (.int r1)])) _
        refine XS.icmpYes X25.here hx rfl (pc0 := 289) (pc' := 315) rfl (hb hby at_289) rfl (XT.ii_eq_t hc289_27) (by decide) (by decide) ?_
        show Steps p.tables e below (T25.setTop (mkF m 315 #[.val (.int p1), .val (.int p2), .val (.int p3), .val (.int p4), .val (.int p5), .val (.int nn), .val (.int ps), .val (.int ss), .val (.int lt), .val (.int t0), .val (.int t1), .val (.int t2), .val (.ref b), .val (.ref od), .val (.int vc), .val (.int r0), .val (.int r1), .val (.int (1 : Int32)), .unset, .unset, .unset] [])) _
        refine XS.iload X25.here hx rfl (hb hby at_315) rfl ?_
        show Steps p.tables e below (T25.setTop (mkF m 317 #[.val (.int p1), .val (.int p2), .val (.int p3), .val (.int p4), .val (.int p5), .val (.int nn), .val (.int ps), .val (.int ss), .val (.int lt), .val (.int t0), .val (.int t1), .val (.int t2), .val (.ref b), .val (.ref od), .val (.int vc), .val (.int r0), .val (.int r1), .val (.int (1 : Int32)), .unset, .unset, .unset] [(.int p5)])) _
        refine XS.iconst X25.here hx rfl (hb hby at_317) ?_
        show Steps p.tables e below (T25.setTop (mkF m 318 #[.val (.int p1), .val (.int p2), .val (.int p3), .val (.int p4), .val (.int p5), .val (.int nn), .val (.int ps), .val (.int ss), .val (.int lt), .val (.int t0), .val (.int t1), .val (.int t2), .val (.ref b), .val (.ref od), .val (.int vc), .val (.int r0), .val (.int r1), .val (.int (1 : Int32)), .unset, .unset, .unset] [(.int (1 : Int32)), (.int p5)])) _
        refine XS.iand X25.here hx rfl (hb hby at_318) rfl ?_
        exact kt)
      by_cases hc319_29 : (p5 &&& (1 : Int32)) = (0 : Int32)
      · skip
        have P31 : ∀ t, Steps p.tables e below (T25.setTop (mkF m 454 #[.val (.int p1), .val (.int p2), .val (.int p3), .val (.int p4), .val (.int p5), .val (.int nn), .val (.int ps), .val (.int ss), .val (.int lt), .val (.int t0), .val (.int t1), .val (.int t2), .val (.ref b), .val (.ref od), .val (.int vc), .val (.int r0), .val (.int r1), .val (.int (1 : Int32)), .unset, .unset, .unset] [(.int (1 : Int32))])) t → Steps p.tables e below (T0.setTop (mkF m 214 #[.val (.int p1), .val (.int p2), .val (.int p3), .val (.int p4), .val (.int p5), .val (.int nn), .val (.int ps), .val (.int ss), .val (.int lt), .val (.int t0), .val (.int t1), .val (.int t2), .val (.ref b), .val (.ref od), .val (.int vc), .val (.int r0), .val (.int r1), .unset, .unset, .unset, .unset] [])) t := fun t kt => P30 t (by
          show Steps p.tables e below (T25.setTop (mkF m 319 #[.val (.int p1), .val (.int p2), .val (.int p3), .val (.int p4), .val (.int p5), .val (.int nn), .val (.int ps), .val (.int ss), .val (.int lt), .val (.int t0), .val (.int t1), .val (.int t2), .val (.ref b), .val (.ref od), .val (.int vc), .val (.int r0), .val (.int r1), .val (.int (1 : Int32)), .unset, .unset, .unset] [(.int (p5 &&& (1 : Int32)))])) _
          refine XS.ifYes X25.here hx rfl (pc0 := 319) (pc' := 452) rfl (hb hby at_319) rfl (XT.i0_eq_t hc319_29) (by decide) (by decide) ?_
          show Steps p.tables e below (T25.setTop (mkF m 452 #[.val (.int p1), .val (.int p2), .val (.int p3), .val (.int p4), .val (.int p5), .val (.int nn), .val (.int ps), .val (.int ss), .val (.int lt), .val (.int t0), .val (.int t1), .val (.int t2), .val (.ref b), .val (.ref od), .val (.int vc), .val (.int r0), .val (.int r1), .val (.int (1 : Int32)), .unset, .unset, .unset] [])) _
          refine XS.iload X25.here hx rfl (hb hby at_452) rfl ?_
          exact kt)
        exact ⟨T25, _, _, X25, N25, P31⟩
      · skip
        have hc325_32 : ¬ (r0 = (-1 : Int32)) := hc259_7
        have hc331_33 : r1 = (-1 : Int32) := hc289_27
        have hc350_34 : (0 : Int32) = (0 : Int32) := rfl
        have hc364_35 : (0 : Int32) = (0 : Int32) := rfl
        obtain ⟨cq36, kq36, q36a, q36b, q36c⟩ := isOf hZ e25 c2
        obtain ⟨_, _, ⟨T36, L36, k36, n36⟩, -, X36, ⟨Lc36, hQ36, l36, y36, z36⟩, st36⟩ := X25.virtualBack hx (y := (⟨"com/example/exact_equiv/exactequiv/equivalence/IntLists", "remove", "(II)V"⟩ : MethodName)) (z := (⟨"com/example/exact_equiv/exactequiv/equivalence/IntLists", "remove", "(II)V"⟩ : MethodName)) hown (mvT hZ (hw _ (List.mem_of_getElem? (i := 28) rfl))) (mvT hZ (hw _ (List.mem_of_getElem? (i := 29) rfl))) (notFace_of_selects (args := #[]) (mvT hZ (hw _ (List.mem_of_getElem? (i := 31) rfl)))) (mvT hZ (hw _ (List.mem_of_getElem? (i := 31) rfl))) (mvT hZ (hw _ (List.mem_of_getElem? (i := 30) rfl))) (by decide) (backOf (W := 0) (rmM l Z a0 hw [] b lt r0 aF aS aN aP S1 T1.heap n0 Zs1 HIq1 hl (by rw [hS1]; exact (hG.2.2.2.2.2.1 hc259_7).1)) hZ (hw _ (List.mem_of_getElem? (i := 32) rfl)) (hw _ (List.mem_of_getElem? (i := 3) rfl)) (by decide) (by decide)) q36a q36c (g := (mkF m 382 #[.val (.int p1), .val (.int p2), .val (.int p3), .val (.int p4), .val (.int p5), .val (.int nn), .val (.int ps), .val (.int ss), .val (.int lt), .val (.int t0), .val (.int t1), .val (.int t2), .val (.ref b), .val (.ref od), .val (.int vc), .val (.int r0), .val (.int r1), .val (.int (1 : Int32)), .val (.int (0 : Int32)), .val (.int r0), .val (.int r1)] [(.int r0), (.int lt), (.ref b)])) rfl (by rw [hml]; rfl) (Steps.refl _) (argsL := [(.int lt), (.int r0)]) (rest := []) (lenOf pd_1 rfl) rfl (by show 2 * 0 + _ ≤ _; exact Nat.le_of_eq rfl) (hb hby at_382) (fun _ _ => ⟨rfl, e25, (by decide : 6 + 0 ≤ _), (by decide : 19 + 0 ≤ _)⟩)
        dsimp only [Pt.U, Pt.locs, Pt.cells, Pt.slots] at X36 l36 y36 z36 st36 hQ36
        subst l36 y36 z36
        obtain ⟨rfl, N36q, Kq36, HIq36⟩ := hQ36
        have N36 := Fr.app N25 N36q
        have c37 := c2.keep Kq36
        have Zs36 : n0 ≤ T36.heap.size := Nat.le_trans Zs1 Kq36.1
        obtain ⟨S36, hS36⟩ : ∃ z, z = own_rem S1 lt r0 := ⟨_, rfl⟩
        rw [← hS36] at HIq36
        have hc387_38 : ¬ ((1 : Int32) = (0 : Int32)) := by decide
        obtain ⟨cq39, kq39, q39a, q39b, q39c⟩ := isOf hZ rfl c37
        obtain ⟨_, _, ⟨T39, L39, k39, n39⟩, -, X39, ⟨Lc39, hQ39, l39, y39, z39⟩, st39⟩ := X36.virtualBack hx (y := (⟨"com/example/exact_equiv/exactequiv/equivalence/IntLists", "size", "(I)I"⟩ : MethodName)) (z := (⟨"com/example/exact_equiv/exactequiv/equivalence/IntLists", "size", "(I)I"⟩ : MethodName)) hown (mvT hZ (hw _ (List.mem_of_getElem? (i := 33) rfl))) (mvT hZ (hw _ (List.mem_of_getElem? (i := 34) rfl))) (notFace_of_selects (args := #[]) (mvT hZ (hw _ (List.mem_of_getElem? (i := 36) rfl)))) (mvT hZ (hw _ (List.mem_of_getElem? (i := 36) rfl))) (mvT hZ (hw _ (List.mem_of_getElem? (i := 35) rfl))) (by decide) (backOf (W := 0) (rm6 l Z a0 hw [] b lt aF aS aN aP S36 T36.heap n0 Zs36 HIq36 hl) hZ (hw _ (List.mem_of_getElem? (i := 37) rfl)) (hw _ (List.mem_of_getElem? (i := 3) rfl)) (by decide) (by decide)) q39a q39c (g := (mkF m 394 #[.val (.int p1), .val (.int p2), .val (.int p3), .val (.int p4), .val (.int p5), .val (.int nn), .val (.int ps), .val (.int ss), .val (.int lt), .val (.int t0), .val (.int t1), .val (.int t2), .val (.ref b), .val (.ref od), .val (.int vc), .val (.int r0), .val (.int r1), .val (.int (1 : Int32)), .val (.int (0 : Int32)), .val (.int r0), .val (.int r1)] [(.int lt), (.ref b)])) rfl (by rw [hml]; rfl) (Steps.refl _) (argsL := [(.int lt)]) (rest := []) (lenOf pd_2 rfl) rfl (by show 2 * 0 + _ ≤ _; exact Nat.le_of_eq rfl) (hb hby at_394) (fun _ _ => ⟨rfl, rfl, (by decide : 6 + 0 ≤ _), (by decide : 19 + 0 ≤ _)⟩)
        dsimp only [Pt.U, Pt.locs, Pt.cells, Pt.slots] at X39 l39 y39 z39 st39 hQ39
        subst l39 y39 z39
        obtain ⟨rfl, N39q, e39⟩ := hQ39
        have N39 := Fr.app N36 N39q
        have hc401_40 : (S36.2.1 lt) = (nn - (2 : Int32)) := by rw [hS36, hS1]; exact (hG.2.2.2.2.2.1 hc259_7).2.1
        obtain ⟨cq41, kq41, q41a, q41b, q41c⟩ := isOf hZ e39 c37
        obtain ⟨_, _, ⟨T41, L41, k41, n41⟩, -, X41, ⟨Lc41, hQ41, l41, y41, z41⟩, st41⟩ := X39.virtualBack hx (y := (⟨"com/example/exact_equiv/exactequiv/equivalence/IntLists", "first", "(I)I"⟩ : MethodName)) (z := (⟨"com/example/exact_equiv/exactequiv/equivalence/IntLists", "first", "(I)I"⟩ : MethodName)) hown (mvT hZ (hw _ (List.mem_of_getElem? (i := 38) rfl))) (mvT hZ (hw _ (List.mem_of_getElem? (i := 39) rfl))) (notFace_of_selects (args := #[]) (mvT hZ (hw _ (List.mem_of_getElem? (i := 41) rfl)))) (mvT hZ (hw _ (List.mem_of_getElem? (i := 41) rfl))) (mvT hZ (hw _ (List.mem_of_getElem? (i := 40) rfl))) (by decide) (backOf (W := 0) (rm7 l Z a0 hw [] b lt aF aS aN aP S36 T36.heap n0 Zs36 HIq36 hl) hZ (hw _ (List.mem_of_getElem? (i := 42) rfl)) (hw _ (List.mem_of_getElem? (i := 3) rfl)) (by decide) (by decide)) q41a q41c (g := (mkF m 408 #[.val (.int p1), .val (.int p2), .val (.int p3), .val (.int p4), .val (.int p5), .val (.int nn), .val (.int ps), .val (.int ss), .val (.int lt), .val (.int t0), .val (.int t1), .val (.int t2), .val (.ref b), .val (.ref od), .val (.int vc), .val (.int r0), .val (.int r1), .val (.int (1 : Int32)), .val (.int (0 : Int32)), .val (.int r0), .val (.int r1)] [(.int lt), (.ref b)])) rfl (by rw [hml]; rfl) (Steps.refl _) (argsL := [(.int lt)]) (rest := []) (lenOf pd_2 rfl) rfl (by show 2 * 0 + _ ≤ _; exact Nat.le_of_eq rfl) (hb hby at_408) (fun _ _ => ⟨rfl, e39, (by decide : 6 + 0 ≤ _), (by decide : 19 + 0 ≤ _)⟩)
        dsimp only [Pt.U, Pt.locs, Pt.cells, Pt.slots] at X41 l41 y41 z41 st41 hQ41
        subst l41 y41 z41
        obtain ⟨rfl, N41q, e41⟩ := hQ41
        have N41 := Fr.app N39 N41q
        have hc413_42 : (S36.1 lt) = r1 := by rw [hS36, hS1]; exact (hG.2.2.2.2.2.1 hc259_7).2.2.1
        have hc426_43 : r1 = (-1 : Int32) := hc289_27
        have P44 : ∀ t, Steps p.tables e below (T41.setTop (mkF m 454 #[.val (.int p1), .val (.int p2), .val (.int p3), .val (.int p4), .val (.int p5), .val (.int nn), .val (.int ps), .val (.int ss), .val (.int lt), .val (.int t0), .val (.int t1), .val (.int t2), .val (.ref b), .val (.ref od), .val (.int vc), .val (.int r0), .val (.int r1), .val (.int (1 : Int32)), .val (.int (0 : Int32)), .val (.int r0), .val (.int r1)] [(.int (1 : Int32))])) t → Steps p.tables e below (T0.setTop (mkF m 214 #[.val (.int p1), .val (.int p2), .val (.int p3), .val (.int p4), .val (.int p5), .val (.int nn), .val (.int ps), .val (.int ss), .val (.int lt), .val (.int t0), .val (.int t1), .val (.int t2), .val (.ref b), .val (.ref od), .val (.int vc), .val (.int r0), .val (.int r1), .unset, .unset, .unset, .unset] [])) t := fun t kt => P30 t (by
          show Steps p.tables e below (T25.setTop (mkF m 319 #[.val (.int p1), .val (.int p2), .val (.int p3), .val (.int p4), .val (.int p5), .val (.int nn), .val (.int ps), .val (.int ss), .val (.int lt), .val (.int t0), .val (.int t1), .val (.int t2), .val (.ref b), .val (.ref od), .val (.int vc), .val (.int r0), .val (.int r1), .val (.int (1 : Int32)), .unset, .unset, .unset] [(.int (p5 &&& (1 : Int32)))])) _
          refine XS.ifNo X25.here hx rfl (hb hby at_319) rfl (XT.i0_eq_f hc319_29) ?_
          show Steps p.tables e below (T25.setTop (mkF m 322 #[.val (.int p1), .val (.int p2), .val (.int p3), .val (.int p4), .val (.int p5), .val (.int nn), .val (.int ps), .val (.int ss), .val (.int lt), .val (.int t0), .val (.int t1), .val (.int t2), .val (.ref b), .val (.ref od), .val (.int vc), .val (.int r0), .val (.int r1), .val (.int (1 : Int32)), .unset, .unset, .unset] [])) _
          refine XS.iload X25.here hx rfl (hb hby at_322) rfl ?_
          show Steps p.tables e below (T25.setTop (mkF m 324 #[.val (.int p1), .val (.int p2), .val (.int p3), .val (.int p4), .val (.int p5), .val (.int nn), .val (.int ps), .val (.int ss), .val (.int lt), .val (.int t0), .val (.int t1), .val (.int t2), .val (.ref b), .val (.ref od), .val (.int vc), .val (.int r0), .val (.int r1), .val (.int (1 : Int32)), .unset, .unset, .unset] [(.int r0)])) _
          refine XS.iconst X25.here hx rfl (hb hby at_324) ?_
          show Steps p.tables e below (T25.setTop (mkF m 325 #[.val (.int p1), .val (.int p2), .val (.int p3), .val (.int p4), .val (.int p5), .val (.int nn), .val (.int ps), .val (.int ss), .val (.int lt), .val (.int t0), .val (.int t1), .val (.int t2), .val (.ref b), .val (.ref od), .val (.int vc), .val (.int r0), .val (.int r1), .val (.int (1 : Int32)), .unset, .unset, .unset] [(.int (-1 : Int32)), (.int r0)])) _
          refine XS.icmpNo X25.here hx rfl (hb hby at_325) rfl (XT.ii_eq_f hc325_32) ?_
          show Steps p.tables e below (T25.setTop (mkF m 328 #[.val (.int p1), .val (.int p2), .val (.int p3), .val (.int p4), .val (.int p5), .val (.int nn), .val (.int ps), .val (.int ss), .val (.int lt), .val (.int t0), .val (.int t1), .val (.int t2), .val (.ref b), .val (.ref od), .val (.int vc), .val (.int r0), .val (.int r1), .val (.int (1 : Int32)), .unset, .unset, .unset] [])) _
          refine XS.iload X25.here hx rfl (hb hby at_328) rfl ?_
          show Steps p.tables e below (T25.setTop (mkF m 330 #[.val (.int p1), .val (.int p2), .val (.int p3), .val (.int p4), .val (.int p5), .val (.int nn), .val (.int ps), .val (.int ss), .val (.int lt), .val (.int t0), .val (.int t1), .val (.int t2), .val (.ref b), .val (.ref od), .val (.int vc), .val (.int r0), .val (.int r1), .val (.int (1 : Int32)), .unset, .unset, .unset] [(.int r1)])) _
          refine XS.iconst X25.here hx rfl (hb hby at_330) ?_
          show Steps p.tables e below (T25.setTop (mkF m 331 #[.val (.int p1), .val (.int p2), .val (.int p3), .val (.int p4), .val (.int p5), .val (.int nn), .val (.int ps), .val (.int ss), .val (.int lt), .val (.int t0), .val (.int t1), .val (.int t2), .val (.ref b), .val (.ref od), .val (.int vc), .val (.int r0), .val (.int r1), .val (.int (1 : Int32)), .unset, .unset, .unset] [(.int (-1 : Int32)), (.int r1)])) _
          refine XS.icmpYes X25.here hx rfl (pc0 := 331) (pc' := 345) rfl (hb hby at_331) rfl (XT.ii_eq_t hc331_33) (by decide) (by decide) ?_
          show Steps p.tables e below (T25.setTop (mkF m 345 #[.val (.int p1), .val (.int p2), .val (.int p3), .val (.int p4), .val (.int p5), .val (.int nn), .val (.int ps), .val (.int ss), .val (.int lt), .val (.int t0), .val (.int t1), .val (.int t2), .val (.ref b), .val (.ref od), .val (.int vc), .val (.int r0), .val (.int r1), .val (.int (1 : Int32)), .unset, .unset, .unset] [])) _
          refine XS.iconst X25.here hx rfl (hb hby at_345) ?_
          show Steps p.tables e below (T25.setTop (mkF m 346 #[.val (.int p1), .val (.int p2), .val (.int p3), .val (.int p4), .val (.int p5), .val (.int nn), .val (.int ps), .val (.int ss), .val (.int lt), .val (.int t0), .val (.int t1), .val (.int t2), .val (.ref b), .val (.ref od), .val (.int vc), .val (.int r0), .val (.int r1), .val (.int (1 : Int32)), .unset, .unset, .unset] [(.int (0 : Int32))])) _
          refine XS.istore X25.here hx rfl (hb hby at_346) rfl (l' := #[.val (.int p1), .val (.int p2), .val (.int p3), .val (.int p4), .val (.int p5), .val (.int nn), .val (.int ps), .val (.int ss), .val (.int lt), .val (.int t0), .val (.int t1), .val (.int t2), .val (.ref b), .val (.ref od), .val (.int vc), .val (.int r0), .val (.int r1), .val (.int (1 : Int32)), .val (.int (0 : Int32)), .unset, .unset]) rfl ?_
          show Steps p.tables e below (T25.setTop (mkF m 348 #[.val (.int p1), .val (.int p2), .val (.int p3), .val (.int p4), .val (.int p5), .val (.int nn), .val (.int ps), .val (.int ss), .val (.int lt), .val (.int t0), .val (.int t1), .val (.int t2), .val (.ref b), .val (.ref od), .val (.int vc), .val (.int r0), .val (.int r1), .val (.int (1 : Int32)), .val (.int (0 : Int32)), .unset, .unset] [])) _
          refine XS.iload X25.here hx rfl (hb hby at_348) rfl ?_
          show Steps p.tables e below (T25.setTop (mkF m 350 #[.val (.int p1), .val (.int p2), .val (.int p3), .val (.int p4), .val (.int p5), .val (.int nn), .val (.int ps), .val (.int ss), .val (.int lt), .val (.int t0), .val (.int t1), .val (.int t2), .val (.ref b), .val (.ref od), .val (.int vc), .val (.int r0), .val (.int r1), .val (.int (1 : Int32)), .val (.int (0 : Int32)), .unset, .unset] [(.int (0 : Int32))])) _
          refine XS.ifYes X25.here hx rfl (pc0 := 350) (pc' := 358) rfl (hb hby at_350) rfl (XT.i0_eq_t hc350_34) (by decide) (by decide) ?_
          show Steps p.tables e below (T25.setTop (mkF m 358 #[.val (.int p1), .val (.int p2), .val (.int p3), .val (.int p4), .val (.int p5), .val (.int nn), .val (.int ps), .val (.int ss), .val (.int lt), .val (.int t0), .val (.int t1), .val (.int t2), .val (.ref b), .val (.ref od), .val (.int vc), .val (.int r0), .val (.int r1), .val (.int (1 : Int32)), .val (.int (0 : Int32)), .unset, .unset] [])) _
          refine XS.iload X25.here hx rfl (hb hby at_358) rfl ?_
          show Steps p.tables e below (T25.setTop (mkF m 360 #[.val (.int p1), .val (.int p2), .val (.int p3), .val (.int p4), .val (.int p5), .val (.int nn), .val (.int ps), .val (.int ss), .val (.int lt), .val (.int t0), .val (.int t1), .val (.int t2), .val (.ref b), .val (.ref od), .val (.int vc), .val (.int r0), .val (.int r1), .val (.int (1 : Int32)), .val (.int (0 : Int32)), .unset, .unset] [(.int r0)])) _
          refine XS.istore X25.here hx rfl (hb hby at_360) rfl (l' := #[.val (.int p1), .val (.int p2), .val (.int p3), .val (.int p4), .val (.int p5), .val (.int nn), .val (.int ps), .val (.int ss), .val (.int lt), .val (.int t0), .val (.int t1), .val (.int t2), .val (.ref b), .val (.ref od), .val (.int vc), .val (.int r0), .val (.int r1), .val (.int (1 : Int32)), .val (.int (0 : Int32)), .val (.int r0), .unset]) rfl ?_
          show Steps p.tables e below (T25.setTop (mkF m 362 #[.val (.int p1), .val (.int p2), .val (.int p3), .val (.int p4), .val (.int p5), .val (.int nn), .val (.int ps), .val (.int ss), .val (.int lt), .val (.int t0), .val (.int t1), .val (.int t2), .val (.ref b), .val (.ref od), .val (.int vc), .val (.int r0), .val (.int r1), .val (.int (1 : Int32)), .val (.int (0 : Int32)), .val (.int r0), .unset] [])) _
          refine XS.iload X25.here hx rfl (hb hby at_362) rfl ?_
          show Steps p.tables e below (T25.setTop (mkF m 364 #[.val (.int p1), .val (.int p2), .val (.int p3), .val (.int p4), .val (.int p5), .val (.int nn), .val (.int ps), .val (.int ss), .val (.int lt), .val (.int t0), .val (.int t1), .val (.int t2), .val (.ref b), .val (.ref od), .val (.int vc), .val (.int r0), .val (.int r1), .val (.int (1 : Int32)), .val (.int (0 : Int32)), .val (.int r0), .unset] [(.int (0 : Int32))])) _
          refine XS.ifYes X25.here hx rfl (pc0 := 364) (pc' := 372) rfl (hb hby at_364) rfl (XT.i0_eq_t hc364_35) (by decide) (by decide) ?_
          show Steps p.tables e below (T25.setTop (mkF m 372 #[.val (.int p1), .val (.int p2), .val (.int p3), .val (.int p4), .val (.int p5), .val (.int nn), .val (.int ps), .val (.int ss), .val (.int lt), .val (.int t0), .val (.int t1), .val (.int t2), .val (.ref b), .val (.ref od), .val (.int vc), .val (.int r0), .val (.int r1), .val (.int (1 : Int32)), .val (.int (0 : Int32)), .val (.int r0), .unset] [])) _
          refine XS.iload X25.here hx rfl (hb hby at_372) rfl ?_
          show Steps p.tables e below (T25.setTop (mkF m 374 #[.val (.int p1), .val (.int p2), .val (.int p3), .val (.int p4), .val (.int p5), .val (.int nn), .val (.int ps), .val (.int ss), .val (.int lt), .val (.int t0), .val (.int t1), .val (.int t2), .val (.ref b), .val (.ref od), .val (.int vc), .val (.int r0), .val (.int r1), .val (.int (1 : Int32)), .val (.int (0 : Int32)), .val (.int r0), .unset] [(.int r1)])) _
          refine XS.istore X25.here hx rfl (hb hby at_374) rfl (l' := #[.val (.int p1), .val (.int p2), .val (.int p3), .val (.int p4), .val (.int p5), .val (.int nn), .val (.int ps), .val (.int ss), .val (.int lt), .val (.int t0), .val (.int t1), .val (.int t2), .val (.ref b), .val (.ref od), .val (.int vc), .val (.int r0), .val (.int r1), .val (.int (1 : Int32)), .val (.int (0 : Int32)), .val (.int r0), .val (.int r1)]) rfl ?_
          show Steps p.tables e below (T25.setTop (mkF m 376 #[.val (.int p1), .val (.int p2), .val (.int p3), .val (.int p4), .val (.int p5), .val (.int nn), .val (.int ps), .val (.int ss), .val (.int lt), .val (.int t0), .val (.int t1), .val (.int t2), .val (.ref b), .val (.ref od), .val (.int vc), .val (.int r0), .val (.int r1), .val (.int (1 : Int32)), .val (.int (0 : Int32)), .val (.int r0), .val (.int r1)] [])) _
          refine XS.aload X25.here hx rfl (hb hby at_376) rfl rfl ?_
          show Steps p.tables e below (T25.setTop (mkF m 378 #[.val (.int p1), .val (.int p2), .val (.int p3), .val (.int p4), .val (.int p5), .val (.int nn), .val (.int ps), .val (.int ss), .val (.int lt), .val (.int t0), .val (.int t1), .val (.int t2), .val (.ref b), .val (.ref od), .val (.int vc), .val (.int r0), .val (.int r1), .val (.int (1 : Int32)), .val (.int (0 : Int32)), .val (.int r0), .val (.int r1)] [(.ref b)])) _
          refine XS.iload X25.here hx rfl (hb hby at_378) rfl ?_
          show Steps p.tables e below (T25.setTop (mkF m 380 #[.val (.int p1), .val (.int p2), .val (.int p3), .val (.int p4), .val (.int p5), .val (.int nn), .val (.int ps), .val (.int ss), .val (.int lt), .val (.int t0), .val (.int t1), .val (.int t2), .val (.ref b), .val (.ref od), .val (.int vc), .val (.int r0), .val (.int r1), .val (.int (1 : Int32)), .val (.int (0 : Int32)), .val (.int r0), .val (.int r1)] [(.int lt), (.ref b)])) _
          refine XS.iload X25.here hx rfl (hb hby at_380) rfl ?_
          show Steps p.tables e below (T25.setTop (mkF m 382 #[.val (.int p1), .val (.int p2), .val (.int p3), .val (.int p4), .val (.int p5), .val (.int nn), .val (.int ps), .val (.int ss), .val (.int lt), .val (.int t0), .val (.int t1), .val (.int t2), .val (.ref b), .val (.ref od), .val (.int vc), .val (.int r0), .val (.int r1), .val (.int (1 : Int32)), .val (.int (0 : Int32)), .val (.int r0), .val (.int r1)] [(.int r0), (.int lt), (.ref b)])) _
          refine st36.trans ?_
          show Steps p.tables e below (T36.setTop (mkF m 385 #[.val (.int p1), .val (.int p2), .val (.int p3), .val (.int p4), .val (.int p5), .val (.int nn), .val (.int ps), .val (.int ss), .val (.int lt), .val (.int t0), .val (.int t1), .val (.int t2), .val (.ref b), .val (.ref od), .val (.int vc), .val (.int r0), .val (.int r1), .val (.int (1 : Int32)), .val (.int (0 : Int32)), .val (.int r0), .val (.int r1)] [])) _
          refine XS.iload X36.here hx rfl (hb hby at_385) rfl ?_
          show Steps p.tables e below (T36.setTop (mkF m 387 #[.val (.int p1), .val (.int p2), .val (.int p3), .val (.int p4), .val (.int p5), .val (.int nn), .val (.int ps), .val (.int ss), .val (.int lt), .val (.int t0), .val (.int t1), .val (.int t2), .val (.ref b), .val (.ref od), .val (.int vc), .val (.int r0), .val (.int r1), .val (.int (1 : Int32)), .val (.int (0 : Int32)), .val (.int r0), .val (.int r1)] [(.int (1 : Int32))])) _
          refine XS.ifNo X36.here hx rfl (hb hby at_387) rfl (XT.i0_eq_f hc387_38) ?_
          show Steps p.tables e below (T36.setTop (mkF m 390 #[.val (.int p1), .val (.int p2), .val (.int p3), .val (.int p4), .val (.int p5), .val (.int nn), .val (.int ps), .val (.int ss), .val (.int lt), .val (.int t0), .val (.int t1), .val (.int t2), .val (.ref b), .val (.ref od), .val (.int vc), .val (.int r0), .val (.int r1), .val (.int (1 : Int32)), .val (.int (0 : Int32)), .val (.int r0), .val (.int r1)] [])) _
          refine XS.aload X36.here hx rfl (hb hby at_390) rfl rfl ?_
          show Steps p.tables e below (T36.setTop (mkF m 392 #[.val (.int p1), .val (.int p2), .val (.int p3), .val (.int p4), .val (.int p5), .val (.int nn), .val (.int ps), .val (.int ss), .val (.int lt), .val (.int t0), .val (.int t1), .val (.int t2), .val (.ref b), .val (.ref od), .val (.int vc), .val (.int r0), .val (.int r1), .val (.int (1 : Int32)), .val (.int (0 : Int32)), .val (.int r0), .val (.int r1)] [(.ref b)])) _
          refine XS.iload X36.here hx rfl (hb hby at_392) rfl ?_
          show Steps p.tables e below (T36.setTop (mkF m 394 #[.val (.int p1), .val (.int p2), .val (.int p3), .val (.int p4), .val (.int p5), .val (.int nn), .val (.int ps), .val (.int ss), .val (.int lt), .val (.int t0), .val (.int t1), .val (.int t2), .val (.ref b), .val (.ref od), .val (.int vc), .val (.int r0), .val (.int r1), .val (.int (1 : Int32)), .val (.int (0 : Int32)), .val (.int r0), .val (.int r1)] [(.int lt), (.ref b)])) _
          refine st39.trans ?_
          show Steps p.tables e below (T39.setTop (mkF m 397 #[.val (.int p1), .val (.int p2), .val (.int p3), .val (.int p4), .val (.int p5), .val (.int nn), .val (.int ps), .val (.int ss), .val (.int lt), .val (.int t0), .val (.int t1), .val (.int t2), .val (.ref b), .val (.ref od), .val (.int vc), .val (.int r0), .val (.int r1), .val (.int (1 : Int32)), .val (.int (0 : Int32)), .val (.int r0), .val (.int r1)] [(.int (S36.2.1 lt))])) _
          refine XS.iload X39.here hx rfl (hb hby at_397) rfl ?_
          show Steps p.tables e below (T39.setTop (mkF m 399 #[.val (.int p1), .val (.int p2), .val (.int p3), .val (.int p4), .val (.int p5), .val (.int nn), .val (.int ps), .val (.int ss), .val (.int lt), .val (.int t0), .val (.int t1), .val (.int t2), .val (.ref b), .val (.ref od), .val (.int vc), .val (.int r0), .val (.int r1), .val (.int (1 : Int32)), .val (.int (0 : Int32)), .val (.int r0), .val (.int r1)] [(.int nn), (.int (S36.2.1 lt))])) _
          refine XS.iconst X39.here hx rfl (hb hby at_399) ?_
          show Steps p.tables e below (T39.setTop (mkF m 400 #[.val (.int p1), .val (.int p2), .val (.int p3), .val (.int p4), .val (.int p5), .val (.int nn), .val (.int ps), .val (.int ss), .val (.int lt), .val (.int t0), .val (.int t1), .val (.int t2), .val (.ref b), .val (.ref od), .val (.int vc), .val (.int r0), .val (.int r1), .val (.int (1 : Int32)), .val (.int (0 : Int32)), .val (.int r0), .val (.int r1)] [(.int (2 : Int32)), (.int nn), (.int (S36.2.1 lt))])) _
          refine XS.isub X39.here hx rfl (hb hby at_400) rfl ?_
          show Steps p.tables e below (T39.setTop (mkF m 401 #[.val (.int p1), .val (.int p2), .val (.int p3), .val (.int p4), .val (.int p5), .val (.int nn), .val (.int ps), .val (.int ss), .val (.int lt), .val (.int t0), .val (.int t1), .val (.int t2), .val (.ref b), .val (.ref od), .val (.int vc), .val (.int r0), .val (.int r1), .val (.int (1 : Int32)), .val (.int (0 : Int32)), .val (.int r0), .val (.int r1)] [(.int (nn - (2 : Int32))), (.int (S36.2.1 lt))])) _
          refine XS.icmpNo X39.here hx rfl (hb hby at_401) rfl (XT.ii_ne_f hc401_40) ?_
          show Steps p.tables e below (T39.setTop (mkF m 404 #[.val (.int p1), .val (.int p2), .val (.int p3), .val (.int p4), .val (.int p5), .val (.int nn), .val (.int ps), .val (.int ss), .val (.int lt), .val (.int t0), .val (.int t1), .val (.int t2), .val (.ref b), .val (.ref od), .val (.int vc), .val (.int r0), .val (.int r1), .val (.int (1 : Int32)), .val (.int (0 : Int32)), .val (.int r0), .val (.int r1)] [])) _
          refine XS.aload X39.here hx rfl (hb hby at_404) rfl rfl ?_
          show Steps p.tables e below (T39.setTop (mkF m 406 #[.val (.int p1), .val (.int p2), .val (.int p3), .val (.int p4), .val (.int p5), .val (.int nn), .val (.int ps), .val (.int ss), .val (.int lt), .val (.int t0), .val (.int t1), .val (.int t2), .val (.ref b), .val (.ref od), .val (.int vc), .val (.int r0), .val (.int r1), .val (.int (1 : Int32)), .val (.int (0 : Int32)), .val (.int r0), .val (.int r1)] [(.ref b)])) _
          refine XS.iload X39.here hx rfl (hb hby at_406) rfl ?_
          show Steps p.tables e below (T39.setTop (mkF m 408 #[.val (.int p1), .val (.int p2), .val (.int p3), .val (.int p4), .val (.int p5), .val (.int nn), .val (.int ps), .val (.int ss), .val (.int lt), .val (.int t0), .val (.int t1), .val (.int t2), .val (.ref b), .val (.ref od), .val (.int vc), .val (.int r0), .val (.int r1), .val (.int (1 : Int32)), .val (.int (0 : Int32)), .val (.int r0), .val (.int r1)] [(.int lt), (.ref b)])) _
          refine st41.trans ?_
          show Steps p.tables e below (T41.setTop (mkF m 411 #[.val (.int p1), .val (.int p2), .val (.int p3), .val (.int p4), .val (.int p5), .val (.int nn), .val (.int ps), .val (.int ss), .val (.int lt), .val (.int t0), .val (.int t1), .val (.int t2), .val (.ref b), .val (.ref od), .val (.int vc), .val (.int r0), .val (.int r1), .val (.int (1 : Int32)), .val (.int (0 : Int32)), .val (.int r0), .val (.int r1)] [(.int (S36.1 lt))])) _
          refine XS.iload X41.here hx rfl (hb hby at_411) rfl ?_
          show Steps p.tables e below (T41.setTop (mkF m 413 #[.val (.int p1), .val (.int p2), .val (.int p3), .val (.int p4), .val (.int p5), .val (.int nn), .val (.int ps), .val (.int ss), .val (.int lt), .val (.int t0), .val (.int t1), .val (.int t2), .val (.ref b), .val (.ref od), .val (.int vc), .val (.int r0), .val (.int r1), .val (.int (1 : Int32)), .val (.int (0 : Int32)), .val (.int r0), .val (.int r1)] [(.int r1), (.int (S36.1 lt))])) _
          refine XS.icmpNo X41.here hx rfl (hb hby at_413) rfl (XT.ii_ne_f hc413_42) ?_
          show Steps p.tables e below (T41.setTop (mkF m 416 #[.val (.int p1), .val (.int p2), .val (.int p3), .val (.int p4), .val (.int p5), .val (.int nn), .val (.int ps), .val (.int ss), .val (.int lt), .val (.int t0), .val (.int t1), .val (.int t2), .val (.ref b), .val (.ref od), .val (.int vc), .val (.int r0), .val (.int r1), .val (.int (1 : Int32)), .val (.int (0 : Int32)), .val (.int r0), .val (.int r1)] [])) _
          refine XS.iconst X41.here hx rfl (hb hby at_416) ?_
          show Steps p.tables e below (T41.setTop (mkF m 417 #[.val (.int p1), .val (.int p2), .val (.int p3), .val (.int p4), .val (.int p5), .val (.int nn), .val (.int ps), .val (.int ss), .val (.int lt), .val (.int t0), .val (.int t1), .val (.int t2), .val (.ref b), .val (.ref od), .val (.int vc), .val (.int r0), .val (.int r1), .val (.int (1 : Int32)), .val (.int (0 : Int32)), .val (.int r0), .val (.int r1)] [(.int (1 : Int32))])) _
          refine XS.goto X41.here hx rfl (pc0 := 417) (pc' := 421) rfl (hb hby at_417) (by decide) (by decide) ?_
          show Steps p.tables e below (T41.setTop (mkF m 421 #[.val (.int p1), .val (.int p2), .val (.int p3), .val (.int p4), .val (.int p5), .val (.int nn), .val (.int ps), .val (.int ss), .val (.int lt), .val (.int t0), .val (.int t1), .val (.int t2), .val (.ref b), .val (.ref od), .val (.int vc), .val (.int r0), .val (.int r1), .val (.int (1 : Int32)), .val (.int (0 : Int32)), .val (.int r0), .val (.int r1)] [(.int (1 : Int32))])) _
          refine XS.istore X41.here hx rfl (hb hby at_421) rfl (l' := #[.val (.int p1), .val (.int p2), .val (.int p3), .val (.int p4), .val (.int p5), .val (.int nn), .val (.int ps), .val (.int ss), .val (.int lt), .val (.int t0), .val (.int t1), .val (.int t2), .val (.ref b), .val (.ref od), .val (.int vc), .val (.int r0), .val (.int r1), .val (.int (1 : Int32)), .val (.int (0 : Int32)), .val (.int r0), .val (.int r1)]) rfl ?_
          show Steps p.tables e below (T41.setTop (mkF m 423 #[.val (.int p1), .val (.int p2), .val (.int p3), .val (.int p4), .val (.int p5), .val (.int nn), .val (.int ps), .val (.int ss), .val (.int lt), .val (.int t0), .val (.int t1), .val (.int t2), .val (.ref b), .val (.ref od), .val (.int vc), .val (.int r0), .val (.int r1), .val (.int (1 : Int32)), .val (.int (0 : Int32)), .val (.int r0), .val (.int r1)] [])) _
          refine XS.iload X41.here hx rfl (hb hby at_423) rfl ?_
          show Steps p.tables e below (T41.setTop (mkF m 425 #[.val (.int p1), .val (.int p2), .val (.int p3), .val (.int p4), .val (.int p5), .val (.int nn), .val (.int ps), .val (.int ss), .val (.int lt), .val (.int t0), .val (.int t1), .val (.int t2), .val (.ref b), .val (.ref od), .val (.int vc), .val (.int r0), .val (.int r1), .val (.int (1 : Int32)), .val (.int (0 : Int32)), .val (.int r0), .val (.int r1)] [(.int r1)])) _
          refine XS.iconst X41.here hx rfl (hb hby at_425) ?_
          show Steps p.tables e below (T41.setTop (mkF m 426 #[.val (.int p1), .val (.int p2), .val (.int p3), .val (.int p4), .val (.int p5), .val (.int nn), .val (.int ps), .val (.int ss), .val (.int lt), .val (.int t0), .val (.int t1), .val (.int t2), .val (.ref b), .val (.ref od), .val (.int vc), .val (.int r0), .val (.int r1), .val (.int (1 : Int32)), .val (.int (0 : Int32)), .val (.int r0), .val (.int r1)] [(.int (-1 : Int32)), (.int r1)])) _
          refine XS.icmpYes X41.here hx rfl (pc0 := 426) (pc' := 452) rfl (hb hby at_426) rfl (XT.ii_eq_t hc426_43) (by decide) (by decide) ?_
          show Steps p.tables e below (T41.setTop (mkF m 452 #[.val (.int p1), .val (.int p2), .val (.int p3), .val (.int p4), .val (.int p5), .val (.int nn), .val (.int ps), .val (.int ss), .val (.int lt), .val (.int t0), .val (.int t1), .val (.int t2), .val (.ref b), .val (.ref od), .val (.int vc), .val (.int r0), .val (.int r1), .val (.int (1 : Int32)), .val (.int (0 : Int32)), .val (.int r0), .val (.int r1)] [])) _
          refine XS.iload X41.here hx rfl (hb hby at_452) rfl ?_
          exact kt)
        exact ⟨T41, _, _, X41, N41, P44⟩
    · skip
      have hc294_45 : ¬ ((1 : Int32) = (0 : Int32)) := by decide
      obtain ⟨cq46, kq46, q46a, q46b, q46c⟩ := isOf hZ e25 c2
      obtain ⟨_, _, ⟨T46, L46, k46, n46⟩, -, X46, ⟨Lc46, hQ46, l46, y46, z46⟩, st46⟩ := X25.virtualBack hx (y := (⟨"com/example/exact_equiv/exactequiv/equivalence/IntLists", "next", "(I)I"⟩ : MethodName)) (z := (⟨"com/example/exact_equiv/exactequiv/equivalence/IntLists", "next", "(I)I"⟩ : MethodName)) hown (mvT hZ (hw _ (List.mem_of_getElem? (i := 43) rfl))) (mvT hZ (hw _ (List.mem_of_getElem? (i := 44) rfl))) (notFace_of_selects (args := #[]) (mvT hZ (hw _ (List.mem_of_getElem? (i := 46) rfl)))) (mvT hZ (hw _ (List.mem_of_getElem? (i := 46) rfl))) (mvT hZ (hw _ (List.mem_of_getElem? (i := 45) rfl))) (by decide) (backOf (W := 0) (rm8 l Z a0 hw [] b r1 aF aS aN aP S1 T1.heap n0 Zs1 HIq1 ((hG.2.2.2.2.1.resolve_left hc289_27).1)) hZ (hw _ (List.mem_of_getElem? (i := 47) rfl)) (hw _ (List.mem_of_getElem? (i := 3) rfl)) (by decide) (by decide)) q46a q46c (g := (mkF m 301 #[.val (.int p1), .val (.int p2), .val (.int p3), .val (.int p4), .val (.int p5), .val (.int nn), .val (.int ps), .val (.int ss), .val (.int lt), .val (.int t0), .val (.int t1), .val (.int t2), .val (.ref b), .val (.ref od), .val (.int vc), .val (.int r0), .val (.int r1), .val (.int (1 : Int32)), .unset, .unset, .unset] [(.int r1), (.ref b)])) rfl (by rw [hml]; rfl) (Steps.refl _) (argsL := [(.int r1)]) (rest := []) (lenOf pd_2 rfl) rfl (by show 2 * 0 + _ ≤ _; exact Nat.le_of_eq rfl) (hb hby at_301) (fun _ _ => ⟨rfl, e25, (by decide : 6 + 0 ≤ _), (by decide : 19 + 0 ≤ _)⟩)
      dsimp only [Pt.U, Pt.locs, Pt.cells, Pt.slots] at X46 l46 y46 z46 st46 hQ46
      subst l46 y46 z46
      obtain ⟨rfl, N46q, e46⟩ := hQ46
      have N46 := Fr.app N25 N46q
      have hc305_47 : (S1.2.2.1 r1) = (-1 : Int32) := by rw [hS1]; exact (hG.2.2.2.2.1.resolve_left hc289_27).2
      have P49 : ∀ t, Steps p.tables e below (T46.setTop (mkF m 319 #[.val (.int p1), .val (.int p2), .val (.int p3), .val (.int p4), .val (.int p5), .val (.int nn), .val (.int ps), .val (.int ss), .val (.int lt), .val (.int t0), .val (.int t1), .val (.int t2), .val (.ref b), .val (.ref od), .val (.int vc), .val (.int r0), .val (.int r1), .val (.int (1 : Int32)), .unset, .unset, .unset] [(.int (p5 &&& (1 : Int32)))])) t → Steps p.tables e below (T0.setTop (mkF m 214 #[.val (.int p1), .val (.int p2), .val (.int p3), .val (.int p4), .val (.int p5), .val (.int nn), .val (.int ps), .val (.int ss), .val (.int lt), .val (.int t0), .val (.int t1), .val (.int t2), .val (.ref b), .val (.ref od), .val (.int vc), .val (.int r0), .val (.int r1), .unset, .unset, .unset, .unset] [])) t := fun t kt => P28 t (by
        show Steps p.tables e below (T25.setTop (mkF m 289 #[.val (.int p1), .val (.int p2), .val (.int p3), .val (.int p4), .val (.int p5), .val (.int nn), .val (.int ps), .val (.int ss), .val (.int lt), .val (.int t0), .val (.int t1), .val (.int t2), .val (.ref b), .val (.ref od), .val (.int vc), .val (.int r0), .val (.int r1), .val (.int (1 : Int32)), .unset, .unset, .unset] [(.int (-1 : Int32)), (.int r1)])) _
        refine XS.icmpNo X25.here hx rfl (hb hby at_289) rfl (XT.ii_eq_f hc289_27) ?_
        show Steps p.tables e below (T25.setTop (mkF m 292 #[.val (.int p1), .val (.int p2), .val (.int p3), .val (.int p4), .val (.int p5), .val (.int nn), .val (.int ps), .val (.int ss), .val (.int lt), .val (.int t0), .val (.int t1), .val (.int t2), .val (.ref b), .val (.ref od), .val (.int vc), .val (.int r0), .val (.int r1), .val (.int (1 : Int32)), .unset, .unset, .unset] [])) _
        refine XS.iload X25.here hx rfl (hb hby at_292) rfl ?_
        show Steps p.tables e below (T25.setTop (mkF m 294 #[.val (.int p1), .val (.int p2), .val (.int p3), .val (.int p4), .val (.int p5), .val (.int nn), .val (.int ps), .val (.int ss), .val (.int lt), .val (.int t0), .val (.int t1), .val (.int t2), .val (.ref b), .val (.ref od), .val (.int vc), .val (.int r0), .val (.int r1), .val (.int (1 : Int32)), .unset, .unset, .unset] [(.int (1 : Int32))])) _
        refine XS.ifNo X25.here hx rfl (hb hby at_294) rfl (XT.i0_eq_f hc294_45) ?_
        show Steps p.tables e below (T25.setTop (mkF m 297 #[.val (.int p1), .val (.int p2), .val (.int p3), .val (.int p4), .val (.int p5), .val (.int nn), .val (.int ps), .val (.int ss), .val (.int lt), .val (.int t0), .val (.int t1), .val (.int t2), .val (.ref b), .val (.ref od), .val (.int vc), .val (.int r0), .val (.int r1), .val (.int (1 : Int32)), .unset, .unset, .unset] [])) _
        refine XS.aload X25.here hx rfl (hb hby at_297) rfl rfl ?_
        show Steps p.tables e below (T25.setTop (mkF m 299 #[.val (.int p1), .val (.int p2), .val (.int p3), .val (.int p4), .val (.int p5), .val (.int nn), .val (.int ps), .val (.int ss), .val (.int lt), .val (.int t0), .val (.int t1), .val (.int t2), .val (.ref b), .val (.ref od), .val (.int vc), .val (.int r0), .val (.int r1), .val (.int (1 : Int32)), .unset, .unset, .unset] [(.ref b)])) _
        refine XS.iload X25.here hx rfl (hb hby at_299) rfl ?_
        show Steps p.tables e below (T25.setTop (mkF m 301 #[.val (.int p1), .val (.int p2), .val (.int p3), .val (.int p4), .val (.int p5), .val (.int nn), .val (.int ps), .val (.int ss), .val (.int lt), .val (.int t0), .val (.int t1), .val (.int t2), .val (.ref b), .val (.ref od), .val (.int vc), .val (.int r0), .val (.int r1), .val (.int (1 : Int32)), .unset, .unset, .unset] [(.int r1), (.ref b)])) _
        refine st46.trans ?_
        show Steps p.tables e below (T46.setTop (mkF m 304 #[.val (.int p1), .val (.int p2), .val (.int p3), .val (.int p4), .val (.int p5), .val (.int nn), .val (.int ps), .val (.int ss), .val (.int lt), .val (.int t0), .val (.int t1), .val (.int t2), .val (.ref b), .val (.ref od), .val (.int vc), .val (.int r0), .val (.int r1), .val (.int (1 : Int32)), .unset, .unset, .unset] [(.int (S1.2.2.1 r1))])) _
        refine XS.iconst X46.here hx rfl (hb hby at_304) ?_
        show Steps p.tables e below (T46.setTop (mkF m 305 #[.val (.int p1), .val (.int p2), .val (.int p3), .val (.int p4), .val (.int p5), .val (.int nn), .val (.int ps), .val (.int ss), .val (.int lt), .val (.int t0), .val (.int t1), .val (.int t2), .val (.ref b), .val (.ref od), .val (.int vc), .val (.int r0), .val (.int r1), .val (.int (1 : Int32)), .unset, .unset, .unset] [(.int (-1 : Int32)), (.int (S1.2.2.1 r1))])) _
        refine XS.icmpNo X46.here hx rfl (hb hby at_305) rfl (XT.ii_ne_f hc305_47) ?_
        show Steps p.tables e below (T46.setTop (mkF m 308 #[.val (.int p1), .val (.int p2), .val (.int p3), .val (.int p4), .val (.int p5), .val (.int nn), .val (.int ps), .val (.int ss), .val (.int lt), .val (.int t0), .val (.int t1), .val (.int t2), .val (.ref b), .val (.ref od), .val (.int vc), .val (.int r0), .val (.int r1), .val (.int (1 : Int32)), .unset, .unset, .unset] [])) _
        refine XS.iconst X46.here hx rfl (hb hby at_308) ?_
        show Steps p.tables e below (T46.setTop (mkF m 309 #[.val (.int p1), .val (.int p2), .val (.int p3), .val (.int p4), .val (.int p5), .val (.int nn), .val (.int ps), .val (.int ss), .val (.int lt), .val (.int t0), .val (.int t1), .val (.int t2), .val (.ref b), .val (.ref od), .val (.int vc), .val (.int r0), .val (.int r1), .val (.int (1 : Int32)), .unset, .unset, .unset] [(.int (1 : Int32))])) _
        refine XS.goto X46.here hx rfl (pc0 := 309) (pc' := 313) rfl (hb hby at_309) (by decide) (by decide) ?_
        show Steps p.tables e below (T46.setTop (mkF m 313 #[.val (.int p1), .val (.int p2), .val (.int p3), .val (.int p4), .val (.int p5), .val (.int nn), .val (.int ps), .val (.int ss), .val (.int lt), .val (.int t0), .val (.int t1), .val (.int t2), .val (.ref b), .val (.ref od), .val (.int vc), .val (.int r0), .val (.int r1), .val (.int (1 : Int32)), .unset, .unset, .unset] [(.int (1 : Int32))])) _
        refine XS.istore X46.here hx rfl (hb hby at_313) rfl (l' := #[.val (.int p1), .val (.int p2), .val (.int p3), .val (.int p4), .val (.int p5), .val (.int nn), .val (.int ps), .val (.int ss), .val (.int lt), .val (.int t0), .val (.int t1), .val (.int t2), .val (.ref b), .val (.ref od), .val (.int vc), .val (.int r0), .val (.int r1), .val (.int (1 : Int32)), .unset, .unset, .unset]) rfl ?_
        show Steps p.tables e below (T46.setTop (mkF m 315 #[.val (.int p1), .val (.int p2), .val (.int p3), .val (.int p4), .val (.int p5), .val (.int nn), .val (.int ps), .val (.int ss), .val (.int lt), .val (.int t0), .val (.int t1), .val (.int t2), .val (.ref b), .val (.ref od), .val (.int vc), .val (.int r0), .val (.int r1), .val (.int (1 : Int32)), .unset, .unset, .unset] [])) _
        refine XS.iload X46.here hx rfl (hb hby at_315) rfl ?_
        show Steps p.tables e below (T46.setTop (mkF m 317 #[.val (.int p1), .val (.int p2), .val (.int p3), .val (.int p4), .val (.int p5), .val (.int nn), .val (.int ps), .val (.int ss), .val (.int lt), .val (.int t0), .val (.int t1), .val (.int t2), .val (.ref b), .val (.ref od), .val (.int vc), .val (.int r0), .val (.int r1), .val (.int (1 : Int32)), .unset, .unset, .unset] [(.int p5)])) _
        refine XS.iconst X46.here hx rfl (hb hby at_317) ?_
        show Steps p.tables e below (T46.setTop (mkF m 318 #[.val (.int p1), .val (.int p2), .val (.int p3), .val (.int p4), .val (.int p5), .val (.int nn), .val (.int ps), .val (.int ss), .val (.int lt), .val (.int t0), .val (.int t1), .val (.int t2), .val (.ref b), .val (.ref od), .val (.int vc), .val (.int r0), .val (.int r1), .val (.int (1 : Int32)), .unset, .unset, .unset] [(.int (1 : Int32)), (.int p5)])) _
        refine XS.iand X46.here hx rfl (hb hby at_318) rfl ?_
        exact kt)
      by_cases hc319_48 : (p5 &&& (1 : Int32)) = (0 : Int32)
      · skip
        have P50 : ∀ t, Steps p.tables e below (T46.setTop (mkF m 454 #[.val (.int p1), .val (.int p2), .val (.int p3), .val (.int p4), .val (.int p5), .val (.int nn), .val (.int ps), .val (.int ss), .val (.int lt), .val (.int t0), .val (.int t1), .val (.int t2), .val (.ref b), .val (.ref od), .val (.int vc), .val (.int r0), .val (.int r1), .val (.int (1 : Int32)), .unset, .unset, .unset] [(.int (1 : Int32))])) t → Steps p.tables e below (T0.setTop (mkF m 214 #[.val (.int p1), .val (.int p2), .val (.int p3), .val (.int p4), .val (.int p5), .val (.int nn), .val (.int ps), .val (.int ss), .val (.int lt), .val (.int t0), .val (.int t1), .val (.int t2), .val (.ref b), .val (.ref od), .val (.int vc), .val (.int r0), .val (.int r1), .unset, .unset, .unset, .unset] [])) t := fun t kt => P49 t (by
          show Steps p.tables e below (T46.setTop (mkF m 319 #[.val (.int p1), .val (.int p2), .val (.int p3), .val (.int p4), .val (.int p5), .val (.int nn), .val (.int ps), .val (.int ss), .val (.int lt), .val (.int t0), .val (.int t1), .val (.int t2), .val (.ref b), .val (.ref od), .val (.int vc), .val (.int r0), .val (.int r1), .val (.int (1 : Int32)), .unset, .unset, .unset] [(.int (p5 &&& (1 : Int32)))])) _
          refine XS.ifYes X46.here hx rfl (pc0 := 319) (pc' := 452) rfl (hb hby at_319) rfl (XT.i0_eq_t hc319_48) (by decide) (by decide) ?_
          show Steps p.tables e below (T46.setTop (mkF m 452 #[.val (.int p1), .val (.int p2), .val (.int p3), .val (.int p4), .val (.int p5), .val (.int nn), .val (.int ps), .val (.int ss), .val (.int lt), .val (.int t0), .val (.int t1), .val (.int t2), .val (.ref b), .val (.ref od), .val (.int vc), .val (.int r0), .val (.int r1), .val (.int (1 : Int32)), .unset, .unset, .unset] [])) _
          refine XS.iload X46.here hx rfl (hb hby at_452) rfl ?_
          exact kt)
        exact ⟨T46, _, _, X46, N46, P50⟩
      · skip
        have hc325_51 : ¬ (r0 = (-1 : Int32)) := hc259_7
        have hc331_52 : ¬ (r1 = (-1 : Int32)) := hc289_27
        have P54 : ∀ t, Steps p.tables e below (T46.setTop (mkF m 338 #[.val (.int p1), .val (.int p2), .val (.int p3), .val (.int p4), .val (.int p5), .val (.int nn), .val (.int ps), .val (.int ss), .val (.int lt), .val (.int t0), .val (.int t1), .val (.int t2), .val (.ref b), .val (.ref od), .val (.int vc), .val (.int r0), .val (.int r1), .val (.int (1 : Int32)), .unset, .unset, .unset] [(.int (p5 &&& (2 : Int32)))])) t → Steps p.tables e below (T0.setTop (mkF m 214 #[.val (.int p1), .val (.int p2), .val (.int p3), .val (.int p4), .val (.int p5), .val (.int nn), .val (.int ps), .val (.int ss), .val (.int lt), .val (.int t0), .val (.int t1), .val (.int t2), .val (.ref b), .val (.ref od), .val (.int vc), .val (.int r0), .val (.int r1), .unset, .unset, .unset, .unset] [])) t := fun t kt => P49 t (by
          show Steps p.tables e below (T46.setTop (mkF m 319 #[.val (.int p1), .val (.int p2), .val (.int p3), .val (.int p4), .val (.int p5), .val (.int nn), .val (.int ps), .val (.int ss), .val (.int lt), .val (.int t0), .val (.int t1), .val (.int t2), .val (.ref b), .val (.ref od), .val (.int vc), .val (.int r0), .val (.int r1), .val (.int (1 : Int32)), .unset, .unset, .unset] [(.int (p5 &&& (1 : Int32)))])) _
          refine XS.ifNo X46.here hx rfl (hb hby at_319) rfl (XT.i0_eq_f hc319_48) ?_
          show Steps p.tables e below (T46.setTop (mkF m 322 #[.val (.int p1), .val (.int p2), .val (.int p3), .val (.int p4), .val (.int p5), .val (.int nn), .val (.int ps), .val (.int ss), .val (.int lt), .val (.int t0), .val (.int t1), .val (.int t2), .val (.ref b), .val (.ref od), .val (.int vc), .val (.int r0), .val (.int r1), .val (.int (1 : Int32)), .unset, .unset, .unset] [])) _
          refine XS.iload X46.here hx rfl (hb hby at_322) rfl ?_
          show Steps p.tables e below (T46.setTop (mkF m 324 #[.val (.int p1), .val (.int p2), .val (.int p3), .val (.int p4), .val (.int p5), .val (.int nn), .val (.int ps), .val (.int ss), .val (.int lt), .val (.int t0), .val (.int t1), .val (.int t2), .val (.ref b), .val (.ref od), .val (.int vc), .val (.int r0), .val (.int r1), .val (.int (1 : Int32)), .unset, .unset, .unset] [(.int r0)])) _
          refine XS.iconst X46.here hx rfl (hb hby at_324) ?_
          show Steps p.tables e below (T46.setTop (mkF m 325 #[.val (.int p1), .val (.int p2), .val (.int p3), .val (.int p4), .val (.int p5), .val (.int nn), .val (.int ps), .val (.int ss), .val (.int lt), .val (.int t0), .val (.int t1), .val (.int t2), .val (.ref b), .val (.ref od), .val (.int vc), .val (.int r0), .val (.int r1), .val (.int (1 : Int32)), .unset, .unset, .unset] [(.int (-1 : Int32)), (.int r0)])) _
          refine XS.icmpNo X46.here hx rfl (hb hby at_325) rfl (XT.ii_eq_f hc325_51) ?_
          show Steps p.tables e below (T46.setTop (mkF m 328 #[.val (.int p1), .val (.int p2), .val (.int p3), .val (.int p4), .val (.int p5), .val (.int nn), .val (.int ps), .val (.int ss), .val (.int lt), .val (.int t0), .val (.int t1), .val (.int t2), .val (.ref b), .val (.ref od), .val (.int vc), .val (.int r0), .val (.int r1), .val (.int (1 : Int32)), .unset, .unset, .unset] [])) _
          refine XS.iload X46.here hx rfl (hb hby at_328) rfl ?_
          show Steps p.tables e below (T46.setTop (mkF m 330 #[.val (.int p1), .val (.int p2), .val (.int p3), .val (.int p4), .val (.int p5), .val (.int nn), .val (.int ps), .val (.int ss), .val (.int lt), .val (.int t0), .val (.int t1), .val (.int t2), .val (.ref b), .val (.ref od), .val (.int vc), .val (.int r0), .val (.int r1), .val (.int (1 : Int32)), .unset, .unset, .unset] [(.int r1)])) _
          refine XS.iconst X46.here hx rfl (hb hby at_330) ?_
          show Steps p.tables e below (T46.setTop (mkF m 331 #[.val (.int p1), .val (.int p2), .val (.int p3), .val (.int p4), .val (.int p5), .val (.int nn), .val (.int ps), .val (.int ss), .val (.int lt), .val (.int t0), .val (.int t1), .val (.int t2), .val (.ref b), .val (.ref od), .val (.int vc), .val (.int r0), .val (.int r1), .val (.int (1 : Int32)), .unset, .unset, .unset] [(.int (-1 : Int32)), (.int r1)])) _
          refine XS.icmpNo X46.here hx rfl (hb hby at_331) rfl (XT.ii_eq_f hc331_52) ?_
          show Steps p.tables e below (T46.setTop (mkF m 334 #[.val (.int p1), .val (.int p2), .val (.int p3), .val (.int p4), .val (.int p5), .val (.int nn), .val (.int ps), .val (.int ss), .val (.int lt), .val (.int t0), .val (.int t1), .val (.int t2), .val (.ref b), .val (.ref od), .val (.int vc), .val (.int r0), .val (.int r1), .val (.int (1 : Int32)), .unset, .unset, .unset] [])) _
          refine XS.iload X46.here hx rfl (hb hby at_334) rfl ?_
          show Steps p.tables e below (T46.setTop (mkF m 336 #[.val (.int p1), .val (.int p2), .val (.int p3), .val (.int p4), .val (.int p5), .val (.int nn), .val (.int ps), .val (.int ss), .val (.int lt), .val (.int t0), .val (.int t1), .val (.int t2), .val (.ref b), .val (.ref od), .val (.int vc), .val (.int r0), .val (.int r1), .val (.int (1 : Int32)), .unset, .unset, .unset] [(.int p5)])) _
          refine XS.iconst X46.here hx rfl (hb hby at_336) ?_
          show Steps p.tables e below (T46.setTop (mkF m 337 #[.val (.int p1), .val (.int p2), .val (.int p3), .val (.int p4), .val (.int p5), .val (.int nn), .val (.int ps), .val (.int ss), .val (.int lt), .val (.int t0), .val (.int t1), .val (.int t2), .val (.ref b), .val (.ref od), .val (.int vc), .val (.int r0), .val (.int r1), .val (.int (1 : Int32)), .unset, .unset, .unset] [(.int (2 : Int32)), (.int p5)])) _
          refine XS.iand X46.here hx rfl (hb hby at_337) rfl ?_
          exact kt)
        by_cases hc338_53 : (p5 &&& (2 : Int32)) = (0 : Int32)
        · skip
          have hc350_55 : (0 : Int32) = (0 : Int32) := rfl
          have hc364_56 : (0 : Int32) = (0 : Int32) := rfl
          obtain ⟨cq57, kq57, q57a, q57b, q57c⟩ := isOf hZ e46 c2
          obtain ⟨_, _, ⟨T57, L57, k57, n57⟩, -, X57, ⟨Lc57, hQ57, l57, y57, z57⟩, st57⟩ := X46.virtualBack hx (y := (⟨"com/example/exact_equiv/exactequiv/equivalence/IntLists", "remove", "(II)V"⟩ : MethodName)) (z := (⟨"com/example/exact_equiv/exactequiv/equivalence/IntLists", "remove", "(II)V"⟩ : MethodName)) hown (mvT hZ (hw _ (List.mem_of_getElem? (i := 28) rfl))) (mvT hZ (hw _ (List.mem_of_getElem? (i := 29) rfl))) (notFace_of_selects (args := #[]) (mvT hZ (hw _ (List.mem_of_getElem? (i := 31) rfl)))) (mvT hZ (hw _ (List.mem_of_getElem? (i := 31) rfl))) (mvT hZ (hw _ (List.mem_of_getElem? (i := 30) rfl))) (by decide) (backOf (W := 0) (rmM l Z a0 hw [] b lt r0 aF aS aN aP S1 T1.heap n0 Zs1 HIq1 hl (by rw [hS1]; exact (hG.2.2.2.2.2.1 hc259_7).1)) hZ (hw _ (List.mem_of_getElem? (i := 32) rfl)) (hw _ (List.mem_of_getElem? (i := 3) rfl)) (by decide) (by decide)) q57a q57c (g := (mkF m 382 #[.val (.int p1), .val (.int p2), .val (.int p3), .val (.int p4), .val (.int p5), .val (.int nn), .val (.int ps), .val (.int ss), .val (.int lt), .val (.int t0), .val (.int t1), .val (.int t2), .val (.ref b), .val (.ref od), .val (.int vc), .val (.int r0), .val (.int r1), .val (.int (1 : Int32)), .val (.int (0 : Int32)), .val (.int r0), .val (.int r1)] [(.int r0), (.int lt), (.ref b)])) rfl (by rw [hml]; rfl) (Steps.refl _) (argsL := [(.int lt), (.int r0)]) (rest := []) (lenOf pd_1 rfl) rfl (by show 2 * 0 + _ ≤ _; exact Nat.le_of_eq rfl) (hb hby at_382) (fun _ _ => ⟨rfl, e46, (by decide : 6 + 0 ≤ _), (by decide : 19 + 0 ≤ _)⟩)
          dsimp only [Pt.U, Pt.locs, Pt.cells, Pt.slots] at X57 l57 y57 z57 st57 hQ57
          subst l57 y57 z57
          obtain ⟨rfl, N57q, Kq57, HIq57⟩ := hQ57
          have N57 := Fr.app N46 N57q
          have c58 := c2.keep Kq57
          have Zs57 : n0 ≤ T57.heap.size := Nat.le_trans Zs1 Kq57.1
          obtain ⟨S57, hS57⟩ : ∃ z, z = own_rem S1 lt r0 := ⟨_, rfl⟩
          rw [← hS57] at HIq57
          have hc387_59 : ¬ ((1 : Int32) = (0 : Int32)) := by decide
          obtain ⟨cq60, kq60, q60a, q60b, q60c⟩ := isOf hZ rfl c58
          obtain ⟨_, _, ⟨T60, L60, k60, n60⟩, -, X60, ⟨Lc60, hQ60, l60, y60, z60⟩, st60⟩ := X57.virtualBack hx (y := (⟨"com/example/exact_equiv/exactequiv/equivalence/IntLists", "size", "(I)I"⟩ : MethodName)) (z := (⟨"com/example/exact_equiv/exactequiv/equivalence/IntLists", "size", "(I)I"⟩ : MethodName)) hown (mvT hZ (hw _ (List.mem_of_getElem? (i := 33) rfl))) (mvT hZ (hw _ (List.mem_of_getElem? (i := 34) rfl))) (notFace_of_selects (args := #[]) (mvT hZ (hw _ (List.mem_of_getElem? (i := 36) rfl)))) (mvT hZ (hw _ (List.mem_of_getElem? (i := 36) rfl))) (mvT hZ (hw _ (List.mem_of_getElem? (i := 35) rfl))) (by decide) (backOf (W := 0) (rm6 l Z a0 hw [] b lt aF aS aN aP S57 T57.heap n0 Zs57 HIq57 hl) hZ (hw _ (List.mem_of_getElem? (i := 37) rfl)) (hw _ (List.mem_of_getElem? (i := 3) rfl)) (by decide) (by decide)) q60a q60c (g := (mkF m 394 #[.val (.int p1), .val (.int p2), .val (.int p3), .val (.int p4), .val (.int p5), .val (.int nn), .val (.int ps), .val (.int ss), .val (.int lt), .val (.int t0), .val (.int t1), .val (.int t2), .val (.ref b), .val (.ref od), .val (.int vc), .val (.int r0), .val (.int r1), .val (.int (1 : Int32)), .val (.int (0 : Int32)), .val (.int r0), .val (.int r1)] [(.int lt), (.ref b)])) rfl (by rw [hml]; rfl) (Steps.refl _) (argsL := [(.int lt)]) (rest := []) (lenOf pd_2 rfl) rfl (by show 2 * 0 + _ ≤ _; exact Nat.le_of_eq rfl) (hb hby at_394) (fun _ _ => ⟨rfl, rfl, (by decide : 6 + 0 ≤ _), (by decide : 19 + 0 ≤ _)⟩)
          dsimp only [Pt.U, Pt.locs, Pt.cells, Pt.slots] at X60 l60 y60 z60 st60 hQ60
          subst l60 y60 z60
          obtain ⟨rfl, N60q, e60⟩ := hQ60
          have N60 := Fr.app N57 N60q
          have hc401_61 : (S57.2.1 lt) = (nn - (2 : Int32)) := by rw [hS57, hS1]; exact (hG.2.2.2.2.2.1 hc259_7).2.1
          obtain ⟨cq62, kq62, q62a, q62b, q62c⟩ := isOf hZ e60 c58
          obtain ⟨_, _, ⟨T62, L62, k62, n62⟩, -, X62, ⟨Lc62, hQ62, l62, y62, z62⟩, st62⟩ := X60.virtualBack hx (y := (⟨"com/example/exact_equiv/exactequiv/equivalence/IntLists", "first", "(I)I"⟩ : MethodName)) (z := (⟨"com/example/exact_equiv/exactequiv/equivalence/IntLists", "first", "(I)I"⟩ : MethodName)) hown (mvT hZ (hw _ (List.mem_of_getElem? (i := 38) rfl))) (mvT hZ (hw _ (List.mem_of_getElem? (i := 39) rfl))) (notFace_of_selects (args := #[]) (mvT hZ (hw _ (List.mem_of_getElem? (i := 41) rfl)))) (mvT hZ (hw _ (List.mem_of_getElem? (i := 41) rfl))) (mvT hZ (hw _ (List.mem_of_getElem? (i := 40) rfl))) (by decide) (backOf (W := 0) (rm7 l Z a0 hw [] b lt aF aS aN aP S57 T57.heap n0 Zs57 HIq57 hl) hZ (hw _ (List.mem_of_getElem? (i := 42) rfl)) (hw _ (List.mem_of_getElem? (i := 3) rfl)) (by decide) (by decide)) q62a q62c (g := (mkF m 408 #[.val (.int p1), .val (.int p2), .val (.int p3), .val (.int p4), .val (.int p5), .val (.int nn), .val (.int ps), .val (.int ss), .val (.int lt), .val (.int t0), .val (.int t1), .val (.int t2), .val (.ref b), .val (.ref od), .val (.int vc), .val (.int r0), .val (.int r1), .val (.int (1 : Int32)), .val (.int (0 : Int32)), .val (.int r0), .val (.int r1)] [(.int lt), (.ref b)])) rfl (by rw [hml]; rfl) (Steps.refl _) (argsL := [(.int lt)]) (rest := []) (lenOf pd_2 rfl) rfl (by show 2 * 0 + _ ≤ _; exact Nat.le_of_eq rfl) (hb hby at_408) (fun _ _ => ⟨rfl, e60, (by decide : 6 + 0 ≤ _), (by decide : 19 + 0 ≤ _)⟩)
          dsimp only [Pt.U, Pt.locs, Pt.cells, Pt.slots] at X62 l62 y62 z62 st62 hQ62
          subst l62 y62 z62
          obtain ⟨rfl, N62q, e62⟩ := hQ62
          have N62 := Fr.app N60 N62q
          have hc413_63 : (S57.1 lt) = r1 := by rw [hS57, hS1]; exact (hG.2.2.2.2.2.1 hc259_7).2.2.1
          have hc426_64 : ¬ (r1 = (-1 : Int32)) := hc289_27
          have hc431_65 : ¬ ((1 : Int32) = (0 : Int32)) := by decide
          obtain ⟨cq66, kq66, q66a, q66b, q66c⟩ := isOf hZ e62 c58
          obtain ⟨_, _, ⟨T66, L66, k66, n66⟩, -, X66, ⟨Lc66, hQ66, l66, y66, z66⟩, st66⟩ := X62.virtualBack hx (y := (⟨"com/example/exact_equiv/exactequiv/equivalence/IntLists", "next", "(I)I"⟩ : MethodName)) (z := (⟨"com/example/exact_equiv/exactequiv/equivalence/IntLists", "next", "(I)I"⟩ : MethodName)) hown (mvT hZ (hw _ (List.mem_of_getElem? (i := 43) rfl))) (mvT hZ (hw _ (List.mem_of_getElem? (i := 44) rfl))) (notFace_of_selects (args := #[]) (mvT hZ (hw _ (List.mem_of_getElem? (i := 46) rfl)))) (mvT hZ (hw _ (List.mem_of_getElem? (i := 46) rfl))) (mvT hZ (hw _ (List.mem_of_getElem? (i := 45) rfl))) (by decide) (backOf (W := 0) (rm8 l Z a0 hw [] b r1 aF aS aN aP S57 T57.heap n0 Zs57 HIq57 (((hG.2.2.2.2.2.1 hc259_7).2.2.2.resolve_left hc289_27).1)) hZ (hw _ (List.mem_of_getElem? (i := 47) rfl)) (hw _ (List.mem_of_getElem? (i := 3) rfl)) (by decide) (by decide)) q66a q66c (g := (mkF m 438 #[.val (.int p1), .val (.int p2), .val (.int p3), .val (.int p4), .val (.int p5), .val (.int nn), .val (.int ps), .val (.int ss), .val (.int lt), .val (.int t0), .val (.int t1), .val (.int t2), .val (.ref b), .val (.ref od), .val (.int vc), .val (.int r0), .val (.int r1), .val (.int (1 : Int32)), .val (.int (0 : Int32)), .val (.int r0), .val (.int r1)] [(.int r1), (.ref b)])) rfl (by rw [hml]; rfl) (Steps.refl _) (argsL := [(.int r1)]) (rest := []) (lenOf pd_2 rfl) rfl (by show 2 * 0 + _ ≤ _; exact Nat.le_of_eq rfl) (hb hby at_438) (fun _ _ => ⟨rfl, e62, (by decide : 6 + 0 ≤ _), (by decide : 19 + 0 ≤ _)⟩)
          dsimp only [Pt.U, Pt.locs, Pt.cells, Pt.slots] at X66 l66 y66 z66 st66 hQ66
          subst l66 y66 z66
          obtain ⟨rfl, N66q, e66⟩ := hQ66
          have N66 := Fr.app N62 N66q
          have hc442_67 : (S57.2.2.1 r1) = (-1 : Int32) := by rw [hS57, hS1]; exact ((hG.2.2.2.2.2.1 hc259_7).2.2.2.resolve_left hc289_27).2
          have P68 : ∀ t, Steps p.tables e below (T66.setTop (mkF m 454 #[.val (.int p1), .val (.int p2), .val (.int p3), .val (.int p4), .val (.int p5), .val (.int nn), .val (.int ps), .val (.int ss), .val (.int lt), .val (.int t0), .val (.int t1), .val (.int t2), .val (.ref b), .val (.ref od), .val (.int vc), .val (.int r0), .val (.int r1), .val (.int (1 : Int32)), .val (.int (0 : Int32)), .val (.int r0), .val (.int r1)] [(.int (1 : Int32))])) t → Steps p.tables e below (T0.setTop (mkF m 214 #[.val (.int p1), .val (.int p2), .val (.int p3), .val (.int p4), .val (.int p5), .val (.int nn), .val (.int ps), .val (.int ss), .val (.int lt), .val (.int t0), .val (.int t1), .val (.int t2), .val (.ref b), .val (.ref od), .val (.int vc), .val (.int r0), .val (.int r1), .unset, .unset, .unset, .unset] [])) t := fun t kt => P54 t (by
            show Steps p.tables e below (T46.setTop (mkF m 338 #[.val (.int p1), .val (.int p2), .val (.int p3), .val (.int p4), .val (.int p5), .val (.int nn), .val (.int ps), .val (.int ss), .val (.int lt), .val (.int t0), .val (.int t1), .val (.int t2), .val (.ref b), .val (.ref od), .val (.int vc), .val (.int r0), .val (.int r1), .val (.int (1 : Int32)), .unset, .unset, .unset] [(.int (p5 &&& (2 : Int32)))])) _
            refine XS.ifYes X46.here hx rfl (pc0 := 338) (pc' := 345) rfl (hb hby at_338) rfl (XT.i0_eq_t hc338_53) (by decide) (by decide) ?_
            show Steps p.tables e below (T46.setTop (mkF m 345 #[.val (.int p1), .val (.int p2), .val (.int p3), .val (.int p4), .val (.int p5), .val (.int nn), .val (.int ps), .val (.int ss), .val (.int lt), .val (.int t0), .val (.int t1), .val (.int t2), .val (.ref b), .val (.ref od), .val (.int vc), .val (.int r0), .val (.int r1), .val (.int (1 : Int32)), .unset, .unset, .unset] [])) _
            refine XS.iconst X46.here hx rfl (hb hby at_345) ?_
            show Steps p.tables e below (T46.setTop (mkF m 346 #[.val (.int p1), .val (.int p2), .val (.int p3), .val (.int p4), .val (.int p5), .val (.int nn), .val (.int ps), .val (.int ss), .val (.int lt), .val (.int t0), .val (.int t1), .val (.int t2), .val (.ref b), .val (.ref od), .val (.int vc), .val (.int r0), .val (.int r1), .val (.int (1 : Int32)), .unset, .unset, .unset] [(.int (0 : Int32))])) _
            refine XS.istore X46.here hx rfl (hb hby at_346) rfl (l' := #[.val (.int p1), .val (.int p2), .val (.int p3), .val (.int p4), .val (.int p5), .val (.int nn), .val (.int ps), .val (.int ss), .val (.int lt), .val (.int t0), .val (.int t1), .val (.int t2), .val (.ref b), .val (.ref od), .val (.int vc), .val (.int r0), .val (.int r1), .val (.int (1 : Int32)), .val (.int (0 : Int32)), .unset, .unset]) rfl ?_
            show Steps p.tables e below (T46.setTop (mkF m 348 #[.val (.int p1), .val (.int p2), .val (.int p3), .val (.int p4), .val (.int p5), .val (.int nn), .val (.int ps), .val (.int ss), .val (.int lt), .val (.int t0), .val (.int t1), .val (.int t2), .val (.ref b), .val (.ref od), .val (.int vc), .val (.int r0), .val (.int r1), .val (.int (1 : Int32)), .val (.int (0 : Int32)), .unset, .unset] [])) _
            refine XS.iload X46.here hx rfl (hb hby at_348) rfl ?_
            show Steps p.tables e below (T46.setTop (mkF m 350 #[.val (.int p1), .val (.int p2), .val (.int p3), .val (.int p4), .val (.int p5), .val (.int nn), .val (.int ps), .val (.int ss), .val (.int lt), .val (.int t0), .val (.int t1), .val (.int t2), .val (.ref b), .val (.ref od), .val (.int vc), .val (.int r0), .val (.int r1), .val (.int (1 : Int32)), .val (.int (0 : Int32)), .unset, .unset] [(.int (0 : Int32))])) _
            refine XS.ifYes X46.here hx rfl (pc0 := 350) (pc' := 358) rfl (hb hby at_350) rfl (XT.i0_eq_t hc350_55) (by decide) (by decide) ?_
            show Steps p.tables e below (T46.setTop (mkF m 358 #[.val (.int p1), .val (.int p2), .val (.int p3), .val (.int p4), .val (.int p5), .val (.int nn), .val (.int ps), .val (.int ss), .val (.int lt), .val (.int t0), .val (.int t1), .val (.int t2), .val (.ref b), .val (.ref od), .val (.int vc), .val (.int r0), .val (.int r1), .val (.int (1 : Int32)), .val (.int (0 : Int32)), .unset, .unset] [])) _
            refine XS.iload X46.here hx rfl (hb hby at_358) rfl ?_
            show Steps p.tables e below (T46.setTop (mkF m 360 #[.val (.int p1), .val (.int p2), .val (.int p3), .val (.int p4), .val (.int p5), .val (.int nn), .val (.int ps), .val (.int ss), .val (.int lt), .val (.int t0), .val (.int t1), .val (.int t2), .val (.ref b), .val (.ref od), .val (.int vc), .val (.int r0), .val (.int r1), .val (.int (1 : Int32)), .val (.int (0 : Int32)), .unset, .unset] [(.int r0)])) _
            refine XS.istore X46.here hx rfl (hb hby at_360) rfl (l' := #[.val (.int p1), .val (.int p2), .val (.int p3), .val (.int p4), .val (.int p5), .val (.int nn), .val (.int ps), .val (.int ss), .val (.int lt), .val (.int t0), .val (.int t1), .val (.int t2), .val (.ref b), .val (.ref od), .val (.int vc), .val (.int r0), .val (.int r1), .val (.int (1 : Int32)), .val (.int (0 : Int32)), .val (.int r0), .unset]) rfl ?_
            show Steps p.tables e below (T46.setTop (mkF m 362 #[.val (.int p1), .val (.int p2), .val (.int p3), .val (.int p4), .val (.int p5), .val (.int nn), .val (.int ps), .val (.int ss), .val (.int lt), .val (.int t0), .val (.int t1), .val (.int t2), .val (.ref b), .val (.ref od), .val (.int vc), .val (.int r0), .val (.int r1), .val (.int (1 : Int32)), .val (.int (0 : Int32)), .val (.int r0), .unset] [])) _
            refine XS.iload X46.here hx rfl (hb hby at_362) rfl ?_
            show Steps p.tables e below (T46.setTop (mkF m 364 #[.val (.int p1), .val (.int p2), .val (.int p3), .val (.int p4), .val (.int p5), .val (.int nn), .val (.int ps), .val (.int ss), .val (.int lt), .val (.int t0), .val (.int t1), .val (.int t2), .val (.ref b), .val (.ref od), .val (.int vc), .val (.int r0), .val (.int r1), .val (.int (1 : Int32)), .val (.int (0 : Int32)), .val (.int r0), .unset] [(.int (0 : Int32))])) _
            refine XS.ifYes X46.here hx rfl (pc0 := 364) (pc' := 372) rfl (hb hby at_364) rfl (XT.i0_eq_t hc364_56) (by decide) (by decide) ?_
            show Steps p.tables e below (T46.setTop (mkF m 372 #[.val (.int p1), .val (.int p2), .val (.int p3), .val (.int p4), .val (.int p5), .val (.int nn), .val (.int ps), .val (.int ss), .val (.int lt), .val (.int t0), .val (.int t1), .val (.int t2), .val (.ref b), .val (.ref od), .val (.int vc), .val (.int r0), .val (.int r1), .val (.int (1 : Int32)), .val (.int (0 : Int32)), .val (.int r0), .unset] [])) _
            refine XS.iload X46.here hx rfl (hb hby at_372) rfl ?_
            show Steps p.tables e below (T46.setTop (mkF m 374 #[.val (.int p1), .val (.int p2), .val (.int p3), .val (.int p4), .val (.int p5), .val (.int nn), .val (.int ps), .val (.int ss), .val (.int lt), .val (.int t0), .val (.int t1), .val (.int t2), .val (.ref b), .val (.ref od), .val (.int vc), .val (.int r0), .val (.int r1), .val (.int (1 : Int32)), .val (.int (0 : Int32)), .val (.int r0), .unset] [(.int r1)])) _
            refine XS.istore X46.here hx rfl (hb hby at_374) rfl (l' := #[.val (.int p1), .val (.int p2), .val (.int p3), .val (.int p4), .val (.int p5), .val (.int nn), .val (.int ps), .val (.int ss), .val (.int lt), .val (.int t0), .val (.int t1), .val (.int t2), .val (.ref b), .val (.ref od), .val (.int vc), .val (.int r0), .val (.int r1), .val (.int (1 : Int32)), .val (.int (0 : Int32)), .val (.int r0), .val (.int r1)]) rfl ?_
            show Steps p.tables e below (T46.setTop (mkF m 376 #[.val (.int p1), .val (.int p2), .val (.int p3), .val (.int p4), .val (.int p5), .val (.int nn), .val (.int ps), .val (.int ss), .val (.int lt), .val (.int t0), .val (.int t1), .val (.int t2), .val (.ref b), .val (.ref od), .val (.int vc), .val (.int r0), .val (.int r1), .val (.int (1 : Int32)), .val (.int (0 : Int32)), .val (.int r0), .val (.int r1)] [])) _
            refine XS.aload X46.here hx rfl (hb hby at_376) rfl rfl ?_
            show Steps p.tables e below (T46.setTop (mkF m 378 #[.val (.int p1), .val (.int p2), .val (.int p3), .val (.int p4), .val (.int p5), .val (.int nn), .val (.int ps), .val (.int ss), .val (.int lt), .val (.int t0), .val (.int t1), .val (.int t2), .val (.ref b), .val (.ref od), .val (.int vc), .val (.int r0), .val (.int r1), .val (.int (1 : Int32)), .val (.int (0 : Int32)), .val (.int r0), .val (.int r1)] [(.ref b)])) _
            refine XS.iload X46.here hx rfl (hb hby at_378) rfl ?_
            show Steps p.tables e below (T46.setTop (mkF m 380 #[.val (.int p1), .val (.int p2), .val (.int p3), .val (.int p4), .val (.int p5), .val (.int nn), .val (.int ps), .val (.int ss), .val (.int lt), .val (.int t0), .val (.int t1), .val (.int t2), .val (.ref b), .val (.ref od), .val (.int vc), .val (.int r0), .val (.int r1), .val (.int (1 : Int32)), .val (.int (0 : Int32)), .val (.int r0), .val (.int r1)] [(.int lt), (.ref b)])) _
            refine XS.iload X46.here hx rfl (hb hby at_380) rfl ?_
            show Steps p.tables e below (T46.setTop (mkF m 382 #[.val (.int p1), .val (.int p2), .val (.int p3), .val (.int p4), .val (.int p5), .val (.int nn), .val (.int ps), .val (.int ss), .val (.int lt), .val (.int t0), .val (.int t1), .val (.int t2), .val (.ref b), .val (.ref od), .val (.int vc), .val (.int r0), .val (.int r1), .val (.int (1 : Int32)), .val (.int (0 : Int32)), .val (.int r0), .val (.int r1)] [(.int r0), (.int lt), (.ref b)])) _
            refine st57.trans ?_
            show Steps p.tables e below (T57.setTop (mkF m 385 #[.val (.int p1), .val (.int p2), .val (.int p3), .val (.int p4), .val (.int p5), .val (.int nn), .val (.int ps), .val (.int ss), .val (.int lt), .val (.int t0), .val (.int t1), .val (.int t2), .val (.ref b), .val (.ref od), .val (.int vc), .val (.int r0), .val (.int r1), .val (.int (1 : Int32)), .val (.int (0 : Int32)), .val (.int r0), .val (.int r1)] [])) _
            refine XS.iload X57.here hx rfl (hb hby at_385) rfl ?_
            show Steps p.tables e below (T57.setTop (mkF m 387 #[.val (.int p1), .val (.int p2), .val (.int p3), .val (.int p4), .val (.int p5), .val (.int nn), .val (.int ps), .val (.int ss), .val (.int lt), .val (.int t0), .val (.int t1), .val (.int t2), .val (.ref b), .val (.ref od), .val (.int vc), .val (.int r0), .val (.int r1), .val (.int (1 : Int32)), .val (.int (0 : Int32)), .val (.int r0), .val (.int r1)] [(.int (1 : Int32))])) _
            refine XS.ifNo X57.here hx rfl (hb hby at_387) rfl (XT.i0_eq_f hc387_59) ?_
            show Steps p.tables e below (T57.setTop (mkF m 390 #[.val (.int p1), .val (.int p2), .val (.int p3), .val (.int p4), .val (.int p5), .val (.int nn), .val (.int ps), .val (.int ss), .val (.int lt), .val (.int t0), .val (.int t1), .val (.int t2), .val (.ref b), .val (.ref od), .val (.int vc), .val (.int r0), .val (.int r1), .val (.int (1 : Int32)), .val (.int (0 : Int32)), .val (.int r0), .val (.int r1)] [])) _
            refine XS.aload X57.here hx rfl (hb hby at_390) rfl rfl ?_
            show Steps p.tables e below (T57.setTop (mkF m 392 #[.val (.int p1), .val (.int p2), .val (.int p3), .val (.int p4), .val (.int p5), .val (.int nn), .val (.int ps), .val (.int ss), .val (.int lt), .val (.int t0), .val (.int t1), .val (.int t2), .val (.ref b), .val (.ref od), .val (.int vc), .val (.int r0), .val (.int r1), .val (.int (1 : Int32)), .val (.int (0 : Int32)), .val (.int r0), .val (.int r1)] [(.ref b)])) _
            refine XS.iload X57.here hx rfl (hb hby at_392) rfl ?_
            show Steps p.tables e below (T57.setTop (mkF m 394 #[.val (.int p1), .val (.int p2), .val (.int p3), .val (.int p4), .val (.int p5), .val (.int nn), .val (.int ps), .val (.int ss), .val (.int lt), .val (.int t0), .val (.int t1), .val (.int t2), .val (.ref b), .val (.ref od), .val (.int vc), .val (.int r0), .val (.int r1), .val (.int (1 : Int32)), .val (.int (0 : Int32)), .val (.int r0), .val (.int r1)] [(.int lt), (.ref b)])) _
            refine st60.trans ?_
            show Steps p.tables e below (T60.setTop (mkF m 397 #[.val (.int p1), .val (.int p2), .val (.int p3), .val (.int p4), .val (.int p5), .val (.int nn), .val (.int ps), .val (.int ss), .val (.int lt), .val (.int t0), .val (.int t1), .val (.int t2), .val (.ref b), .val (.ref od), .val (.int vc), .val (.int r0), .val (.int r1), .val (.int (1 : Int32)), .val (.int (0 : Int32)), .val (.int r0), .val (.int r1)] [(.int (S57.2.1 lt))])) _
            refine XS.iload X60.here hx rfl (hb hby at_397) rfl ?_
            show Steps p.tables e below (T60.setTop (mkF m 399 #[.val (.int p1), .val (.int p2), .val (.int p3), .val (.int p4), .val (.int p5), .val (.int nn), .val (.int ps), .val (.int ss), .val (.int lt), .val (.int t0), .val (.int t1), .val (.int t2), .val (.ref b), .val (.ref od), .val (.int vc), .val (.int r0), .val (.int r1), .val (.int (1 : Int32)), .val (.int (0 : Int32)), .val (.int r0), .val (.int r1)] [(.int nn), (.int (S57.2.1 lt))])) _
            refine XS.iconst X60.here hx rfl (hb hby at_399) ?_
            show Steps p.tables e below (T60.setTop (mkF m 400 #[.val (.int p1), .val (.int p2), .val (.int p3), .val (.int p4), .val (.int p5), .val (.int nn), .val (.int ps), .val (.int ss), .val (.int lt), .val (.int t0), .val (.int t1), .val (.int t2), .val (.ref b), .val (.ref od), .val (.int vc), .val (.int r0), .val (.int r1), .val (.int (1 : Int32)), .val (.int (0 : Int32)), .val (.int r0), .val (.int r1)] [(.int (2 : Int32)), (.int nn), (.int (S57.2.1 lt))])) _
            refine XS.isub X60.here hx rfl (hb hby at_400) rfl ?_
            show Steps p.tables e below (T60.setTop (mkF m 401 #[.val (.int p1), .val (.int p2), .val (.int p3), .val (.int p4), .val (.int p5), .val (.int nn), .val (.int ps), .val (.int ss), .val (.int lt), .val (.int t0), .val (.int t1), .val (.int t2), .val (.ref b), .val (.ref od), .val (.int vc), .val (.int r0), .val (.int r1), .val (.int (1 : Int32)), .val (.int (0 : Int32)), .val (.int r0), .val (.int r1)] [(.int (nn - (2 : Int32))), (.int (S57.2.1 lt))])) _
            refine XS.icmpNo X60.here hx rfl (hb hby at_401) rfl (XT.ii_ne_f hc401_61) ?_
            show Steps p.tables e below (T60.setTop (mkF m 404 #[.val (.int p1), .val (.int p2), .val (.int p3), .val (.int p4), .val (.int p5), .val (.int nn), .val (.int ps), .val (.int ss), .val (.int lt), .val (.int t0), .val (.int t1), .val (.int t2), .val (.ref b), .val (.ref od), .val (.int vc), .val (.int r0), .val (.int r1), .val (.int (1 : Int32)), .val (.int (0 : Int32)), .val (.int r0), .val (.int r1)] [])) _
            refine XS.aload X60.here hx rfl (hb hby at_404) rfl rfl ?_
            show Steps p.tables e below (T60.setTop (mkF m 406 #[.val (.int p1), .val (.int p2), .val (.int p3), .val (.int p4), .val (.int p5), .val (.int nn), .val (.int ps), .val (.int ss), .val (.int lt), .val (.int t0), .val (.int t1), .val (.int t2), .val (.ref b), .val (.ref od), .val (.int vc), .val (.int r0), .val (.int r1), .val (.int (1 : Int32)), .val (.int (0 : Int32)), .val (.int r0), .val (.int r1)] [(.ref b)])) _
            refine XS.iload X60.here hx rfl (hb hby at_406) rfl ?_
            show Steps p.tables e below (T60.setTop (mkF m 408 #[.val (.int p1), .val (.int p2), .val (.int p3), .val (.int p4), .val (.int p5), .val (.int nn), .val (.int ps), .val (.int ss), .val (.int lt), .val (.int t0), .val (.int t1), .val (.int t2), .val (.ref b), .val (.ref od), .val (.int vc), .val (.int r0), .val (.int r1), .val (.int (1 : Int32)), .val (.int (0 : Int32)), .val (.int r0), .val (.int r1)] [(.int lt), (.ref b)])) _
            refine st62.trans ?_
            show Steps p.tables e below (T62.setTop (mkF m 411 #[.val (.int p1), .val (.int p2), .val (.int p3), .val (.int p4), .val (.int p5), .val (.int nn), .val (.int ps), .val (.int ss), .val (.int lt), .val (.int t0), .val (.int t1), .val (.int t2), .val (.ref b), .val (.ref od), .val (.int vc), .val (.int r0), .val (.int r1), .val (.int (1 : Int32)), .val (.int (0 : Int32)), .val (.int r0), .val (.int r1)] [(.int (S57.1 lt))])) _
            refine XS.iload X62.here hx rfl (hb hby at_411) rfl ?_
            show Steps p.tables e below (T62.setTop (mkF m 413 #[.val (.int p1), .val (.int p2), .val (.int p3), .val (.int p4), .val (.int p5), .val (.int nn), .val (.int ps), .val (.int ss), .val (.int lt), .val (.int t0), .val (.int t1), .val (.int t2), .val (.ref b), .val (.ref od), .val (.int vc), .val (.int r0), .val (.int r1), .val (.int (1 : Int32)), .val (.int (0 : Int32)), .val (.int r0), .val (.int r1)] [(.int r1), (.int (S57.1 lt))])) _
            refine XS.icmpNo X62.here hx rfl (hb hby at_413) rfl (XT.ii_ne_f hc413_63) ?_
            show Steps p.tables e below (T62.setTop (mkF m 416 #[.val (.int p1), .val (.int p2), .val (.int p3), .val (.int p4), .val (.int p5), .val (.int nn), .val (.int ps), .val (.int ss), .val (.int lt), .val (.int t0), .val (.int t1), .val (.int t2), .val (.ref b), .val (.ref od), .val (.int vc), .val (.int r0), .val (.int r1), .val (.int (1 : Int32)), .val (.int (0 : Int32)), .val (.int r0), .val (.int r1)] [])) _
            refine XS.iconst X62.here hx rfl (hb hby at_416) ?_
            show Steps p.tables e below (T62.setTop (mkF m 417 #[.val (.int p1), .val (.int p2), .val (.int p3), .val (.int p4), .val (.int p5), .val (.int nn), .val (.int ps), .val (.int ss), .val (.int lt), .val (.int t0), .val (.int t1), .val (.int t2), .val (.ref b), .val (.ref od), .val (.int vc), .val (.int r0), .val (.int r1), .val (.int (1 : Int32)), .val (.int (0 : Int32)), .val (.int r0), .val (.int r1)] [(.int (1 : Int32))])) _
            refine XS.goto X62.here hx rfl (pc0 := 417) (pc' := 421) rfl (hb hby at_417) (by decide) (by decide) ?_
            show Steps p.tables e below (T62.setTop (mkF m 421 #[.val (.int p1), .val (.int p2), .val (.int p3), .val (.int p4), .val (.int p5), .val (.int nn), .val (.int ps), .val (.int ss), .val (.int lt), .val (.int t0), .val (.int t1), .val (.int t2), .val (.ref b), .val (.ref od), .val (.int vc), .val (.int r0), .val (.int r1), .val (.int (1 : Int32)), .val (.int (0 : Int32)), .val (.int r0), .val (.int r1)] [(.int (1 : Int32))])) _
            refine XS.istore X62.here hx rfl (hb hby at_421) rfl (l' := #[.val (.int p1), .val (.int p2), .val (.int p3), .val (.int p4), .val (.int p5), .val (.int nn), .val (.int ps), .val (.int ss), .val (.int lt), .val (.int t0), .val (.int t1), .val (.int t2), .val (.ref b), .val (.ref od), .val (.int vc), .val (.int r0), .val (.int r1), .val (.int (1 : Int32)), .val (.int (0 : Int32)), .val (.int r0), .val (.int r1)]) rfl ?_
            show Steps p.tables e below (T62.setTop (mkF m 423 #[.val (.int p1), .val (.int p2), .val (.int p3), .val (.int p4), .val (.int p5), .val (.int nn), .val (.int ps), .val (.int ss), .val (.int lt), .val (.int t0), .val (.int t1), .val (.int t2), .val (.ref b), .val (.ref od), .val (.int vc), .val (.int r0), .val (.int r1), .val (.int (1 : Int32)), .val (.int (0 : Int32)), .val (.int r0), .val (.int r1)] [])) _
            refine XS.iload X62.here hx rfl (hb hby at_423) rfl ?_
            show Steps p.tables e below (T62.setTop (mkF m 425 #[.val (.int p1), .val (.int p2), .val (.int p3), .val (.int p4), .val (.int p5), .val (.int nn), .val (.int ps), .val (.int ss), .val (.int lt), .val (.int t0), .val (.int t1), .val (.int t2), .val (.ref b), .val (.ref od), .val (.int vc), .val (.int r0), .val (.int r1), .val (.int (1 : Int32)), .val (.int (0 : Int32)), .val (.int r0), .val (.int r1)] [(.int r1)])) _
            refine XS.iconst X62.here hx rfl (hb hby at_425) ?_
            show Steps p.tables e below (T62.setTop (mkF m 426 #[.val (.int p1), .val (.int p2), .val (.int p3), .val (.int p4), .val (.int p5), .val (.int nn), .val (.int ps), .val (.int ss), .val (.int lt), .val (.int t0), .val (.int t1), .val (.int t2), .val (.ref b), .val (.ref od), .val (.int vc), .val (.int r0), .val (.int r1), .val (.int (1 : Int32)), .val (.int (0 : Int32)), .val (.int r0), .val (.int r1)] [(.int (-1 : Int32)), (.int r1)])) _
            refine XS.icmpNo X62.here hx rfl (hb hby at_426) rfl (XT.ii_eq_f hc426_64) ?_
            show Steps p.tables e below (T62.setTop (mkF m 429 #[.val (.int p1), .val (.int p2), .val (.int p3), .val (.int p4), .val (.int p5), .val (.int nn), .val (.int ps), .val (.int ss), .val (.int lt), .val (.int t0), .val (.int t1), .val (.int t2), .val (.ref b), .val (.ref od), .val (.int vc), .val (.int r0), .val (.int r1), .val (.int (1 : Int32)), .val (.int (0 : Int32)), .val (.int r0), .val (.int r1)] [])) _
            refine XS.iload X62.here hx rfl (hb hby at_429) rfl ?_
            show Steps p.tables e below (T62.setTop (mkF m 431 #[.val (.int p1), .val (.int p2), .val (.int p3), .val (.int p4), .val (.int p5), .val (.int nn), .val (.int ps), .val (.int ss), .val (.int lt), .val (.int t0), .val (.int t1), .val (.int t2), .val (.ref b), .val (.ref od), .val (.int vc), .val (.int r0), .val (.int r1), .val (.int (1 : Int32)), .val (.int (0 : Int32)), .val (.int r0), .val (.int r1)] [(.int (1 : Int32))])) _
            refine XS.ifNo X62.here hx rfl (hb hby at_431) rfl (XT.i0_eq_f hc431_65) ?_
            show Steps p.tables e below (T62.setTop (mkF m 434 #[.val (.int p1), .val (.int p2), .val (.int p3), .val (.int p4), .val (.int p5), .val (.int nn), .val (.int ps), .val (.int ss), .val (.int lt), .val (.int t0), .val (.int t1), .val (.int t2), .val (.ref b), .val (.ref od), .val (.int vc), .val (.int r0), .val (.int r1), .val (.int (1 : Int32)), .val (.int (0 : Int32)), .val (.int r0), .val (.int r1)] [])) _
            refine XS.aload X62.here hx rfl (hb hby at_434) rfl rfl ?_
            show Steps p.tables e below (T62.setTop (mkF m 436 #[.val (.int p1), .val (.int p2), .val (.int p3), .val (.int p4), .val (.int p5), .val (.int nn), .val (.int ps), .val (.int ss), .val (.int lt), .val (.int t0), .val (.int t1), .val (.int t2), .val (.ref b), .val (.ref od), .val (.int vc), .val (.int r0), .val (.int r1), .val (.int (1 : Int32)), .val (.int (0 : Int32)), .val (.int r0), .val (.int r1)] [(.ref b)])) _
            refine XS.iload X62.here hx rfl (hb hby at_436) rfl ?_
            show Steps p.tables e below (T62.setTop (mkF m 438 #[.val (.int p1), .val (.int p2), .val (.int p3), .val (.int p4), .val (.int p5), .val (.int nn), .val (.int ps), .val (.int ss), .val (.int lt), .val (.int t0), .val (.int t1), .val (.int t2), .val (.ref b), .val (.ref od), .val (.int vc), .val (.int r0), .val (.int r1), .val (.int (1 : Int32)), .val (.int (0 : Int32)), .val (.int r0), .val (.int r1)] [(.int r1), (.ref b)])) _
            refine st66.trans ?_
            show Steps p.tables e below (T66.setTop (mkF m 441 #[.val (.int p1), .val (.int p2), .val (.int p3), .val (.int p4), .val (.int p5), .val (.int nn), .val (.int ps), .val (.int ss), .val (.int lt), .val (.int t0), .val (.int t1), .val (.int t2), .val (.ref b), .val (.ref od), .val (.int vc), .val (.int r0), .val (.int r1), .val (.int (1 : Int32)), .val (.int (0 : Int32)), .val (.int r0), .val (.int r1)] [(.int (S57.2.2.1 r1))])) _
            refine XS.iconst X66.here hx rfl (hb hby at_441) ?_
            show Steps p.tables e below (T66.setTop (mkF m 442 #[.val (.int p1), .val (.int p2), .val (.int p3), .val (.int p4), .val (.int p5), .val (.int nn), .val (.int ps), .val (.int ss), .val (.int lt), .val (.int t0), .val (.int t1), .val (.int t2), .val (.ref b), .val (.ref od), .val (.int vc), .val (.int r0), .val (.int r1), .val (.int (1 : Int32)), .val (.int (0 : Int32)), .val (.int r0), .val (.int r1)] [(.int (-1 : Int32)), (.int (S57.2.2.1 r1))])) _
            refine XS.icmpNo X66.here hx rfl (hb hby at_442) rfl (XT.ii_ne_f hc442_67) ?_
            show Steps p.tables e below (T66.setTop (mkF m 445 #[.val (.int p1), .val (.int p2), .val (.int p3), .val (.int p4), .val (.int p5), .val (.int nn), .val (.int ps), .val (.int ss), .val (.int lt), .val (.int t0), .val (.int t1), .val (.int t2), .val (.ref b), .val (.ref od), .val (.int vc), .val (.int r0), .val (.int r1), .val (.int (1 : Int32)), .val (.int (0 : Int32)), .val (.int r0), .val (.int r1)] [])) _
            refine XS.iconst X66.here hx rfl (hb hby at_445) ?_
            show Steps p.tables e below (T66.setTop (mkF m 446 #[.val (.int p1), .val (.int p2), .val (.int p3), .val (.int p4), .val (.int p5), .val (.int nn), .val (.int ps), .val (.int ss), .val (.int lt), .val (.int t0), .val (.int t1), .val (.int t2), .val (.ref b), .val (.ref od), .val (.int vc), .val (.int r0), .val (.int r1), .val (.int (1 : Int32)), .val (.int (0 : Int32)), .val (.int r0), .val (.int r1)] [(.int (1 : Int32))])) _
            refine XS.goto X66.here hx rfl (pc0 := 446) (pc' := 450) rfl (hb hby at_446) (by decide) (by decide) ?_
            show Steps p.tables e below (T66.setTop (mkF m 450 #[.val (.int p1), .val (.int p2), .val (.int p3), .val (.int p4), .val (.int p5), .val (.int nn), .val (.int ps), .val (.int ss), .val (.int lt), .val (.int t0), .val (.int t1), .val (.int t2), .val (.ref b), .val (.ref od), .val (.int vc), .val (.int r0), .val (.int r1), .val (.int (1 : Int32)), .val (.int (0 : Int32)), .val (.int r0), .val (.int r1)] [(.int (1 : Int32))])) _
            refine XS.istore X66.here hx rfl (hb hby at_450) rfl (l' := #[.val (.int p1), .val (.int p2), .val (.int p3), .val (.int p4), .val (.int p5), .val (.int nn), .val (.int ps), .val (.int ss), .val (.int lt), .val (.int t0), .val (.int t1), .val (.int t2), .val (.ref b), .val (.ref od), .val (.int vc), .val (.int r0), .val (.int r1), .val (.int (1 : Int32)), .val (.int (0 : Int32)), .val (.int r0), .val (.int r1)]) rfl ?_
            show Steps p.tables e below (T66.setTop (mkF m 452 #[.val (.int p1), .val (.int p2), .val (.int p3), .val (.int p4), .val (.int p5), .val (.int nn), .val (.int ps), .val (.int ss), .val (.int lt), .val (.int t0), .val (.int t1), .val (.int t2), .val (.ref b), .val (.ref od), .val (.int vc), .val (.int r0), .val (.int r1), .val (.int (1 : Int32)), .val (.int (0 : Int32)), .val (.int r0), .val (.int r1)] [])) _
            refine XS.iload X66.here hx rfl (hb hby at_452) rfl ?_
            exact kt)
          exact ⟨T66, _, _, X66, N66, P68⟩
        · skip
          have hc350_69 : ¬ ((1 : Int32) = (0 : Int32)) := by decide
          have hc364_70 : ¬ ((1 : Int32) = (0 : Int32)) := by decide
          obtain ⟨cq71, kq71, q71a, q71b, q71c⟩ := isOf hZ e46 c2
          obtain ⟨_, _, ⟨T71, L71, k71, n71⟩, -, X71, ⟨Lc71, hQ71, l71, y71, z71⟩, st71⟩ := X46.virtualBack hx (y := (⟨"com/example/exact_equiv/exactequiv/equivalence/IntLists", "remove", "(II)V"⟩ : MethodName)) (z := (⟨"com/example/exact_equiv/exactequiv/equivalence/IntLists", "remove", "(II)V"⟩ : MethodName)) hown (mvT hZ (hw _ (List.mem_of_getElem? (i := 28) rfl))) (mvT hZ (hw _ (List.mem_of_getElem? (i := 29) rfl))) (notFace_of_selects (args := #[]) (mvT hZ (hw _ (List.mem_of_getElem? (i := 31) rfl)))) (mvT hZ (hw _ (List.mem_of_getElem? (i := 31) rfl))) (mvT hZ (hw _ (List.mem_of_getElem? (i := 30) rfl))) (by decide) (backOf (W := 0) (rmM l Z a0 hw [] b lt r1 aF aS aN aP S1 T1.heap n0 Zs1 HIq1 hl (by rw [hS1]; exact (hG.2.2.2.2.2.2 hc289_27).1)) hZ (hw _ (List.mem_of_getElem? (i := 32) rfl)) (hw _ (List.mem_of_getElem? (i := 3) rfl)) (by decide) (by decide)) q71a q71c (g := (mkF m 382 #[.val (.int p1), .val (.int p2), .val (.int p3), .val (.int p4), .val (.int p5), .val (.int nn), .val (.int ps), .val (.int ss), .val (.int lt), .val (.int t0), .val (.int t1), .val (.int t2), .val (.ref b), .val (.ref od), .val (.int vc), .val (.int r0), .val (.int r1), .val (.int (1 : Int32)), .val (.int (1 : Int32)), .val (.int r1), .val (.int r0)] [(.int r1), (.int lt), (.ref b)])) rfl (by rw [hml]; rfl) (Steps.refl _) (argsL := [(.int lt), (.int r1)]) (rest := []) (lenOf pd_1 rfl) rfl (by show 2 * 0 + _ ≤ _; exact Nat.le_of_eq rfl) (hb hby at_382) (fun _ _ => ⟨rfl, e46, (by decide : 6 + 0 ≤ _), (by decide : 19 + 0 ≤ _)⟩)
          dsimp only [Pt.U, Pt.locs, Pt.cells, Pt.slots] at X71 l71 y71 z71 st71 hQ71
          subst l71 y71 z71
          obtain ⟨rfl, N71q, Kq71, HIq71⟩ := hQ71
          have N71 := Fr.app N46 N71q
          have c72 := c2.keep Kq71
          have Zs71 : n0 ≤ T71.heap.size := Nat.le_trans Zs1 Kq71.1
          obtain ⟨S71, hS71⟩ : ∃ z, z = own_rem S1 lt r1 := ⟨_, rfl⟩
          rw [← hS71] at HIq71
          have hc387_73 : ¬ ((1 : Int32) = (0 : Int32)) := by decide
          obtain ⟨cq74, kq74, q74a, q74b, q74c⟩ := isOf hZ rfl c72
          obtain ⟨_, _, ⟨T74, L74, k74, n74⟩, -, X74, ⟨Lc74, hQ74, l74, y74, z74⟩, st74⟩ := X71.virtualBack hx (y := (⟨"com/example/exact_equiv/exactequiv/equivalence/IntLists", "size", "(I)I"⟩ : MethodName)) (z := (⟨"com/example/exact_equiv/exactequiv/equivalence/IntLists", "size", "(I)I"⟩ : MethodName)) hown (mvT hZ (hw _ (List.mem_of_getElem? (i := 33) rfl))) (mvT hZ (hw _ (List.mem_of_getElem? (i := 34) rfl))) (notFace_of_selects (args := #[]) (mvT hZ (hw _ (List.mem_of_getElem? (i := 36) rfl)))) (mvT hZ (hw _ (List.mem_of_getElem? (i := 36) rfl))) (mvT hZ (hw _ (List.mem_of_getElem? (i := 35) rfl))) (by decide) (backOf (W := 0) (rm6 l Z a0 hw [] b lt aF aS aN aP S71 T71.heap n0 Zs71 HIq71 hl) hZ (hw _ (List.mem_of_getElem? (i := 37) rfl)) (hw _ (List.mem_of_getElem? (i := 3) rfl)) (by decide) (by decide)) q74a q74c (g := (mkF m 394 #[.val (.int p1), .val (.int p2), .val (.int p3), .val (.int p4), .val (.int p5), .val (.int nn), .val (.int ps), .val (.int ss), .val (.int lt), .val (.int t0), .val (.int t1), .val (.int t2), .val (.ref b), .val (.ref od), .val (.int vc), .val (.int r0), .val (.int r1), .val (.int (1 : Int32)), .val (.int (1 : Int32)), .val (.int r1), .val (.int r0)] [(.int lt), (.ref b)])) rfl (by rw [hml]; rfl) (Steps.refl _) (argsL := [(.int lt)]) (rest := []) (lenOf pd_2 rfl) rfl (by show 2 * 0 + _ ≤ _; exact Nat.le_of_eq rfl) (hb hby at_394) (fun _ _ => ⟨rfl, rfl, (by decide : 6 + 0 ≤ _), (by decide : 19 + 0 ≤ _)⟩)
          dsimp only [Pt.U, Pt.locs, Pt.cells, Pt.slots] at X74 l74 y74 z74 st74 hQ74
          subst l74 y74 z74
          obtain ⟨rfl, N74q, e74⟩ := hQ74
          have N74 := Fr.app N71 N74q
          have hc401_75 : (S71.2.1 lt) = (nn - (2 : Int32)) := by rw [hS71, hS1]; exact (hG.2.2.2.2.2.2 hc289_27).2.1
          obtain ⟨cq76, kq76, q76a, q76b, q76c⟩ := isOf hZ e74 c72
          obtain ⟨_, _, ⟨T76, L76, k76, n76⟩, -, X76, ⟨Lc76, hQ76, l76, y76, z76⟩, st76⟩ := X74.virtualBack hx (y := (⟨"com/example/exact_equiv/exactequiv/equivalence/IntLists", "first", "(I)I"⟩ : MethodName)) (z := (⟨"com/example/exact_equiv/exactequiv/equivalence/IntLists", "first", "(I)I"⟩ : MethodName)) hown (mvT hZ (hw _ (List.mem_of_getElem? (i := 38) rfl))) (mvT hZ (hw _ (List.mem_of_getElem? (i := 39) rfl))) (notFace_of_selects (args := #[]) (mvT hZ (hw _ (List.mem_of_getElem? (i := 41) rfl)))) (mvT hZ (hw _ (List.mem_of_getElem? (i := 41) rfl))) (mvT hZ (hw _ (List.mem_of_getElem? (i := 40) rfl))) (by decide) (backOf (W := 0) (rm7 l Z a0 hw [] b lt aF aS aN aP S71 T71.heap n0 Zs71 HIq71 hl) hZ (hw _ (List.mem_of_getElem? (i := 42) rfl)) (hw _ (List.mem_of_getElem? (i := 3) rfl)) (by decide) (by decide)) q76a q76c (g := (mkF m 408 #[.val (.int p1), .val (.int p2), .val (.int p3), .val (.int p4), .val (.int p5), .val (.int nn), .val (.int ps), .val (.int ss), .val (.int lt), .val (.int t0), .val (.int t1), .val (.int t2), .val (.ref b), .val (.ref od), .val (.int vc), .val (.int r0), .val (.int r1), .val (.int (1 : Int32)), .val (.int (1 : Int32)), .val (.int r1), .val (.int r0)] [(.int lt), (.ref b)])) rfl (by rw [hml]; rfl) (Steps.refl _) (argsL := [(.int lt)]) (rest := []) (lenOf pd_2 rfl) rfl (by show 2 * 0 + _ ≤ _; exact Nat.le_of_eq rfl) (hb hby at_408) (fun _ _ => ⟨rfl, e74, (by decide : 6 + 0 ≤ _), (by decide : 19 + 0 ≤ _)⟩)
          dsimp only [Pt.U, Pt.locs, Pt.cells, Pt.slots] at X76 l76 y76 z76 st76 hQ76
          subst l76 y76 z76
          obtain ⟨rfl, N76q, e76⟩ := hQ76
          have N76 := Fr.app N74 N76q
          have hc413_77 : (S71.1 lt) = r0 := by rw [hS71, hS1]; exact (hG.2.2.2.2.2.2 hc289_27).2.2.1
          have hc426_78 : ¬ (r0 = (-1 : Int32)) := hc259_7
          have hc431_79 : ¬ ((1 : Int32) = (0 : Int32)) := by decide
          obtain ⟨cq80, kq80, q80a, q80b, q80c⟩ := isOf hZ e76 c72
          obtain ⟨_, _, ⟨T80, L80, k80, n80⟩, -, X80, ⟨Lc80, hQ80, l80, y80, z80⟩, st80⟩ := X76.virtualBack hx (y := (⟨"com/example/exact_equiv/exactequiv/equivalence/IntLists", "next", "(I)I"⟩ : MethodName)) (z := (⟨"com/example/exact_equiv/exactequiv/equivalence/IntLists", "next", "(I)I"⟩ : MethodName)) hown (mvT hZ (hw _ (List.mem_of_getElem? (i := 43) rfl))) (mvT hZ (hw _ (List.mem_of_getElem? (i := 44) rfl))) (notFace_of_selects (args := #[]) (mvT hZ (hw _ (List.mem_of_getElem? (i := 46) rfl)))) (mvT hZ (hw _ (List.mem_of_getElem? (i := 46) rfl))) (mvT hZ (hw _ (List.mem_of_getElem? (i := 45) rfl))) (by decide) (backOf (W := 0) (rm8 l Z a0 hw [] b r0 aF aS aN aP S71 T71.heap n0 Zs71 HIq71 (((hG.2.2.2.2.2.2 hc289_27).2.2.2.resolve_left hc259_7).1)) hZ (hw _ (List.mem_of_getElem? (i := 47) rfl)) (hw _ (List.mem_of_getElem? (i := 3) rfl)) (by decide) (by decide)) q80a q80c (g := (mkF m 438 #[.val (.int p1), .val (.int p2), .val (.int p3), .val (.int p4), .val (.int p5), .val (.int nn), .val (.int ps), .val (.int ss), .val (.int lt), .val (.int t0), .val (.int t1), .val (.int t2), .val (.ref b), .val (.ref od), .val (.int vc), .val (.int r0), .val (.int r1), .val (.int (1 : Int32)), .val (.int (1 : Int32)), .val (.int r1), .val (.int r0)] [(.int r0), (.ref b)])) rfl (by rw [hml]; rfl) (Steps.refl _) (argsL := [(.int r0)]) (rest := []) (lenOf pd_2 rfl) rfl (by show 2 * 0 + _ ≤ _; exact Nat.le_of_eq rfl) (hb hby at_438) (fun _ _ => ⟨rfl, e76, (by decide : 6 + 0 ≤ _), (by decide : 19 + 0 ≤ _)⟩)
          dsimp only [Pt.U, Pt.locs, Pt.cells, Pt.slots] at X80 l80 y80 z80 st80 hQ80
          subst l80 y80 z80
          obtain ⟨rfl, N80q, e80⟩ := hQ80
          have N80 := Fr.app N76 N80q
          have hc442_81 : (S71.2.2.1 r0) = (-1 : Int32) := by rw [hS71, hS1]; exact ((hG.2.2.2.2.2.2 hc289_27).2.2.2.resolve_left hc259_7).2
          have P82 : ∀ t, Steps p.tables e below (T80.setTop (mkF m 454 #[.val (.int p1), .val (.int p2), .val (.int p3), .val (.int p4), .val (.int p5), .val (.int nn), .val (.int ps), .val (.int ss), .val (.int lt), .val (.int t0), .val (.int t1), .val (.int t2), .val (.ref b), .val (.ref od), .val (.int vc), .val (.int r0), .val (.int r1), .val (.int (1 : Int32)), .val (.int (1 : Int32)), .val (.int r1), .val (.int r0)] [(.int (1 : Int32))])) t → Steps p.tables e below (T0.setTop (mkF m 214 #[.val (.int p1), .val (.int p2), .val (.int p3), .val (.int p4), .val (.int p5), .val (.int nn), .val (.int ps), .val (.int ss), .val (.int lt), .val (.int t0), .val (.int t1), .val (.int t2), .val (.ref b), .val (.ref od), .val (.int vc), .val (.int r0), .val (.int r1), .unset, .unset, .unset, .unset] [])) t := fun t kt => P54 t (by
            show Steps p.tables e below (T46.setTop (mkF m 338 #[.val (.int p1), .val (.int p2), .val (.int p3), .val (.int p4), .val (.int p5), .val (.int nn), .val (.int ps), .val (.int ss), .val (.int lt), .val (.int t0), .val (.int t1), .val (.int t2), .val (.ref b), .val (.ref od), .val (.int vc), .val (.int r0), .val (.int r1), .val (.int (1 : Int32)), .unset, .unset, .unset] [(.int (p5 &&& (2 : Int32)))])) _
            refine XS.ifNo X46.here hx rfl (hb hby at_338) rfl (XT.i0_eq_f hc338_53) ?_
            show Steps p.tables e below (T46.setTop (mkF m 341 #[.val (.int p1), .val (.int p2), .val (.int p3), .val (.int p4), .val (.int p5), .val (.int nn), .val (.int ps), .val (.int ss), .val (.int lt), .val (.int t0), .val (.int t1), .val (.int t2), .val (.ref b), .val (.ref od), .val (.int vc), .val (.int r0), .val (.int r1), .val (.int (1 : Int32)), .unset, .unset, .unset] [])) _
            refine XS.iconst X46.here hx rfl (hb hby at_341) ?_
            show Steps p.tables e below (T46.setTop (mkF m 342 #[.val (.int p1), .val (.int p2), .val (.int p3), .val (.int p4), .val (.int p5), .val (.int nn), .val (.int ps), .val (.int ss), .val (.int lt), .val (.int t0), .val (.int t1), .val (.int t2), .val (.ref b), .val (.ref od), .val (.int vc), .val (.int r0), .val (.int r1), .val (.int (1 : Int32)), .unset, .unset, .unset] [(.int (1 : Int32))])) _
            refine XS.goto X46.here hx rfl (pc0 := 342) (pc' := 346) rfl (hb hby at_342) (by decide) (by decide) ?_
            show Steps p.tables e below (T46.setTop (mkF m 346 #[.val (.int p1), .val (.int p2), .val (.int p3), .val (.int p4), .val (.int p5), .val (.int nn), .val (.int ps), .val (.int ss), .val (.int lt), .val (.int t0), .val (.int t1), .val (.int t2), .val (.ref b), .val (.ref od), .val (.int vc), .val (.int r0), .val (.int r1), .val (.int (1 : Int32)), .unset, .unset, .unset] [(.int (1 : Int32))])) _
            refine XS.istore X46.here hx rfl (hb hby at_346) rfl (l' := #[.val (.int p1), .val (.int p2), .val (.int p3), .val (.int p4), .val (.int p5), .val (.int nn), .val (.int ps), .val (.int ss), .val (.int lt), .val (.int t0), .val (.int t1), .val (.int t2), .val (.ref b), .val (.ref od), .val (.int vc), .val (.int r0), .val (.int r1), .val (.int (1 : Int32)), .val (.int (1 : Int32)), .unset, .unset]) rfl ?_
            show Steps p.tables e below (T46.setTop (mkF m 348 #[.val (.int p1), .val (.int p2), .val (.int p3), .val (.int p4), .val (.int p5), .val (.int nn), .val (.int ps), .val (.int ss), .val (.int lt), .val (.int t0), .val (.int t1), .val (.int t2), .val (.ref b), .val (.ref od), .val (.int vc), .val (.int r0), .val (.int r1), .val (.int (1 : Int32)), .val (.int (1 : Int32)), .unset, .unset] [])) _
            refine XS.iload X46.here hx rfl (hb hby at_348) rfl ?_
            show Steps p.tables e below (T46.setTop (mkF m 350 #[.val (.int p1), .val (.int p2), .val (.int p3), .val (.int p4), .val (.int p5), .val (.int nn), .val (.int ps), .val (.int ss), .val (.int lt), .val (.int t0), .val (.int t1), .val (.int t2), .val (.ref b), .val (.ref od), .val (.int vc), .val (.int r0), .val (.int r1), .val (.int (1 : Int32)), .val (.int (1 : Int32)), .unset, .unset] [(.int (1 : Int32))])) _
            refine XS.ifNo X46.here hx rfl (hb hby at_350) rfl (XT.i0_eq_f hc350_69) ?_
            show Steps p.tables e below (T46.setTop (mkF m 353 #[.val (.int p1), .val (.int p2), .val (.int p3), .val (.int p4), .val (.int p5), .val (.int nn), .val (.int ps), .val (.int ss), .val (.int lt), .val (.int t0), .val (.int t1), .val (.int t2), .val (.ref b), .val (.ref od), .val (.int vc), .val (.int r0), .val (.int r1), .val (.int (1 : Int32)), .val (.int (1 : Int32)), .unset, .unset] [])) _
            refine XS.iload X46.here hx rfl (hb hby at_353) rfl ?_
            show Steps p.tables e below (T46.setTop (mkF m 355 #[.val (.int p1), .val (.int p2), .val (.int p3), .val (.int p4), .val (.int p5), .val (.int nn), .val (.int ps), .val (.int ss), .val (.int lt), .val (.int t0), .val (.int t1), .val (.int t2), .val (.ref b), .val (.ref od), .val (.int vc), .val (.int r0), .val (.int r1), .val (.int (1 : Int32)), .val (.int (1 : Int32)), .unset, .unset] [(.int r1)])) _
            refine XS.goto X46.here hx rfl (pc0 := 355) (pc' := 360) rfl (hb hby at_355) (by decide) (by decide) ?_
            show Steps p.tables e below (T46.setTop (mkF m 360 #[.val (.int p1), .val (.int p2), .val (.int p3), .val (.int p4), .val (.int p5), .val (.int nn), .val (.int ps), .val (.int ss), .val (.int lt), .val (.int t0), .val (.int t1), .val (.int t2), .val (.ref b), .val (.ref od), .val (.int vc), .val (.int r0), .val (.int r1), .val (.int (1 : Int32)), .val (.int (1 : Int32)), .unset, .unset] [(.int r1)])) _
            refine XS.istore X46.here hx rfl (hb hby at_360) rfl (l' := #[.val (.int p1), .val (.int p2), .val (.int p3), .val (.int p4), .val (.int p5), .val (.int nn), .val (.int ps), .val (.int ss), .val (.int lt), .val (.int t0), .val (.int t1), .val (.int t2), .val (.ref b), .val (.ref od), .val (.int vc), .val (.int r0), .val (.int r1), .val (.int (1 : Int32)), .val (.int (1 : Int32)), .val (.int r1), .unset]) rfl ?_
            show Steps p.tables e below (T46.setTop (mkF m 362 #[.val (.int p1), .val (.int p2), .val (.int p3), .val (.int p4), .val (.int p5), .val (.int nn), .val (.int ps), .val (.int ss), .val (.int lt), .val (.int t0), .val (.int t1), .val (.int t2), .val (.ref b), .val (.ref od), .val (.int vc), .val (.int r0), .val (.int r1), .val (.int (1 : Int32)), .val (.int (1 : Int32)), .val (.int r1), .unset] [])) _
            refine XS.iload X46.here hx rfl (hb hby at_362) rfl ?_
            show Steps p.tables e below (T46.setTop (mkF m 364 #[.val (.int p1), .val (.int p2), .val (.int p3), .val (.int p4), .val (.int p5), .val (.int nn), .val (.int ps), .val (.int ss), .val (.int lt), .val (.int t0), .val (.int t1), .val (.int t2), .val (.ref b), .val (.ref od), .val (.int vc), .val (.int r0), .val (.int r1), .val (.int (1 : Int32)), .val (.int (1 : Int32)), .val (.int r1), .unset] [(.int (1 : Int32))])) _
            refine XS.ifNo X46.here hx rfl (hb hby at_364) rfl (XT.i0_eq_f hc364_70) ?_
            show Steps p.tables e below (T46.setTop (mkF m 367 #[.val (.int p1), .val (.int p2), .val (.int p3), .val (.int p4), .val (.int p5), .val (.int nn), .val (.int ps), .val (.int ss), .val (.int lt), .val (.int t0), .val (.int t1), .val (.int t2), .val (.ref b), .val (.ref od), .val (.int vc), .val (.int r0), .val (.int r1), .val (.int (1 : Int32)), .val (.int (1 : Int32)), .val (.int r1), .unset] [])) _
            refine XS.iload X46.here hx rfl (hb hby at_367) rfl ?_
            show Steps p.tables e below (T46.setTop (mkF m 369 #[.val (.int p1), .val (.int p2), .val (.int p3), .val (.int p4), .val (.int p5), .val (.int nn), .val (.int ps), .val (.int ss), .val (.int lt), .val (.int t0), .val (.int t1), .val (.int t2), .val (.ref b), .val (.ref od), .val (.int vc), .val (.int r0), .val (.int r1), .val (.int (1 : Int32)), .val (.int (1 : Int32)), .val (.int r1), .unset] [(.int r0)])) _
            refine XS.goto X46.here hx rfl (pc0 := 369) (pc' := 374) rfl (hb hby at_369) (by decide) (by decide) ?_
            show Steps p.tables e below (T46.setTop (mkF m 374 #[.val (.int p1), .val (.int p2), .val (.int p3), .val (.int p4), .val (.int p5), .val (.int nn), .val (.int ps), .val (.int ss), .val (.int lt), .val (.int t0), .val (.int t1), .val (.int t2), .val (.ref b), .val (.ref od), .val (.int vc), .val (.int r0), .val (.int r1), .val (.int (1 : Int32)), .val (.int (1 : Int32)), .val (.int r1), .unset] [(.int r0)])) _
            refine XS.istore X46.here hx rfl (hb hby at_374) rfl (l' := #[.val (.int p1), .val (.int p2), .val (.int p3), .val (.int p4), .val (.int p5), .val (.int nn), .val (.int ps), .val (.int ss), .val (.int lt), .val (.int t0), .val (.int t1), .val (.int t2), .val (.ref b), .val (.ref od), .val (.int vc), .val (.int r0), .val (.int r1), .val (.int (1 : Int32)), .val (.int (1 : Int32)), .val (.int r1), .val (.int r0)]) rfl ?_
            show Steps p.tables e below (T46.setTop (mkF m 376 #[.val (.int p1), .val (.int p2), .val (.int p3), .val (.int p4), .val (.int p5), .val (.int nn), .val (.int ps), .val (.int ss), .val (.int lt), .val (.int t0), .val (.int t1), .val (.int t2), .val (.ref b), .val (.ref od), .val (.int vc), .val (.int r0), .val (.int r1), .val (.int (1 : Int32)), .val (.int (1 : Int32)), .val (.int r1), .val (.int r0)] [])) _
            refine XS.aload X46.here hx rfl (hb hby at_376) rfl rfl ?_
            show Steps p.tables e below (T46.setTop (mkF m 378 #[.val (.int p1), .val (.int p2), .val (.int p3), .val (.int p4), .val (.int p5), .val (.int nn), .val (.int ps), .val (.int ss), .val (.int lt), .val (.int t0), .val (.int t1), .val (.int t2), .val (.ref b), .val (.ref od), .val (.int vc), .val (.int r0), .val (.int r1), .val (.int (1 : Int32)), .val (.int (1 : Int32)), .val (.int r1), .val (.int r0)] [(.ref b)])) _
            refine XS.iload X46.here hx rfl (hb hby at_378) rfl ?_
            show Steps p.tables e below (T46.setTop (mkF m 380 #[.val (.int p1), .val (.int p2), .val (.int p3), .val (.int p4), .val (.int p5), .val (.int nn), .val (.int ps), .val (.int ss), .val (.int lt), .val (.int t0), .val (.int t1), .val (.int t2), .val (.ref b), .val (.ref od), .val (.int vc), .val (.int r0), .val (.int r1), .val (.int (1 : Int32)), .val (.int (1 : Int32)), .val (.int r1), .val (.int r0)] [(.int lt), (.ref b)])) _
            refine XS.iload X46.here hx rfl (hb hby at_380) rfl ?_
            show Steps p.tables e below (T46.setTop (mkF m 382 #[.val (.int p1), .val (.int p2), .val (.int p3), .val (.int p4), .val (.int p5), .val (.int nn), .val (.int ps), .val (.int ss), .val (.int lt), .val (.int t0), .val (.int t1), .val (.int t2), .val (.ref b), .val (.ref od), .val (.int vc), .val (.int r0), .val (.int r1), .val (.int (1 : Int32)), .val (.int (1 : Int32)), .val (.int r1), .val (.int r0)] [(.int r1), (.int lt), (.ref b)])) _
            refine st71.trans ?_
            show Steps p.tables e below (T71.setTop (mkF m 385 #[.val (.int p1), .val (.int p2), .val (.int p3), .val (.int p4), .val (.int p5), .val (.int nn), .val (.int ps), .val (.int ss), .val (.int lt), .val (.int t0), .val (.int t1), .val (.int t2), .val (.ref b), .val (.ref od), .val (.int vc), .val (.int r0), .val (.int r1), .val (.int (1 : Int32)), .val (.int (1 : Int32)), .val (.int r1), .val (.int r0)] [])) _
            refine XS.iload X71.here hx rfl (hb hby at_385) rfl ?_
            show Steps p.tables e below (T71.setTop (mkF m 387 #[.val (.int p1), .val (.int p2), .val (.int p3), .val (.int p4), .val (.int p5), .val (.int nn), .val (.int ps), .val (.int ss), .val (.int lt), .val (.int t0), .val (.int t1), .val (.int t2), .val (.ref b), .val (.ref od), .val (.int vc), .val (.int r0), .val (.int r1), .val (.int (1 : Int32)), .val (.int (1 : Int32)), .val (.int r1), .val (.int r0)] [(.int (1 : Int32))])) _
            refine XS.ifNo X71.here hx rfl (hb hby at_387) rfl (XT.i0_eq_f hc387_73) ?_
            show Steps p.tables e below (T71.setTop (mkF m 390 #[.val (.int p1), .val (.int p2), .val (.int p3), .val (.int p4), .val (.int p5), .val (.int nn), .val (.int ps), .val (.int ss), .val (.int lt), .val (.int t0), .val (.int t1), .val (.int t2), .val (.ref b), .val (.ref od), .val (.int vc), .val (.int r0), .val (.int r1), .val (.int (1 : Int32)), .val (.int (1 : Int32)), .val (.int r1), .val (.int r0)] [])) _
            refine XS.aload X71.here hx rfl (hb hby at_390) rfl rfl ?_
            show Steps p.tables e below (T71.setTop (mkF m 392 #[.val (.int p1), .val (.int p2), .val (.int p3), .val (.int p4), .val (.int p5), .val (.int nn), .val (.int ps), .val (.int ss), .val (.int lt), .val (.int t0), .val (.int t1), .val (.int t2), .val (.ref b), .val (.ref od), .val (.int vc), .val (.int r0), .val (.int r1), .val (.int (1 : Int32)), .val (.int (1 : Int32)), .val (.int r1), .val (.int r0)] [(.ref b)])) _
            refine XS.iload X71.here hx rfl (hb hby at_392) rfl ?_
            show Steps p.tables e below (T71.setTop (mkF m 394 #[.val (.int p1), .val (.int p2), .val (.int p3), .val (.int p4), .val (.int p5), .val (.int nn), .val (.int ps), .val (.int ss), .val (.int lt), .val (.int t0), .val (.int t1), .val (.int t2), .val (.ref b), .val (.ref od), .val (.int vc), .val (.int r0), .val (.int r1), .val (.int (1 : Int32)), .val (.int (1 : Int32)), .val (.int r1), .val (.int r0)] [(.int lt), (.ref b)])) _
            refine st74.trans ?_
            show Steps p.tables e below (T74.setTop (mkF m 397 #[.val (.int p1), .val (.int p2), .val (.int p3), .val (.int p4), .val (.int p5), .val (.int nn), .val (.int ps), .val (.int ss), .val (.int lt), .val (.int t0), .val (.int t1), .val (.int t2), .val (.ref b), .val (.ref od), .val (.int vc), .val (.int r0), .val (.int r1), .val (.int (1 : Int32)), .val (.int (1 : Int32)), .val (.int r1), .val (.int r0)] [(.int (S71.2.1 lt))])) _
            refine XS.iload X74.here hx rfl (hb hby at_397) rfl ?_
            show Steps p.tables e below (T74.setTop (mkF m 399 #[.val (.int p1), .val (.int p2), .val (.int p3), .val (.int p4), .val (.int p5), .val (.int nn), .val (.int ps), .val (.int ss), .val (.int lt), .val (.int t0), .val (.int t1), .val (.int t2), .val (.ref b), .val (.ref od), .val (.int vc), .val (.int r0), .val (.int r1), .val (.int (1 : Int32)), .val (.int (1 : Int32)), .val (.int r1), .val (.int r0)] [(.int nn), (.int (S71.2.1 lt))])) _
            refine XS.iconst X74.here hx rfl (hb hby at_399) ?_
            show Steps p.tables e below (T74.setTop (mkF m 400 #[.val (.int p1), .val (.int p2), .val (.int p3), .val (.int p4), .val (.int p5), .val (.int nn), .val (.int ps), .val (.int ss), .val (.int lt), .val (.int t0), .val (.int t1), .val (.int t2), .val (.ref b), .val (.ref od), .val (.int vc), .val (.int r0), .val (.int r1), .val (.int (1 : Int32)), .val (.int (1 : Int32)), .val (.int r1), .val (.int r0)] [(.int (2 : Int32)), (.int nn), (.int (S71.2.1 lt))])) _
            refine XS.isub X74.here hx rfl (hb hby at_400) rfl ?_
            show Steps p.tables e below (T74.setTop (mkF m 401 #[.val (.int p1), .val (.int p2), .val (.int p3), .val (.int p4), .val (.int p5), .val (.int nn), .val (.int ps), .val (.int ss), .val (.int lt), .val (.int t0), .val (.int t1), .val (.int t2), .val (.ref b), .val (.ref od), .val (.int vc), .val (.int r0), .val (.int r1), .val (.int (1 : Int32)), .val (.int (1 : Int32)), .val (.int r1), .val (.int r0)] [(.int (nn - (2 : Int32))), (.int (S71.2.1 lt))])) _
            refine XS.icmpNo X74.here hx rfl (hb hby at_401) rfl (XT.ii_ne_f hc401_75) ?_
            show Steps p.tables e below (T74.setTop (mkF m 404 #[.val (.int p1), .val (.int p2), .val (.int p3), .val (.int p4), .val (.int p5), .val (.int nn), .val (.int ps), .val (.int ss), .val (.int lt), .val (.int t0), .val (.int t1), .val (.int t2), .val (.ref b), .val (.ref od), .val (.int vc), .val (.int r0), .val (.int r1), .val (.int (1 : Int32)), .val (.int (1 : Int32)), .val (.int r1), .val (.int r0)] [])) _
            refine XS.aload X74.here hx rfl (hb hby at_404) rfl rfl ?_
            show Steps p.tables e below (T74.setTop (mkF m 406 #[.val (.int p1), .val (.int p2), .val (.int p3), .val (.int p4), .val (.int p5), .val (.int nn), .val (.int ps), .val (.int ss), .val (.int lt), .val (.int t0), .val (.int t1), .val (.int t2), .val (.ref b), .val (.ref od), .val (.int vc), .val (.int r0), .val (.int r1), .val (.int (1 : Int32)), .val (.int (1 : Int32)), .val (.int r1), .val (.int r0)] [(.ref b)])) _
            refine XS.iload X74.here hx rfl (hb hby at_406) rfl ?_
            show Steps p.tables e below (T74.setTop (mkF m 408 #[.val (.int p1), .val (.int p2), .val (.int p3), .val (.int p4), .val (.int p5), .val (.int nn), .val (.int ps), .val (.int ss), .val (.int lt), .val (.int t0), .val (.int t1), .val (.int t2), .val (.ref b), .val (.ref od), .val (.int vc), .val (.int r0), .val (.int r1), .val (.int (1 : Int32)), .val (.int (1 : Int32)), .val (.int r1), .val (.int r0)] [(.int lt), (.ref b)])) _
            refine st76.trans ?_
            show Steps p.tables e below (T76.setTop (mkF m 411 #[.val (.int p1), .val (.int p2), .val (.int p3), .val (.int p4), .val (.int p5), .val (.int nn), .val (.int ps), .val (.int ss), .val (.int lt), .val (.int t0), .val (.int t1), .val (.int t2), .val (.ref b), .val (.ref od), .val (.int vc), .val (.int r0), .val (.int r1), .val (.int (1 : Int32)), .val (.int (1 : Int32)), .val (.int r1), .val (.int r0)] [(.int (S71.1 lt))])) _
            refine XS.iload X76.here hx rfl (hb hby at_411) rfl ?_
            show Steps p.tables e below (T76.setTop (mkF m 413 #[.val (.int p1), .val (.int p2), .val (.int p3), .val (.int p4), .val (.int p5), .val (.int nn), .val (.int ps), .val (.int ss), .val (.int lt), .val (.int t0), .val (.int t1), .val (.int t2), .val (.ref b), .val (.ref od), .val (.int vc), .val (.int r0), .val (.int r1), .val (.int (1 : Int32)), .val (.int (1 : Int32)), .val (.int r1), .val (.int r0)] [(.int r0), (.int (S71.1 lt))])) _
            refine XS.icmpNo X76.here hx rfl (hb hby at_413) rfl (XT.ii_ne_f hc413_77) ?_
            show Steps p.tables e below (T76.setTop (mkF m 416 #[.val (.int p1), .val (.int p2), .val (.int p3), .val (.int p4), .val (.int p5), .val (.int nn), .val (.int ps), .val (.int ss), .val (.int lt), .val (.int t0), .val (.int t1), .val (.int t2), .val (.ref b), .val (.ref od), .val (.int vc), .val (.int r0), .val (.int r1), .val (.int (1 : Int32)), .val (.int (1 : Int32)), .val (.int r1), .val (.int r0)] [])) _
            refine XS.iconst X76.here hx rfl (hb hby at_416) ?_
            show Steps p.tables e below (T76.setTop (mkF m 417 #[.val (.int p1), .val (.int p2), .val (.int p3), .val (.int p4), .val (.int p5), .val (.int nn), .val (.int ps), .val (.int ss), .val (.int lt), .val (.int t0), .val (.int t1), .val (.int t2), .val (.ref b), .val (.ref od), .val (.int vc), .val (.int r0), .val (.int r1), .val (.int (1 : Int32)), .val (.int (1 : Int32)), .val (.int r1), .val (.int r0)] [(.int (1 : Int32))])) _
            refine XS.goto X76.here hx rfl (pc0 := 417) (pc' := 421) rfl (hb hby at_417) (by decide) (by decide) ?_
            show Steps p.tables e below (T76.setTop (mkF m 421 #[.val (.int p1), .val (.int p2), .val (.int p3), .val (.int p4), .val (.int p5), .val (.int nn), .val (.int ps), .val (.int ss), .val (.int lt), .val (.int t0), .val (.int t1), .val (.int t2), .val (.ref b), .val (.ref od), .val (.int vc), .val (.int r0), .val (.int r1), .val (.int (1 : Int32)), .val (.int (1 : Int32)), .val (.int r1), .val (.int r0)] [(.int (1 : Int32))])) _
            refine XS.istore X76.here hx rfl (hb hby at_421) rfl (l' := #[.val (.int p1), .val (.int p2), .val (.int p3), .val (.int p4), .val (.int p5), .val (.int nn), .val (.int ps), .val (.int ss), .val (.int lt), .val (.int t0), .val (.int t1), .val (.int t2), .val (.ref b), .val (.ref od), .val (.int vc), .val (.int r0), .val (.int r1), .val (.int (1 : Int32)), .val (.int (1 : Int32)), .val (.int r1), .val (.int r0)]) rfl ?_
            show Steps p.tables e below (T76.setTop (mkF m 423 #[.val (.int p1), .val (.int p2), .val (.int p3), .val (.int p4), .val (.int p5), .val (.int nn), .val (.int ps), .val (.int ss), .val (.int lt), .val (.int t0), .val (.int t1), .val (.int t2), .val (.ref b), .val (.ref od), .val (.int vc), .val (.int r0), .val (.int r1), .val (.int (1 : Int32)), .val (.int (1 : Int32)), .val (.int r1), .val (.int r0)] [])) _
            refine XS.iload X76.here hx rfl (hb hby at_423) rfl ?_
            show Steps p.tables e below (T76.setTop (mkF m 425 #[.val (.int p1), .val (.int p2), .val (.int p3), .val (.int p4), .val (.int p5), .val (.int nn), .val (.int ps), .val (.int ss), .val (.int lt), .val (.int t0), .val (.int t1), .val (.int t2), .val (.ref b), .val (.ref od), .val (.int vc), .val (.int r0), .val (.int r1), .val (.int (1 : Int32)), .val (.int (1 : Int32)), .val (.int r1), .val (.int r0)] [(.int r0)])) _
            refine XS.iconst X76.here hx rfl (hb hby at_425) ?_
            show Steps p.tables e below (T76.setTop (mkF m 426 #[.val (.int p1), .val (.int p2), .val (.int p3), .val (.int p4), .val (.int p5), .val (.int nn), .val (.int ps), .val (.int ss), .val (.int lt), .val (.int t0), .val (.int t1), .val (.int t2), .val (.ref b), .val (.ref od), .val (.int vc), .val (.int r0), .val (.int r1), .val (.int (1 : Int32)), .val (.int (1 : Int32)), .val (.int r1), .val (.int r0)] [(.int (-1 : Int32)), (.int r0)])) _
            refine XS.icmpNo X76.here hx rfl (hb hby at_426) rfl (XT.ii_eq_f hc426_78) ?_
            show Steps p.tables e below (T76.setTop (mkF m 429 #[.val (.int p1), .val (.int p2), .val (.int p3), .val (.int p4), .val (.int p5), .val (.int nn), .val (.int ps), .val (.int ss), .val (.int lt), .val (.int t0), .val (.int t1), .val (.int t2), .val (.ref b), .val (.ref od), .val (.int vc), .val (.int r0), .val (.int r1), .val (.int (1 : Int32)), .val (.int (1 : Int32)), .val (.int r1), .val (.int r0)] [])) _
            refine XS.iload X76.here hx rfl (hb hby at_429) rfl ?_
            show Steps p.tables e below (T76.setTop (mkF m 431 #[.val (.int p1), .val (.int p2), .val (.int p3), .val (.int p4), .val (.int p5), .val (.int nn), .val (.int ps), .val (.int ss), .val (.int lt), .val (.int t0), .val (.int t1), .val (.int t2), .val (.ref b), .val (.ref od), .val (.int vc), .val (.int r0), .val (.int r1), .val (.int (1 : Int32)), .val (.int (1 : Int32)), .val (.int r1), .val (.int r0)] [(.int (1 : Int32))])) _
            refine XS.ifNo X76.here hx rfl (hb hby at_431) rfl (XT.i0_eq_f hc431_79) ?_
            show Steps p.tables e below (T76.setTop (mkF m 434 #[.val (.int p1), .val (.int p2), .val (.int p3), .val (.int p4), .val (.int p5), .val (.int nn), .val (.int ps), .val (.int ss), .val (.int lt), .val (.int t0), .val (.int t1), .val (.int t2), .val (.ref b), .val (.ref od), .val (.int vc), .val (.int r0), .val (.int r1), .val (.int (1 : Int32)), .val (.int (1 : Int32)), .val (.int r1), .val (.int r0)] [])) _
            refine XS.aload X76.here hx rfl (hb hby at_434) rfl rfl ?_
            show Steps p.tables e below (T76.setTop (mkF m 436 #[.val (.int p1), .val (.int p2), .val (.int p3), .val (.int p4), .val (.int p5), .val (.int nn), .val (.int ps), .val (.int ss), .val (.int lt), .val (.int t0), .val (.int t1), .val (.int t2), .val (.ref b), .val (.ref od), .val (.int vc), .val (.int r0), .val (.int r1), .val (.int (1 : Int32)), .val (.int (1 : Int32)), .val (.int r1), .val (.int r0)] [(.ref b)])) _
            refine XS.iload X76.here hx rfl (hb hby at_436) rfl ?_
            show Steps p.tables e below (T76.setTop (mkF m 438 #[.val (.int p1), .val (.int p2), .val (.int p3), .val (.int p4), .val (.int p5), .val (.int nn), .val (.int ps), .val (.int ss), .val (.int lt), .val (.int t0), .val (.int t1), .val (.int t2), .val (.ref b), .val (.ref od), .val (.int vc), .val (.int r0), .val (.int r1), .val (.int (1 : Int32)), .val (.int (1 : Int32)), .val (.int r1), .val (.int r0)] [(.int r0), (.ref b)])) _
            refine st80.trans ?_
            show Steps p.tables e below (T80.setTop (mkF m 441 #[.val (.int p1), .val (.int p2), .val (.int p3), .val (.int p4), .val (.int p5), .val (.int nn), .val (.int ps), .val (.int ss), .val (.int lt), .val (.int t0), .val (.int t1), .val (.int t2), .val (.ref b), .val (.ref od), .val (.int vc), .val (.int r0), .val (.int r1), .val (.int (1 : Int32)), .val (.int (1 : Int32)), .val (.int r1), .val (.int r0)] [(.int (S71.2.2.1 r0))])) _
            refine XS.iconst X80.here hx rfl (hb hby at_441) ?_
            show Steps p.tables e below (T80.setTop (mkF m 442 #[.val (.int p1), .val (.int p2), .val (.int p3), .val (.int p4), .val (.int p5), .val (.int nn), .val (.int ps), .val (.int ss), .val (.int lt), .val (.int t0), .val (.int t1), .val (.int t2), .val (.ref b), .val (.ref od), .val (.int vc), .val (.int r0), .val (.int r1), .val (.int (1 : Int32)), .val (.int (1 : Int32)), .val (.int r1), .val (.int r0)] [(.int (-1 : Int32)), (.int (S71.2.2.1 r0))])) _
            refine XS.icmpNo X80.here hx rfl (hb hby at_442) rfl (XT.ii_ne_f hc442_81) ?_
            show Steps p.tables e below (T80.setTop (mkF m 445 #[.val (.int p1), .val (.int p2), .val (.int p3), .val (.int p4), .val (.int p5), .val (.int nn), .val (.int ps), .val (.int ss), .val (.int lt), .val (.int t0), .val (.int t1), .val (.int t2), .val (.ref b), .val (.ref od), .val (.int vc), .val (.int r0), .val (.int r1), .val (.int (1 : Int32)), .val (.int (1 : Int32)), .val (.int r1), .val (.int r0)] [])) _
            refine XS.iconst X80.here hx rfl (hb hby at_445) ?_
            show Steps p.tables e below (T80.setTop (mkF m 446 #[.val (.int p1), .val (.int p2), .val (.int p3), .val (.int p4), .val (.int p5), .val (.int nn), .val (.int ps), .val (.int ss), .val (.int lt), .val (.int t0), .val (.int t1), .val (.int t2), .val (.ref b), .val (.ref od), .val (.int vc), .val (.int r0), .val (.int r1), .val (.int (1 : Int32)), .val (.int (1 : Int32)), .val (.int r1), .val (.int r0)] [(.int (1 : Int32))])) _
            refine XS.goto X80.here hx rfl (pc0 := 446) (pc' := 450) rfl (hb hby at_446) (by decide) (by decide) ?_
            show Steps p.tables e below (T80.setTop (mkF m 450 #[.val (.int p1), .val (.int p2), .val (.int p3), .val (.int p4), .val (.int p5), .val (.int nn), .val (.int ps), .val (.int ss), .val (.int lt), .val (.int t0), .val (.int t1), .val (.int t2), .val (.ref b), .val (.ref od), .val (.int vc), .val (.int r0), .val (.int r1), .val (.int (1 : Int32)), .val (.int (1 : Int32)), .val (.int r1), .val (.int r0)] [(.int (1 : Int32))])) _
            refine XS.istore X80.here hx rfl (hb hby at_450) rfl (l' := #[.val (.int p1), .val (.int p2), .val (.int p3), .val (.int p4), .val (.int p5), .val (.int nn), .val (.int ps), .val (.int ss), .val (.int lt), .val (.int t0), .val (.int t1), .val (.int t2), .val (.ref b), .val (.ref od), .val (.int vc), .val (.int r0), .val (.int r1), .val (.int (1 : Int32)), .val (.int (1 : Int32)), .val (.int r1), .val (.int r0)]) rfl ?_
            show Steps p.tables e below (T80.setTop (mkF m 452 #[.val (.int p1), .val (.int p2), .val (.int p3), .val (.int p4), .val (.int p5), .val (.int nn), .val (.int ps), .val (.int ss), .val (.int lt), .val (.int t0), .val (.int t1), .val (.int t2), .val (.ref b), .val (.ref od), .val (.int vc), .val (.int r0), .val (.int r1), .val (.int (1 : Int32)), .val (.int (1 : Int32)), .val (.int r1), .val (.int r0)] [])) _
            refine XS.iload X80.here hx rfl (hb hby at_452) rfl ?_
            exact kt)
          exact ⟨T80, _, _, X80, N80, P82⟩
theorem own_good1 : ∀ ss ll : Int32, (ss = (0 : Int32) ∨ ss = (1 : Int32) ∨ ss = (2 : Int32) ∨ ss = (3 : Int32)) → (ll = (0 : Int32) ∨ ll = (1 : Int32)) → own_Good (own_add own_S0 ll ss) ll (1 : Int32) ((own_upd (own_upd (own_upd (own_upd (fun _ => (0 : Int32)) (0 : Int32) (-1 : Int32)) (1 : Int32) (-1 : Int32)) (2 : Int32) (-1 : Int32)) (0 : Int32) ss) (0 : Int32)) ((own_upd (own_upd (own_upd (own_upd (fun _ => (0 : Int32)) (0 : Int32) (-1 : Int32)) (1 : Int32) (-1 : Int32)) (2 : Int32) (-1 : Int32)) (0 : Int32) ss) (1 : Int32)) ((own_upd (own_upd (own_upd (own_upd (fun _ => (0 : Int32)) (0 : Int32) (-1 : Int32)) (1 : Int32) (-1 : Int32)) (2 : Int32) (-1 : Int32)) (0 : Int32) ss) (2 : Int32)) := by
  rintro _ _ (rfl | rfl | rfl | rfl) (rfl | rfl) <;> exact own_good_of (by decide +kernel)
theorem own_good2 : ∀ ss ll : Int32, (ss = (0 : Int32) ∨ ss = (1 : Int32) ∨ ss = (2 : Int32) ∨ ss = (3 : Int32)) → (ll = (0 : Int32) ∨ ll = (1 : Int32)) → own_Good (own_add (own_add own_S0 ll ss) ll ((ss + (1 : Int32)) &&& (3 : Int32))) ll (2 : Int32) ((own_upd (own_upd (own_upd (own_upd (own_upd (fun _ => (0 : Int32)) (0 : Int32) (-1 : Int32)) (1 : Int32) (-1 : Int32)) (2 : Int32) (-1 : Int32)) (0 : Int32) ((ss + (1 : Int32)) &&& (3 : Int32))) (1 : Int32) ss) (0 : Int32)) ((own_upd (own_upd (own_upd (own_upd (own_upd (fun _ => (0 : Int32)) (0 : Int32) (-1 : Int32)) (1 : Int32) (-1 : Int32)) (2 : Int32) (-1 : Int32)) (0 : Int32) ((ss + (1 : Int32)) &&& (3 : Int32))) (1 : Int32) ss) (1 : Int32)) ((own_upd (own_upd (own_upd (own_upd (own_upd (fun _ => (0 : Int32)) (0 : Int32) (-1 : Int32)) (1 : Int32) (-1 : Int32)) (2 : Int32) (-1 : Int32)) (0 : Int32) ((ss + (1 : Int32)) &&& (3 : Int32))) (1 : Int32) ss) (2 : Int32)) := by
  rintro _ _ (rfl | rfl | rfl | rfl) (rfl | rfl) <;> exact own_good_of (by decide +kernel)
theorem own_good3 : ∀ ss ll : Int32, (ss = (0 : Int32) ∨ ss = (1 : Int32) ∨ ss = (2 : Int32) ∨ ss = (3 : Int32)) → (ll = (0 : Int32) ∨ ll = (1 : Int32)) → own_Good (own_add (own_add own_S0 ll ss) ll ((ss + (1 : Int32)) &&& (3 : Int32))) ll (2 : Int32) ((own_upd (own_upd (own_upd (own_upd (own_upd (fun _ => (0 : Int32)) (0 : Int32) (-1 : Int32)) (1 : Int32) (-1 : Int32)) (2 : Int32) (-1 : Int32)) (0 : Int32) ((ss + (1 : Int32)) &&& (3 : Int32))) (1 : Int32) ss) (1 : Int32)) ((own_upd (own_upd (own_upd (own_upd (own_upd (fun _ => (0 : Int32)) (0 : Int32) (-1 : Int32)) (1 : Int32) (-1 : Int32)) (2 : Int32) (-1 : Int32)) (0 : Int32) ((ss + (1 : Int32)) &&& (3 : Int32))) (1 : Int32) ss) (0 : Int32)) ((own_upd (own_upd (own_upd (own_upd (own_upd (fun _ => (0 : Int32)) (0 : Int32) (-1 : Int32)) (1 : Int32) (-1 : Int32)) (2 : Int32) (-1 : Int32)) (0 : Int32) ((ss + (1 : Int32)) &&& (3 : Int32))) (1 : Int32) ss) (2 : Int32)) := by
  rintro _ _ (rfl | rfl | rfl | rfl) (rfl | rfl) <;> exact own_good_of (by decide +kernel)
theorem own_good4 : ∀ ss ll : Int32, (ss = (0 : Int32) ∨ ss = (1 : Int32) ∨ ss = (2 : Int32) ∨ ss = (3 : Int32)) → (ll = (0 : Int32) ∨ ll = (1 : Int32)) → own_Good (own_add (own_add (own_add own_S0 ll ss) ll ((ss + (1 : Int32)) &&& (3 : Int32))) ll ((ss + (2 : Int32)) &&& (3 : Int32))) ll (3 : Int32) ((own_upd (own_upd (own_upd (own_upd (own_upd (own_upd (fun _ => (0 : Int32)) (0 : Int32) (-1 : Int32)) (1 : Int32) (-1 : Int32)) (2 : Int32) (-1 : Int32)) (0 : Int32) ((ss + (2 : Int32)) &&& (3 : Int32))) (1 : Int32) ((ss + (1 : Int32)) &&& (3 : Int32))) (2 : Int32) ss) (0 : Int32)) ((own_upd (own_upd (own_upd (own_upd (own_upd (own_upd (fun _ => (0 : Int32)) (0 : Int32) (-1 : Int32)) (1 : Int32) (-1 : Int32)) (2 : Int32) (-1 : Int32)) (0 : Int32) ((ss + (2 : Int32)) &&& (3 : Int32))) (1 : Int32) ((ss + (1 : Int32)) &&& (3 : Int32))) (2 : Int32) ss) (1 : Int32)) ((own_upd (own_upd (own_upd (own_upd (own_upd (own_upd (fun _ => (0 : Int32)) (0 : Int32) (-1 : Int32)) (1 : Int32) (-1 : Int32)) (2 : Int32) (-1 : Int32)) (0 : Int32) ((ss + (2 : Int32)) &&& (3 : Int32))) (1 : Int32) ((ss + (1 : Int32)) &&& (3 : Int32))) (2 : Int32) ss) (2 : Int32)) := by
  rintro _ _ (rfl | rfl | rfl | rfl) (rfl | rfl) <;> exact own_good_of (by decide +kernel)
theorem own_good5 : ∀ ss ll : Int32, (ss = (0 : Int32) ∨ ss = (1 : Int32) ∨ ss = (2 : Int32) ∨ ss = (3 : Int32)) → (ll = (0 : Int32) ∨ ll = (1 : Int32)) → own_Good (own_add (own_add (own_add own_S0 ll ss) ll ((ss + (1 : Int32)) &&& (3 : Int32))) ll ((ss + (2 : Int32)) &&& (3 : Int32))) ll (3 : Int32) ((own_upd (own_upd (own_upd (own_upd (own_upd (own_upd (fun _ => (0 : Int32)) (0 : Int32) (-1 : Int32)) (1 : Int32) (-1 : Int32)) (2 : Int32) (-1 : Int32)) (0 : Int32) ((ss + (2 : Int32)) &&& (3 : Int32))) (1 : Int32) ((ss + (1 : Int32)) &&& (3 : Int32))) (2 : Int32) ss) (1 : Int32)) ((own_upd (own_upd (own_upd (own_upd (own_upd (own_upd (fun _ => (0 : Int32)) (0 : Int32) (-1 : Int32)) (1 : Int32) (-1 : Int32)) (2 : Int32) (-1 : Int32)) (0 : Int32) ((ss + (2 : Int32)) &&& (3 : Int32))) (1 : Int32) ((ss + (1 : Int32)) &&& (3 : Int32))) (2 : Int32) ss) (0 : Int32)) ((own_upd (own_upd (own_upd (own_upd (own_upd (own_upd (fun _ => (0 : Int32)) (0 : Int32) (-1 : Int32)) (1 : Int32) (-1 : Int32)) (2 : Int32) (-1 : Int32)) (0 : Int32) ((ss + (2 : Int32)) &&& (3 : Int32))) (1 : Int32) ((ss + (1 : Int32)) &&& (3 : Int32))) (2 : Int32) ss) (2 : Int32)) := by
  rintro _ _ (rfl | rfl | rfl | rfl) (rfl | rfl) <;> exact own_good_of (by decide +kernel)
theorem own_good6 : ∀ ss ll : Int32, (ss = (0 : Int32) ∨ ss = (1 : Int32) ∨ ss = (2 : Int32) ∨ ss = (3 : Int32)) → (ll = (0 : Int32) ∨ ll = (1 : Int32)) → own_Good (own_add (own_add (own_add own_S0 ll ss) ll ((ss + (1 : Int32)) &&& (3 : Int32))) ll ((ss + (2 : Int32)) &&& (3 : Int32))) ll (3 : Int32) ((own_upd (own_upd (own_upd (own_upd (own_upd (own_upd (fun _ => (0 : Int32)) (0 : Int32) (-1 : Int32)) (1 : Int32) (-1 : Int32)) (2 : Int32) (-1 : Int32)) (0 : Int32) ((ss + (2 : Int32)) &&& (3 : Int32))) (1 : Int32) ((ss + (1 : Int32)) &&& (3 : Int32))) (2 : Int32) ss) (2 : Int32)) ((own_upd (own_upd (own_upd (own_upd (own_upd (own_upd (fun _ => (0 : Int32)) (0 : Int32) (-1 : Int32)) (1 : Int32) (-1 : Int32)) (2 : Int32) (-1 : Int32)) (0 : Int32) ((ss + (2 : Int32)) &&& (3 : Int32))) (1 : Int32) ((ss + (1 : Int32)) &&& (3 : Int32))) (2 : Int32) ss) (0 : Int32)) ((own_upd (own_upd (own_upd (own_upd (own_upd (own_upd (fun _ => (0 : Int32)) (0 : Int32) (-1 : Int32)) (1 : Int32) (-1 : Int32)) (2 : Int32) (-1 : Int32)) (0 : Int32) ((ss + (2 : Int32)) &&& (3 : Int32))) (1 : Int32) ((ss + (1 : Int32)) &&& (3 : Int32))) (2 : Int32) ss) (1 : Int32)) := by
  rintro _ _ (rfl | rfl | rfl | rfl) (rfl | rfl) <;> exact own_good_of (by decide +kernel)
theorem pn_2 : plainName "com/example/exact_equiv/exactequiv/equivalence/IntListsRemovePinLaw" = true := by first | (simp [plainName, overriddenIn]; done) | decide +kernel
theorem ef_rm0 (m : MethodId) (x0 : Int32) (x1 : Int32) (x2 : Int32) (x3 : Int32) (x4 : Int32) : entryFrame m #[(.int x0), (.int x1), (.int x2), (.int x3), (.int x4)] maxLocals = mkF m 0 #[.val (.int x0), .val (.int x1), .val (.int x2), .val (.int x3), .val (.int x4), .unset, .unset, .unset, .unset, .unset, .unset, .unset, .unset, .unset, .unset, .unset, .unset, .unset, .unset, .unset, .unset] [] := by first | (simp [entryFrame, mkF, argsToLocals, Value.category, maxLocals]; done) | rfl
def Q0 (Z : State) (p1 : Int32) (p2 : Int32) (p3 : Int32) (p4 : Int32) (p5 : Int32) (h0 : Heap) (n0 : Nat) (v : Option Value) (h : Heap) (L : List Loc) : Prop := v = some (.int 1) ∧ Fr n0 L
set_option maxRecDepth 65536 in
set_option maxHeartbeats 40000000 in
theorem rm0 (l : Launch) (Z : State) (a0 : Array Value) (hw : ∀ d ∈ tables_1, d.before a0 Z = true) (ws : List Jvm.Cond) (p1 : Int32) (p2 : Int32) (p3 : Int32) (p4 : Int32) (p5 : Int32) (h0 : Heap) (n0 : Nat) (Z0 : n0 ≤ h0.size) :
    MetFree l x (head1 (Jvm.Cond.code x code maxLocals ret :: ws) room_1) (fun a U => a = #[(.int p1), (.int p2), (.int p3), (.int p4), (.int p5)] ∧ Z.Warmed39 U.vm ∧ U.heap = h0) (fun _ _ _ _ _ => True) (fun _ U o U' => ∃ v L, o = .returned v ∧ Q0 Z p1 p2 p3 p4 p5 h0 n0 v U'.heap L ∧ FrameEnd U o U' L room_1.cells room_1.slots) := by
  refine MetFree.of_bodySF (plainFor_of_name pn_2) hisR ?_
  intro p e s m args below meth c s₁ Bd hml0 hP hK
  obtain ⟨rfl, hZ, hh⟩ := hP
  have hx := Bd.exec
  have hby := Bd.bytes
  have hml : c.maxLocals = 21 := hml0
  have hown : s.vm.findClass "com/example/exact_equiv/exactequiv/equivalence/IntListsRemovePinLaw" = some m.cls := findClass_of_methodNamed Bd.named
  have hnm := (name_of_methodNamed Bd.named Bd.method).1
  have X0 : Stand p l e room_1 s m #[(.int p1), (.int p2), (.int p3), (.int p4), (.int p5)] below meth c s₁ [] 0 0 := Stand.of_body Bd
  have e0 : s₁.heap = h0 := by rw [← hh, Bd.state]; rfl
  have N0 := Fr.nil n0
  have pre0 : ∀ t, Steps p.tables e below (s₁.setTop (mkF m 0 #[.val (.int p1), .val (.int p2), .val (.int p3), .val (.int p4), .val (.int p5), .unset, .unset, .unset, .unset, .unset, .unset, .unset, .unset, .unset, .unset, .unset, .unset, .unset, .unset, .unset, .unset] [])) t → Steps p.tables e below (s₁.setTop (entryFrame m #[(.int p1), (.int p2), (.int p3), (.int p4), (.int p5)] maxLocals)) t := fun t k => castTop (ef_rm0 m p1 p2 p3 p4 p5) k
  have P1 : ∀ t, Steps p.tables e below (s₁.setTop (mkF m 10 #[.val (.int p1), .val (.int p2), .val (.int p3), .val (.int p4), .val (.int p5), .val (.int (((p1 &&& (2147483647 : Int32)) % (3 : Int32)) + (1 : Int32))), .unset, .unset, .unset, .unset, .unset, .unset, .unset, .unset, .unset, .unset, .unset, .unset, .unset, .unset, .unset] [])) t → Steps p.tables e below (s₁.setTop (entryFrame m #[(.int p1), (.int p2), (.int p3), (.int p4), (.int p5)] maxLocals)) t := fun t kt => pre0 t (by
    show Steps p.tables e below (s₁.setTop (mkF m 0 #[.val (.int p1), .val (.int p2), .val (.int p3), .val (.int p4), .val (.int p5), .unset, .unset, .unset, .unset, .unset, .unset, .unset, .unset, .unset, .unset, .unset, .unset, .unset, .unset, .unset, .unset] [])) _
    refine XS.iloadN X0.here hx rfl (hb hby at_0) rfl ?_
    show Steps p.tables e below (s₁.setTop (mkF m 1 #[.val (.int p1), .val (.int p2), .val (.int p3), .val (.int p4), .val (.int p5), .unset, .unset, .unset, .unset, .unset, .unset, .unset, .unset, .unset, .unset, .unset, .unset, .unset, .unset, .unset, .unset] [(.int p1)])) _
    refine X0.ldcI hx hown (mvT hZ (hw _ (List.mem_of_getElem? (i := 0) rfl))) rfl (hb hby at_1) ?_
    show Steps p.tables e below (s₁.setTop (mkF m 3 #[.val (.int p1), .val (.int p2), .val (.int p3), .val (.int p4), .val (.int p5), .unset, .unset, .unset, .unset, .unset, .unset, .unset, .unset, .unset, .unset, .unset, .unset, .unset, .unset, .unset, .unset] [(.int (2147483647 : Int32)), (.int p1)])) _
    refine XS.iand X0.here hx rfl (hb hby at_3) rfl ?_
    show Steps p.tables e below (s₁.setTop (mkF m 4 #[.val (.int p1), .val (.int p2), .val (.int p3), .val (.int p4), .val (.int p5), .unset, .unset, .unset, .unset, .unset, .unset, .unset, .unset, .unset, .unset, .unset, .unset, .unset, .unset, .unset, .unset] [(.int (p1 &&& (2147483647 : Int32)))])) _
    refine XS.iconst X0.here hx rfl (hb hby at_4) ?_
    show Steps p.tables e below (s₁.setTop (mkF m 5 #[.val (.int p1), .val (.int p2), .val (.int p3), .val (.int p4), .val (.int p5), .unset, .unset, .unset, .unset, .unset, .unset, .unset, .unset, .unset, .unset, .unset, .unset, .unset, .unset, .unset, .unset] [(.int (3 : Int32)), (.int (p1 &&& (2147483647 : Int32)))])) _
    refine iremM X0 hx rfl (hb hby at_5) rfl (by decide) ?_
    show Steps p.tables e below (s₁.setTop (mkF m 6 #[.val (.int p1), .val (.int p2), .val (.int p3), .val (.int p4), .val (.int p5), .unset, .unset, .unset, .unset, .unset, .unset, .unset, .unset, .unset, .unset, .unset, .unset, .unset, .unset, .unset, .unset] [(.int ((p1 &&& (2147483647 : Int32)) % (3 : Int32)))])) _
    refine XS.iconst X0.here hx rfl (hb hby at_6) ?_
    show Steps p.tables e below (s₁.setTop (mkF m 7 #[.val (.int p1), .val (.int p2), .val (.int p3), .val (.int p4), .val (.int p5), .unset, .unset, .unset, .unset, .unset, .unset, .unset, .unset, .unset, .unset, .unset, .unset, .unset, .unset, .unset, .unset] [(.int (1 : Int32)), (.int ((p1 &&& (2147483647 : Int32)) % (3 : Int32)))])) _
    refine XS.iadd X0.here hx rfl (hb hby at_7) rfl ?_
    show Steps p.tables e below (s₁.setTop (mkF m 8 #[.val (.int p1), .val (.int p2), .val (.int p3), .val (.int p4), .val (.int p5), .unset, .unset, .unset, .unset, .unset, .unset, .unset, .unset, .unset, .unset, .unset, .unset, .unset, .unset, .unset, .unset] [(.int (((p1 &&& (2147483647 : Int32)) % (3 : Int32)) + (1 : Int32)))])) _
    refine XS.istore X0.here hx rfl (hb hby at_8) rfl (l' := #[.val (.int p1), .val (.int p2), .val (.int p3), .val (.int p4), .val (.int p5), .val (.int (((p1 &&& (2147483647 : Int32)) % (3 : Int32)) + (1 : Int32))), .unset, .unset, .unset, .unset, .unset, .unset, .unset, .unset, .unset, .unset, .unset, .unset, .unset, .unset, .unset]) rfl ?_
    exact kt)
  obtain ⟨nn, h_nn⟩ : ∃ z, z = (((p1 &&& (2147483647 : Int32)) % (3 : Int32)) + (1 : Int32)) := ⟨_, rfl⟩
  rw [← h_nn] at P1
  have hn := own_n123 h_nn
  have P2 : ∀ t, Steps p.tables e below (s₁.setTop (mkF m 19 #[.val (.int p1), .val (.int p2), .val (.int p3), .val (.int p4), .val (.int p5), .val (.int nn), .val (.int ((p2 &&& (2147483647 : Int32)) % nn)), .unset, .unset, .unset, .unset, .unset, .unset, .unset, .unset, .unset, .unset, .unset, .unset, .unset, .unset] [])) t → Steps p.tables e below (s₁.setTop (entryFrame m #[(.int p1), (.int p2), (.int p3), (.int p4), (.int p5)] maxLocals)) t := fun t kt => P1 t (by
    show Steps p.tables e below (s₁.setTop (mkF m 10 #[.val (.int p1), .val (.int p2), .val (.int p3), .val (.int p4), .val (.int p5), .val (.int nn), .unset, .unset, .unset, .unset, .unset, .unset, .unset, .unset, .unset, .unset, .unset, .unset, .unset, .unset, .unset] [])) _
    refine XS.iloadN X0.here hx rfl (hb hby at_10) rfl ?_
    show Steps p.tables e below (s₁.setTop (mkF m 11 #[.val (.int p1), .val (.int p2), .val (.int p3), .val (.int p4), .val (.int p5), .val (.int nn), .unset, .unset, .unset, .unset, .unset, .unset, .unset, .unset, .unset, .unset, .unset, .unset, .unset, .unset, .unset] [(.int p2)])) _
    refine X0.ldcI hx hown (mvT hZ (hw _ (List.mem_of_getElem? (i := 0) rfl))) rfl (hb hby at_11) ?_
    show Steps p.tables e below (s₁.setTop (mkF m 13 #[.val (.int p1), .val (.int p2), .val (.int p3), .val (.int p4), .val (.int p5), .val (.int nn), .unset, .unset, .unset, .unset, .unset, .unset, .unset, .unset, .unset, .unset, .unset, .unset, .unset, .unset, .unset] [(.int (2147483647 : Int32)), (.int p2)])) _
    refine XS.iand X0.here hx rfl (hb hby at_13) rfl ?_
    show Steps p.tables e below (s₁.setTop (mkF m 14 #[.val (.int p1), .val (.int p2), .val (.int p3), .val (.int p4), .val (.int p5), .val (.int nn), .unset, .unset, .unset, .unset, .unset, .unset, .unset, .unset, .unset, .unset, .unset, .unset, .unset, .unset, .unset] [(.int (p2 &&& (2147483647 : Int32)))])) _
    refine XS.iload X0.here hx rfl (hb hby at_14) rfl ?_
    show Steps p.tables e below (s₁.setTop (mkF m 16 #[.val (.int p1), .val (.int p2), .val (.int p3), .val (.int p4), .val (.int p5), .val (.int nn), .unset, .unset, .unset, .unset, .unset, .unset, .unset, .unset, .unset, .unset, .unset, .unset, .unset, .unset, .unset] [(.int nn), (.int (p2 &&& (2147483647 : Int32)))])) _
    refine iremM X0 hx rfl (hb hby at_16) rfl (own_nz hn) ?_
    show Steps p.tables e below (s₁.setTop (mkF m 17 #[.val (.int p1), .val (.int p2), .val (.int p3), .val (.int p4), .val (.int p5), .val (.int nn), .unset, .unset, .unset, .unset, .unset, .unset, .unset, .unset, .unset, .unset, .unset, .unset, .unset, .unset, .unset] [(.int ((p2 &&& (2147483647 : Int32)) % nn))])) _
    refine XS.istore X0.here hx rfl (hb hby at_17) rfl (l' := #[.val (.int p1), .val (.int p2), .val (.int p3), .val (.int p4), .val (.int p5), .val (.int nn), .val (.int ((p2 &&& (2147483647 : Int32)) % nn)), .unset, .unset, .unset, .unset, .unset, .unset, .unset, .unset, .unset, .unset, .unset, .unset, .unset, .unset]) rfl ?_
    exact kt)
  obtain ⟨ps, h_ps⟩ : ∃ z, z = ((p2 &&& (2147483647 : Int32)) % nn) := ⟨_, rfl⟩
  rw [← h_ps] at P2
  have P3 : ∀ t, Steps p.tables e below (s₁.setTop (mkF m 24 #[.val (.int p1), .val (.int p2), .val (.int p3), .val (.int p4), .val (.int p5), .val (.int nn), .val (.int ps), .val (.int (p3 &&& (3 : Int32))), .unset, .unset, .unset, .unset, .unset, .unset, .unset, .unset, .unset, .unset, .unset, .unset, .unset] [])) t → Steps p.tables e below (s₁.setTop (entryFrame m #[(.int p1), (.int p2), (.int p3), (.int p4), (.int p5)] maxLocals)) t := fun t kt => P2 t (by
    show Steps p.tables e below (s₁.setTop (mkF m 19 #[.val (.int p1), .val (.int p2), .val (.int p3), .val (.int p4), .val (.int p5), .val (.int nn), .val (.int ps), .unset, .unset, .unset, .unset, .unset, .unset, .unset, .unset, .unset, .unset, .unset, .unset, .unset, .unset] [])) _
    refine XS.iloadN X0.here hx rfl (hb hby at_19) rfl ?_
    show Steps p.tables e below (s₁.setTop (mkF m 20 #[.val (.int p1), .val (.int p2), .val (.int p3), .val (.int p4), .val (.int p5), .val (.int nn), .val (.int ps), .unset, .unset, .unset, .unset, .unset, .unset, .unset, .unset, .unset, .unset, .unset, .unset, .unset, .unset] [(.int p3)])) _
    refine XS.iconst X0.here hx rfl (hb hby at_20) ?_
    show Steps p.tables e below (s₁.setTop (mkF m 21 #[.val (.int p1), .val (.int p2), .val (.int p3), .val (.int p4), .val (.int p5), .val (.int nn), .val (.int ps), .unset, .unset, .unset, .unset, .unset, .unset, .unset, .unset, .unset, .unset, .unset, .unset, .unset, .unset] [(.int (3 : Int32)), (.int p3)])) _
    refine XS.iand X0.here hx rfl (hb hby at_21) rfl ?_
    show Steps p.tables e below (s₁.setTop (mkF m 22 #[.val (.int p1), .val (.int p2), .val (.int p3), .val (.int p4), .val (.int p5), .val (.int nn), .val (.int ps), .unset, .unset, .unset, .unset, .unset, .unset, .unset, .unset, .unset, .unset, .unset, .unset, .unset, .unset] [(.int (p3 &&& (3 : Int32)))])) _
    refine XS.istore X0.here hx rfl (hb hby at_22) rfl (l' := #[.val (.int p1), .val (.int p2), .val (.int p3), .val (.int p4), .val (.int p5), .val (.int nn), .val (.int ps), .val (.int (p3 &&& (3 : Int32))), .unset, .unset, .unset, .unset, .unset, .unset, .unset, .unset, .unset, .unset, .unset, .unset, .unset]) rfl ?_
    exact kt)
  obtain ⟨ss, h_ss⟩ : ∃ z, z = (p3 &&& (3 : Int32)) := ⟨_, rfl⟩
  rw [← h_ss] at P3
  have hs := own_s4 h_ss
  have P4 : ∀ t, Steps p.tables e below (s₁.setTop (mkF m 29 #[.val (.int p1), .val (.int p2), .val (.int p3), .val (.int p4), .val (.int p5), .val (.int nn), .val (.int ps), .val (.int ss), .val (.int (p4 &&& (1 : Int32))), .unset, .unset, .unset, .unset, .unset, .unset, .unset, .unset, .unset, .unset, .unset, .unset] [])) t → Steps p.tables e below (s₁.setTop (entryFrame m #[(.int p1), (.int p2), (.int p3), (.int p4), (.int p5)] maxLocals)) t := fun t kt => P3 t (by
    show Steps p.tables e below (s₁.setTop (mkF m 24 #[.val (.int p1), .val (.int p2), .val (.int p3), .val (.int p4), .val (.int p5), .val (.int nn), .val (.int ps), .val (.int ss), .unset, .unset, .unset, .unset, .unset, .unset, .unset, .unset, .unset, .unset, .unset, .unset, .unset] [])) _
    refine XS.iloadN X0.here hx rfl (hb hby at_24) rfl ?_
    show Steps p.tables e below (s₁.setTop (mkF m 25 #[.val (.int p1), .val (.int p2), .val (.int p3), .val (.int p4), .val (.int p5), .val (.int nn), .val (.int ps), .val (.int ss), .unset, .unset, .unset, .unset, .unset, .unset, .unset, .unset, .unset, .unset, .unset, .unset, .unset] [(.int p4)])) _
    refine XS.iconst X0.here hx rfl (hb hby at_25) ?_
    show Steps p.tables e below (s₁.setTop (mkF m 26 #[.val (.int p1), .val (.int p2), .val (.int p3), .val (.int p4), .val (.int p5), .val (.int nn), .val (.int ps), .val (.int ss), .unset, .unset, .unset, .unset, .unset, .unset, .unset, .unset, .unset, .unset, .unset, .unset, .unset] [(.int (1 : Int32)), (.int p4)])) _
    refine XS.iand X0.here hx rfl (hb hby at_26) rfl ?_
    show Steps p.tables e below (s₁.setTop (mkF m 27 #[.val (.int p1), .val (.int p2), .val (.int p3), .val (.int p4), .val (.int p5), .val (.int nn), .val (.int ps), .val (.int ss), .unset, .unset, .unset, .unset, .unset, .unset, .unset, .unset, .unset, .unset, .unset, .unset, .unset] [(.int (p4 &&& (1 : Int32)))])) _
    refine XS.istore X0.here hx rfl (hb hby at_27) rfl (l' := #[.val (.int p1), .val (.int p2), .val (.int p3), .val (.int p4), .val (.int p5), .val (.int nn), .val (.int ps), .val (.int ss), .val (.int (p4 &&& (1 : Int32))), .unset, .unset, .unset, .unset, .unset, .unset, .unset, .unset, .unset, .unset, .unset, .unset]) rfl ?_
    exact kt)
  obtain ⟨ll, h_ll⟩ : ∃ z, z = (p4 &&& (1 : Int32)) := ⟨_, rfl⟩
  rw [← h_ll] at P4
  have hl := own_l2 h_ll
  have P5 : ∀ t, Steps p.tables e below (s₁.setTop (mkF m 41 #[.val (.int p1), .val (.int p2), .val (.int p3), .val (.int p4), .val (.int p5), .val (.int nn), .val (.int ps), .val (.int ss), .val (.int ll), .val (.int ss), .val (.int ((ss + (1 : Int32)) &&& (3 : Int32))), .unset, .unset, .unset, .unset, .unset, .unset, .unset, .unset, .unset, .unset] [])) t → Steps p.tables e below (s₁.setTop (entryFrame m #[(.int p1), (.int p2), (.int p3), (.int p4), (.int p5)] maxLocals)) t := fun t kt => P4 t (by
    show Steps p.tables e below (s₁.setTop (mkF m 29 #[.val (.int p1), .val (.int p2), .val (.int p3), .val (.int p4), .val (.int p5), .val (.int nn), .val (.int ps), .val (.int ss), .val (.int ll), .unset, .unset, .unset, .unset, .unset, .unset, .unset, .unset, .unset, .unset, .unset, .unset] [])) _
    refine XS.iload X0.here hx rfl (hb hby at_29) rfl ?_
    show Steps p.tables e below (s₁.setTop (mkF m 31 #[.val (.int p1), .val (.int p2), .val (.int p3), .val (.int p4), .val (.int p5), .val (.int nn), .val (.int ps), .val (.int ss), .val (.int ll), .unset, .unset, .unset, .unset, .unset, .unset, .unset, .unset, .unset, .unset, .unset, .unset] [(.int ss)])) _
    refine XS.istore X0.here hx rfl (hb hby at_31) rfl (l' := #[.val (.int p1), .val (.int p2), .val (.int p3), .val (.int p4), .val (.int p5), .val (.int nn), .val (.int ps), .val (.int ss), .val (.int ll), .val (.int ss), .unset, .unset, .unset, .unset, .unset, .unset, .unset, .unset, .unset, .unset, .unset]) rfl ?_
    show Steps p.tables e below (s₁.setTop (mkF m 33 #[.val (.int p1), .val (.int p2), .val (.int p3), .val (.int p4), .val (.int p5), .val (.int nn), .val (.int ps), .val (.int ss), .val (.int ll), .val (.int ss), .unset, .unset, .unset, .unset, .unset, .unset, .unset, .unset, .unset, .unset, .unset] [])) _
    refine XS.iload X0.here hx rfl (hb hby at_33) rfl ?_
    show Steps p.tables e below (s₁.setTop (mkF m 35 #[.val (.int p1), .val (.int p2), .val (.int p3), .val (.int p4), .val (.int p5), .val (.int nn), .val (.int ps), .val (.int ss), .val (.int ll), .val (.int ss), .unset, .unset, .unset, .unset, .unset, .unset, .unset, .unset, .unset, .unset, .unset] [(.int ss)])) _
    refine XS.iconst X0.here hx rfl (hb hby at_35) ?_
    show Steps p.tables e below (s₁.setTop (mkF m 36 #[.val (.int p1), .val (.int p2), .val (.int p3), .val (.int p4), .val (.int p5), .val (.int nn), .val (.int ps), .val (.int ss), .val (.int ll), .val (.int ss), .unset, .unset, .unset, .unset, .unset, .unset, .unset, .unset, .unset, .unset, .unset] [(.int (1 : Int32)), (.int ss)])) _
    refine XS.iadd X0.here hx rfl (hb hby at_36) rfl ?_
    show Steps p.tables e below (s₁.setTop (mkF m 37 #[.val (.int p1), .val (.int p2), .val (.int p3), .val (.int p4), .val (.int p5), .val (.int nn), .val (.int ps), .val (.int ss), .val (.int ll), .val (.int ss), .unset, .unset, .unset, .unset, .unset, .unset, .unset, .unset, .unset, .unset, .unset] [(.int (ss + (1 : Int32)))])) _
    refine XS.iconst X0.here hx rfl (hb hby at_37) ?_
    show Steps p.tables e below (s₁.setTop (mkF m 38 #[.val (.int p1), .val (.int p2), .val (.int p3), .val (.int p4), .val (.int p5), .val (.int nn), .val (.int ps), .val (.int ss), .val (.int ll), .val (.int ss), .unset, .unset, .unset, .unset, .unset, .unset, .unset, .unset, .unset, .unset, .unset] [(.int (3 : Int32)), (.int (ss + (1 : Int32)))])) _
    refine XS.iand X0.here hx rfl (hb hby at_38) rfl ?_
    show Steps p.tables e below (s₁.setTop (mkF m 39 #[.val (.int p1), .val (.int p2), .val (.int p3), .val (.int p4), .val (.int p5), .val (.int nn), .val (.int ps), .val (.int ss), .val (.int ll), .val (.int ss), .unset, .unset, .unset, .unset, .unset, .unset, .unset, .unset, .unset, .unset, .unset] [(.int ((ss + (1 : Int32)) &&& (3 : Int32)))])) _
    refine XS.istore X0.here hx rfl (hb hby at_39) rfl (l' := #[.val (.int p1), .val (.int p2), .val (.int p3), .val (.int p4), .val (.int p5), .val (.int nn), .val (.int ps), .val (.int ss), .val (.int ll), .val (.int ss), .val (.int ((ss + (1 : Int32)) &&& (3 : Int32))), .unset, .unset, .unset, .unset, .unset, .unset, .unset, .unset, .unset, .unset]) rfl ?_
    exact kt)
  obtain ⟨e1, h_e1⟩ : ∃ z, z = ((ss + (1 : Int32)) &&& (3 : Int32)) := ⟨_, rfl⟩
  rw [← h_e1] at P5
  have P6 : ∀ t, Steps p.tables e below (s₁.setTop (mkF m 49 #[.val (.int p1), .val (.int p2), .val (.int p3), .val (.int p4), .val (.int p5), .val (.int nn), .val (.int ps), .val (.int ss), .val (.int ll), .val (.int ss), .val (.int e1), .val (.int ((ss + (2 : Int32)) &&& (3 : Int32))), .unset, .unset, .unset, .unset, .unset, .unset, .unset, .unset, .unset] [])) t → Steps p.tables e below (s₁.setTop (entryFrame m #[(.int p1), (.int p2), (.int p3), (.int p4), (.int p5)] maxLocals)) t := fun t kt => P5 t (by
    show Steps p.tables e below (s₁.setTop (mkF m 41 #[.val (.int p1), .val (.int p2), .val (.int p3), .val (.int p4), .val (.int p5), .val (.int nn), .val (.int ps), .val (.int ss), .val (.int ll), .val (.int ss), .val (.int e1), .unset, .unset, .unset, .unset, .unset, .unset, .unset, .unset, .unset, .unset] [])) _
    refine XS.iload X0.here hx rfl (hb hby at_41) rfl ?_
    show Steps p.tables e below (s₁.setTop (mkF m 43 #[.val (.int p1), .val (.int p2), .val (.int p3), .val (.int p4), .val (.int p5), .val (.int nn), .val (.int ps), .val (.int ss), .val (.int ll), .val (.int ss), .val (.int e1), .unset, .unset, .unset, .unset, .unset, .unset, .unset, .unset, .unset, .unset] [(.int ss)])) _
    refine XS.iconst X0.here hx rfl (hb hby at_43) ?_
    show Steps p.tables e below (s₁.setTop (mkF m 44 #[.val (.int p1), .val (.int p2), .val (.int p3), .val (.int p4), .val (.int p5), .val (.int nn), .val (.int ps), .val (.int ss), .val (.int ll), .val (.int ss), .val (.int e1), .unset, .unset, .unset, .unset, .unset, .unset, .unset, .unset, .unset, .unset] [(.int (2 : Int32)), (.int ss)])) _
    refine XS.iadd X0.here hx rfl (hb hby at_44) rfl ?_
    show Steps p.tables e below (s₁.setTop (mkF m 45 #[.val (.int p1), .val (.int p2), .val (.int p3), .val (.int p4), .val (.int p5), .val (.int nn), .val (.int ps), .val (.int ss), .val (.int ll), .val (.int ss), .val (.int e1), .unset, .unset, .unset, .unset, .unset, .unset, .unset, .unset, .unset, .unset] [(.int (ss + (2 : Int32)))])) _
    refine XS.iconst X0.here hx rfl (hb hby at_45) ?_
    show Steps p.tables e below (s₁.setTop (mkF m 46 #[.val (.int p1), .val (.int p2), .val (.int p3), .val (.int p4), .val (.int p5), .val (.int nn), .val (.int ps), .val (.int ss), .val (.int ll), .val (.int ss), .val (.int e1), .unset, .unset, .unset, .unset, .unset, .unset, .unset, .unset, .unset, .unset] [(.int (3 : Int32)), (.int (ss + (2 : Int32)))])) _
    refine XS.iand X0.here hx rfl (hb hby at_46) rfl ?_
    show Steps p.tables e below (s₁.setTop (mkF m 47 #[.val (.int p1), .val (.int p2), .val (.int p3), .val (.int p4), .val (.int p5), .val (.int nn), .val (.int ps), .val (.int ss), .val (.int ll), .val (.int ss), .val (.int e1), .unset, .unset, .unset, .unset, .unset, .unset, .unset, .unset, .unset, .unset] [(.int ((ss + (2 : Int32)) &&& (3 : Int32)))])) _
    refine XS.istore X0.here hx rfl (hb hby at_47) rfl (l' := #[.val (.int p1), .val (.int p2), .val (.int p3), .val (.int p4), .val (.int p5), .val (.int nn), .val (.int ps), .val (.int ss), .val (.int ll), .val (.int ss), .val (.int e1), .val (.int ((ss + (2 : Int32)) &&& (3 : Int32))), .unset, .unset, .unset, .unset, .unset, .unset, .unset, .unset, .unset]) rfl ?_
    exact kt)
  obtain ⟨e2, h_e2⟩ : ∃ z, z = ((ss + (2 : Int32)) &&& (3 : Int32)) := ⟨_, rfl⟩
  rw [← h_e2] at P6
  obtain ⟨T7, h7, X7, e7, E7, A7, D7, -, st7⟩ := newO X0 hx hZ hown (hw _ (List.mem_of_getElem? (i := 1) rfl)) (hw _ (List.mem_of_getElem? (i := 2) rfl)) (hw _ (List.mem_of_getElem? (i := 3) rfl)) e0 (g := (mkF m 49 #[.val (.int p1), .val (.int p2), .val (.int p3), .val (.int p4), .val (.int p5), .val (.int nn), .val (.int ps), .val (.int ss), .val (.int ll), .val (.int ss), .val (.int e1), .val (.int e2), .unset, .unset, .unset, .unset, .unset, .unset, .unset, .unset, .unset] [])) rfl (hb hby at_49) (by decide) (by decide)
  obtain ⟨b7, g7⟩ : ∃ z, z = h0.size := ⟨_, rfl⟩
  rw [← g7] at A7 D7 st7
  have g_b7 : n0 ≤ b7 := Nat.le_trans Z0 (Nat.le_of_eq g7.symm)
  have Zs7 : n0 ≤ h7.size := Nat.le_trans Z0 E7.1
  have F7_firsts : Fld Z h7 b7 "com/example/exact_equiv/exactequiv/equivalence/IntLists" "firsts" "[I" .null := D7 (Or.inr (hw _ (List.mem_of_getElem? (i := 12) rfl))) (ty := (.array .int)) (by decide)
  have F7_sizes : Fld Z h7 b7 "com/example/exact_equiv/exactequiv/equivalence/IntLists" "sizes" "[I" .null := D7 (Or.inr (hw _ (List.mem_of_getElem? (i := 18) rfl))) (ty := (.array .int)) (by decide)
  have F7_nexts : Fld Z h7 b7 "com/example/exact_equiv/exactequiv/equivalence/IntLists" "nexts" "[I" .null := D7 (Or.inl (hw _ (List.mem_of_getElem? (i := 20) rfl))) (ty := (.array .int)) (by decide)
  have F7_previouses : Fld Z h7 b7 "com/example/exact_equiv/exactequiv/equivalence/IntLists" "previouses" "[I" .null := D7 (Or.inl (hw _ (List.mem_of_getElem? (i := 22) rfl))) (ty := (.array .int)) (by decide)
  obtain ⟨_, _, ⟨T8, L8, k8, n8⟩, -, X8, ⟨Lc8, hQ8, l8, y8, z8⟩, st8⟩ := X7.specialBack hx (y := (⟨"com/example/exact_equiv/exactequiv/equivalence/IntLists", "<init>", "(II)V"⟩ : MethodName)) rfl hown (mvT hZ (hw _ (List.mem_of_getElem? (i := 4) rfl))) (mvT hZ (hw _ (List.mem_of_getElem? (i := 5) rfl))) (mvT hZ (hw _ (List.mem_of_getElem? (i := 6) rfl))) (by decide) (backOf (W := 1) (rmN l Z a0 hw [] b7 h7 n0 Zs7 A7 F7_firsts F7_sizes F7_nexts F7_previouses g_b7) hZ (hw _ (List.mem_of_getElem? (i := 6) rfl)) (hw _ (List.mem_of_getElem? (i := 3) rfl)) (by decide) (by decide)) (g := (mkF m 55 #[.val (.int p1), .val (.int p2), .val (.int p3), .val (.int p4), .val (.int p5), .val (.int nn), .val (.int ps), .val (.int ss), .val (.int ll), .val (.int ss), .val (.int e1), .val (.int e2), .unset, .unset, .unset, .unset, .unset, .unset, .unset, .unset, .unset] [(.int (4 : Int32)), (.int (2 : Int32)), (.ref b7), (.ref b7)])) rfl (by rw [hml]; rfl) (Steps.refl _) (a := b7) (argsL := [(.int (2 : Int32)), (.int (4 : Int32))]) (rest := [(.ref b7)]) (lenOf pd_1 rfl) rfl (by show 2 * 0 + _ ≤ _; exact Nat.le_of_eq rfl) (hb hby at_55) (fun _ _ => ⟨rfl, e7, (by decide : 1 + 4 ≤ _), (by decide : 4 + 12 ≤ _)⟩)
  dsimp only [Pt.U, Pt.locs, Pt.cells, Pt.slots] at X8 l8 y8 z8 st8 hQ8
  subst l8 y8 z8
  obtain ⟨rfl, N8q, Kq8, aF8, aS8, aN8, aP8, HIq8⟩ := hQ8
  have N8 := Fr.app N0 N8q
  have c9 := A7.keep Kq8
  have Zs8 : n0 ≤ T8.heap.size := Nat.le_trans Zs7 Kq8.1
  obtain ⟨cq10, kq10, q10a, q10b, q10c⟩ := isOf hZ rfl c9
  obtain ⟨_, _, ⟨T10, L10, k10, n10⟩, -, X10, ⟨Lc10, hQ10, l10, y10, z10⟩, st10⟩ := X8.virtualBack hx (y := (⟨"com/example/exact_equiv/exactequiv/equivalence/IntLists", "add", "(II)V"⟩ : MethodName)) (z := (⟨"com/example/exact_equiv/exactequiv/equivalence/IntLists", "add", "(II)V"⟩ : MethodName)) hown (mvT hZ (hw _ (List.mem_of_getElem? (i := 23) rfl))) (mvT hZ (hw _ (List.mem_of_getElem? (i := 24) rfl))) (notFace_of_selects (args := #[]) (mvT hZ (hw _ (List.mem_of_getElem? (i := 26) rfl)))) (mvT hZ (hw _ (List.mem_of_getElem? (i := 26) rfl))) (mvT hZ (hw _ (List.mem_of_getElem? (i := 25) rfl))) (by decide) (backOf (W := 0) (rmA l Z a0 hw [] b7 ll ss aF8 aS8 aN8 aP8 own_S0 T8.heap n0 Zs8 HIq8 (own_two2 hl) (own_rng4 hs) (Or.inl (own_S0_first hl))) hZ (hw _ (List.mem_of_getElem? (i := 27) rfl)) (hw _ (List.mem_of_getElem? (i := 3) rfl)) (by decide) (by decide)) q10a q10c (g := (mkF m 66 #[.val (.int p1), .val (.int p2), .val (.int p3), .val (.int p4), .val (.int p5), .val (.int nn), .val (.int ps), .val (.int ss), .val (.int ll), .val (.int ss), .val (.int e1), .val (.int e2), .val (.ref b7), .unset, .unset, .unset, .unset, .unset, .unset, .unset, .unset] [(.int ss), (.int ll), (.ref b7)])) rfl (by rw [hml]; rfl) (Steps.refl _) (argsL := [(.int ll), (.int ss)]) (rest := []) (lenOf pd_1 rfl) rfl (by show 2 * 0 + _ ≤ _; exact Nat.le_of_eq rfl) (hb hby at_66) (fun _ _ => ⟨rfl, rfl, (by decide : 5 + 0 ≤ _), (by decide : 16 + 0 ≤ _)⟩)
  dsimp only [Pt.U, Pt.locs, Pt.cells, Pt.slots] at X10 l10 y10 z10 st10 hQ10
  subst l10 y10 z10
  obtain ⟨rfl, N10q, Kq10, HIq10⟩ := hQ10
  have N10 := Fr.app N8 N10q
  have c11 := c9.keep Kq10
  have Zs10 : n0 ≤ T10.heap.size := Nat.le_trans Zs8 Kq10.1
  obtain ⟨S10, hS10⟩ : ∃ z, z = own_add own_S0 ll ss := ⟨_, rfl⟩
  rw [← hS10] at HIq10
  have P12 : ∀ t, Steps p.tables e below (T10.setTop (mkF m 69 #[.val (.int p1), .val (.int p2), .val (.int p3), .val (.int p4), .val (.int p5), .val (.int nn), .val (.int ps), .val (.int ss), .val (.int ll), .val (.int ss), .val (.int e1), .val (.int e2), .val (.ref b7), .unset, .unset, .unset, .unset, .unset, .unset, .unset, .unset] [])) t → Steps p.tables e below (s₁.setTop (entryFrame m #[(.int p1), (.int p2), (.int p3), (.int p4), (.int p5)] maxLocals)) t := fun t kt => P6 t (by
    show Steps p.tables e below (s₁.setTop (mkF m 49 #[.val (.int p1), .val (.int p2), .val (.int p3), .val (.int p4), .val (.int p5), .val (.int nn), .val (.int ps), .val (.int ss), .val (.int ll), .val (.int ss), .val (.int e1), .val (.int e2), .unset, .unset, .unset, .unset, .unset, .unset, .unset, .unset, .unset] [])) _
    refine st7 _ ?_
    show Steps p.tables e below (T7.setTop (mkF m 52 #[.val (.int p1), .val (.int p2), .val (.int p3), .val (.int p4), .val (.int p5), .val (.int nn), .val (.int ps), .val (.int ss), .val (.int ll), .val (.int ss), .val (.int e1), .val (.int e2), .unset, .unset, .unset, .unset, .unset, .unset, .unset, .unset, .unset] [(.ref b7)])) _
    refine XS.dup X7.here hx rfl (hb hby at_52) rfl rfl ?_
    show Steps p.tables e below (T7.setTop (mkF m 53 #[.val (.int p1), .val (.int p2), .val (.int p3), .val (.int p4), .val (.int p5), .val (.int nn), .val (.int ps), .val (.int ss), .val (.int ll), .val (.int ss), .val (.int e1), .val (.int e2), .unset, .unset, .unset, .unset, .unset, .unset, .unset, .unset, .unset] [(.ref b7), (.ref b7)])) _
    refine XS.iconst X7.here hx rfl (hb hby at_53) ?_
    show Steps p.tables e below (T7.setTop (mkF m 54 #[.val (.int p1), .val (.int p2), .val (.int p3), .val (.int p4), .val (.int p5), .val (.int nn), .val (.int ps), .val (.int ss), .val (.int ll), .val (.int ss), .val (.int e1), .val (.int e2), .unset, .unset, .unset, .unset, .unset, .unset, .unset, .unset, .unset] [(.int (2 : Int32)), (.ref b7), (.ref b7)])) _
    refine XS.iconst X7.here hx rfl (hb hby at_54) ?_
    show Steps p.tables e below (T7.setTop (mkF m 55 #[.val (.int p1), .val (.int p2), .val (.int p3), .val (.int p4), .val (.int p5), .val (.int nn), .val (.int ps), .val (.int ss), .val (.int ll), .val (.int ss), .val (.int e1), .val (.int e2), .unset, .unset, .unset, .unset, .unset, .unset, .unset, .unset, .unset] [(.int (4 : Int32)), (.int (2 : Int32)), (.ref b7), (.ref b7)])) _
    refine st8.trans ?_
    show Steps p.tables e below (T8.setTop (mkF m 58 #[.val (.int p1), .val (.int p2), .val (.int p3), .val (.int p4), .val (.int p5), .val (.int nn), .val (.int ps), .val (.int ss), .val (.int ll), .val (.int ss), .val (.int e1), .val (.int e2), .unset, .unset, .unset, .unset, .unset, .unset, .unset, .unset, .unset] [(.ref b7)])) _
    refine XS.astore X8.here hx rfl (hb hby at_58) rfl rfl (l' := #[.val (.int p1), .val (.int p2), .val (.int p3), .val (.int p4), .val (.int p5), .val (.int nn), .val (.int ps), .val (.int ss), .val (.int ll), .val (.int ss), .val (.int e1), .val (.int e2), .val (.ref b7), .unset, .unset, .unset, .unset, .unset, .unset, .unset, .unset]) rfl ?_
    show Steps p.tables e below (T8.setTop (mkF m 60 #[.val (.int p1), .val (.int p2), .val (.int p3), .val (.int p4), .val (.int p5), .val (.int nn), .val (.int ps), .val (.int ss), .val (.int ll), .val (.int ss), .val (.int e1), .val (.int e2), .val (.ref b7), .unset, .unset, .unset, .unset, .unset, .unset, .unset, .unset] [])) _
    refine XS.aload X8.here hx rfl (hb hby at_60) rfl rfl ?_
    show Steps p.tables e below (T8.setTop (mkF m 62 #[.val (.int p1), .val (.int p2), .val (.int p3), .val (.int p4), .val (.int p5), .val (.int nn), .val (.int ps), .val (.int ss), .val (.int ll), .val (.int ss), .val (.int e1), .val (.int e2), .val (.ref b7), .unset, .unset, .unset, .unset, .unset, .unset, .unset, .unset] [(.ref b7)])) _
    refine XS.iload X8.here hx rfl (hb hby at_62) rfl ?_
    show Steps p.tables e below (T8.setTop (mkF m 64 #[.val (.int p1), .val (.int p2), .val (.int p3), .val (.int p4), .val (.int p5), .val (.int nn), .val (.int ps), .val (.int ss), .val (.int ll), .val (.int ss), .val (.int e1), .val (.int e2), .val (.ref b7), .unset, .unset, .unset, .unset, .unset, .unset, .unset, .unset] [(.int ll), (.ref b7)])) _
    refine XS.iload X8.here hx rfl (hb hby at_64) rfl ?_
    show Steps p.tables e below (T8.setTop (mkF m 66 #[.val (.int p1), .val (.int p2), .val (.int p3), .val (.int p4), .val (.int p5), .val (.int nn), .val (.int ps), .val (.int ss), .val (.int ll), .val (.int ss), .val (.int e1), .val (.int e2), .val (.ref b7), .unset, .unset, .unset, .unset, .unset, .unset, .unset, .unset] [(.int ss), (.int ll), (.ref b7)])) _
    refine st10.trans ?_
    exact kt)
  rcases hn with rfl | rfl | rfl
  · skip
    have hc72_13 : (1 : Int32) < (2 : Int32) := by decide
    have hc87_14 : (1 : Int32) < (3 : Int32) := by decide
    obtain ⟨T15, h15, k15, X15, e15, E15, A15, st15⟩ := newP X10 hx hZ (hw _ (List.mem_of_getElem? (i := 10) rfl)) rfl (g := (mkF m 100 #[.val (.int p1), .val (.int p2), .val (.int p3), .val (.int p4), .val (.int p5), .val (.int (1 : Int32)), .val (.int ps), .val (.int ss), .val (.int ll), .val (.int ss), .val (.int e1), .val (.int e2), .val (.ref b7), .unset, .unset, .unset, .unset, .unset, .unset, .unset, .unset] [(.int (3 : Int32))])) rfl (hb hby at_100) rfl (by decide) (cap := 3) (by decide) (by decide) (by decide) (by decide)
    obtain ⟨b15, g15⟩ : ∃ z, z = T10.heap.size := ⟨_, rfl⟩
    rw [← g15] at A15 st15
    have g_b15 : n0 ≤ b15 := Nat.le_trans Zs10 (Nat.le_of_eq g15.symm)
    have il15 := own_IL_ne HIq10 g15
    have ne16 : b7 ≠ b15 := Nat.ne_of_lt (Nat.lt_of_lt_of_le c11.lt (Nat.le_of_eq g15.symm))
    have c17 := c11.ext E15
    have c18 := HIq10.ext E15
    have Zs15 : n0 ≤ h15.size := Nat.le_trans Zs10 E15.1
    have V15 := own_IA_new A15 (by decide)
    obtain ⟨cl19, Ar19, Sz19, Nn19, Ge19⟩ := id V15
    have hin19 := inb_of Sz19 (j := (0 : Int32)) ⟨(by decide), (by decide)⟩
    obtain ⟨T19, h19, X19, e19, W19, st19⟩ := stI X15 hx hZ e15 Ar19 (j := (0 : Int32)) hin19 (g := (mkF m 105 #[.val (.int p1), .val (.int p2), .val (.int p3), .val (.int p4), .val (.int p5), .val (.int (1 : Int32)), .val (.int ps), .val (.int ss), .val (.int ll), .val (.int ss), .val (.int e1), .val (.int e2), .val (.ref b7), .unset, .unset, .unset, .unset, .unset, .unset, .unset, .unset] [(.int (-1 : Int32)), (.int (0 : Int32)), (.ref b15), (.ref b15)])) rfl rfl (hb hby at_105)
    have Aw19 := own_IA_set Ar19 Sz19 Nn19 Ge19 (by decide) (by decide) W19
    have c20 := c17.wr W19
    have c21 := c18.other W19 il15
    have Zs19 : n0 ≤ h19.size := Nat.le_trans Zs15 (Keep.of_wr W19).1
    have N19 := Fr.snoc X19 N10 g_b15
    obtain ⟨cl22, Ar22, Sz22, Nn22, Ge22⟩ := id Aw19
    have hin22 := inb_of Sz22 (j := (1 : Int32)) ⟨(by decide), (by decide)⟩
    obtain ⟨T22, h22, X22, e22, W22, st22⟩ := stI X19 hx hZ e19 Ar22 (j := (1 : Int32)) hin22 (g := (mkF m 109 #[.val (.int p1), .val (.int p2), .val (.int p3), .val (.int p4), .val (.int p5), .val (.int (1 : Int32)), .val (.int ps), .val (.int ss), .val (.int ll), .val (.int ss), .val (.int e1), .val (.int e2), .val (.ref b7), .unset, .unset, .unset, .unset, .unset, .unset, .unset, .unset] [(.int (-1 : Int32)), (.int (1 : Int32)), (.ref b15), (.ref b15)])) rfl rfl (hb hby at_109)
    have Aw22 := own_IA_set Ar22 Sz22 Nn22 Ge22 (by decide) (by decide) W22
    have c23 := c20.wr W22
    have c24 := c21.other W22 il15
    have Zs22 : n0 ≤ h22.size := Nat.le_trans Zs19 (Keep.of_wr W22).1
    have N22 := Fr.snoc X22 N19 g_b15
    obtain ⟨cl25, Ar25, Sz25, Nn25, Ge25⟩ := id Aw22
    have hin25 := inb_of Sz25 (j := (2 : Int32)) ⟨(by decide), (by decide)⟩
    obtain ⟨T25, h25, X25, e25, W25, st25⟩ := stI X22 hx hZ e22 Ar25 (j := (2 : Int32)) hin25 (g := (mkF m 113 #[.val (.int p1), .val (.int p2), .val (.int p3), .val (.int p4), .val (.int p5), .val (.int (1 : Int32)), .val (.int ps), .val (.int ss), .val (.int ll), .val (.int ss), .val (.int e1), .val (.int e2), .val (.ref b7), .unset, .unset, .unset, .unset, .unset, .unset, .unset, .unset] [(.int (-1 : Int32)), (.int (2 : Int32)), (.ref b15), (.ref b15)])) rfl rfl (hb hby at_113)
    have Aw25 := own_IA_set Ar25 Sz25 Nn25 Ge25 (by decide) (by decide) W25
    have c26 := c23.wr W25
    have c27 := c24.other W25 il15
    have Zs25 : n0 ≤ h25.size := Nat.le_trans Zs22 (Keep.of_wr W25).1
    have N25 := Fr.snoc X25 N22 g_b15
    have hc119_28 : (1 : Int32) = (1 : Int32) := rfl
    obtain ⟨cl29, Ar29, Sz29, Nn29, Ge29⟩ := id Aw25
    have hin29 := inb_of Sz29 (j := (0 : Int32)) ⟨(by decide), (by decide)⟩
    obtain ⟨T29, h29, X29, e29, W29, st29⟩ := stI X25 hx hZ e25 Ar29 (j := (0 : Int32)) hin29 (g := (mkF m 127 #[.val (.int p1), .val (.int p2), .val (.int p3), .val (.int p4), .val (.int p5), .val (.int (1 : Int32)), .val (.int ps), .val (.int ss), .val (.int ll), .val (.int ss), .val (.int e1), .val (.int e2), .val (.ref b7), .val (.ref b15), .unset, .unset, .unset, .unset, .unset, .unset, .unset] [(.int ss), (.int (0 : Int32)), (.ref b15)])) rfl rfl (hb hby at_127)
    have Aw29 := own_IA_set Ar29 Sz29 Nn29 Ge29 (by decide) (by decide) W29
    have c30 := c26.wr W29
    have c31 := c27.other W29 il15
    have Zs29 : n0 ≤ h29.size := Nat.le_trans Zs25 (Keep.of_wr W29).1
    have N29 := Fr.snoc X29 N25 g_b15
    have hps := own_p1 h_ps
    have P32 : ∀ t, Steps p.tables e below (T29.setTop (mkF m 170 #[.val (.int p1), .val (.int p2), .val (.int p3), .val (.int p4), .val (.int p5), .val (.int (1 : Int32)), .val (.int ps), .val (.int ss), .val (.int ll), .val (.int ss), .val (.int e1), .val (.int e2), .val (.ref b7), .val (.ref b15), .unset, .unset, .unset, .unset, .unset, .unset, .unset] [])) t → Steps p.tables e below (s₁.setTop (entryFrame m #[(.int p1), (.int p2), (.int p3), (.int p4), (.int p5)] maxLocals)) t := fun t kt => P12 t (by
      show Steps p.tables e below (T10.setTop (mkF m 69 #[.val (.int p1), .val (.int p2), .val (.int p3), .val (.int p4), .val (.int p5), .val (.int (1 : Int32)), .val (.int ps), .val (.int ss), .val (.int ll), .val (.int ss), .val (.int e1), .val (.int e2), .val (.ref b7), .unset, .unset, .unset, .unset, .unset, .unset, .unset, .unset] [])) _
      refine XS.iload X10.here hx rfl (hb hby at_69) rfl ?_
      show Steps p.tables e below (T10.setTop (mkF m 71 #[.val (.int p1), .val (.int p2), .val (.int p3), .val (.int p4), .val (.int p5), .val (.int (1 : Int32)), .val (.int ps), .val (.int ss), .val (.int ll), .val (.int ss), .val (.int e1), .val (.int e2), .val (.ref b7), .unset, .unset, .unset, .unset, .unset, .unset, .unset, .unset] [(.int (1 : Int32))])) _
      refine XS.iconst X10.here hx rfl (hb hby at_71) ?_
      show Steps p.tables e below (T10.setTop (mkF m 72 #[.val (.int p1), .val (.int p2), .val (.int p3), .val (.int p4), .val (.int p5), .val (.int (1 : Int32)), .val (.int ps), .val (.int ss), .val (.int ll), .val (.int ss), .val (.int e1), .val (.int e2), .val (.ref b7), .unset, .unset, .unset, .unset, .unset, .unset, .unset, .unset] [(.int (2 : Int32)), (.int (1 : Int32))])) _
      refine XS.icmpYes X10.here hx rfl (pc0 := 72) (pc' := 84) rfl (hb hby at_72) rfl (XT.ii_lt_t hc72_13) (by decide) (by decide) ?_
      show Steps p.tables e below (T10.setTop (mkF m 84 #[.val (.int p1), .val (.int p2), .val (.int p3), .val (.int p4), .val (.int p5), .val (.int (1 : Int32)), .val (.int ps), .val (.int ss), .val (.int ll), .val (.int ss), .val (.int e1), .val (.int e2), .val (.ref b7), .unset, .unset, .unset, .unset, .unset, .unset, .unset, .unset] [])) _
      refine XS.iload X10.here hx rfl (hb hby at_84) rfl ?_
      show Steps p.tables e below (T10.setTop (mkF m 86 #[.val (.int p1), .val (.int p2), .val (.int p3), .val (.int p4), .val (.int p5), .val (.int (1 : Int32)), .val (.int ps), .val (.int ss), .val (.int ll), .val (.int ss), .val (.int e1), .val (.int e2), .val (.ref b7), .unset, .unset, .unset, .unset, .unset, .unset, .unset, .unset] [(.int (1 : Int32))])) _
      refine XS.iconst X10.here hx rfl (hb hby at_86) ?_
      show Steps p.tables e below (T10.setTop (mkF m 87 #[.val (.int p1), .val (.int p2), .val (.int p3), .val (.int p4), .val (.int p5), .val (.int (1 : Int32)), .val (.int ps), .val (.int ss), .val (.int ll), .val (.int ss), .val (.int e1), .val (.int e2), .val (.ref b7), .unset, .unset, .unset, .unset, .unset, .unset, .unset, .unset] [(.int (3 : Int32)), (.int (1 : Int32))])) _
      refine XS.icmpYes X10.here hx rfl (pc0 := 87) (pc' := 99) rfl (hb hby at_87) rfl (XT.ii_lt_t hc87_14) (by decide) (by decide) ?_
      show Steps p.tables e below (T10.setTop (mkF m 99 #[.val (.int p1), .val (.int p2), .val (.int p3), .val (.int p4), .val (.int p5), .val (.int (1 : Int32)), .val (.int ps), .val (.int ss), .val (.int ll), .val (.int ss), .val (.int e1), .val (.int e2), .val (.ref b7), .unset, .unset, .unset, .unset, .unset, .unset, .unset, .unset] [])) _
      refine XS.iconst X10.here hx rfl (hb hby at_99) ?_
      show Steps p.tables e below (T10.setTop (mkF m 100 #[.val (.int p1), .val (.int p2), .val (.int p3), .val (.int p4), .val (.int p5), .val (.int (1 : Int32)), .val (.int ps), .val (.int ss), .val (.int ll), .val (.int ss), .val (.int e1), .val (.int e2), .val (.ref b7), .unset, .unset, .unset, .unset, .unset, .unset, .unset, .unset] [(.int (3 : Int32))])) _
      refine st15 _ ?_
      show Steps p.tables e below (T15.setTop (mkF m 102 #[.val (.int p1), .val (.int p2), .val (.int p3), .val (.int p4), .val (.int p5), .val (.int (1 : Int32)), .val (.int ps), .val (.int ss), .val (.int ll), .val (.int ss), .val (.int e1), .val (.int e2), .val (.ref b7), .unset, .unset, .unset, .unset, .unset, .unset, .unset, .unset] [(.ref b15)])) _
      refine XS.dup X15.here hx rfl (hb hby at_102) rfl rfl ?_
      show Steps p.tables e below (T15.setTop (mkF m 103 #[.val (.int p1), .val (.int p2), .val (.int p3), .val (.int p4), .val (.int p5), .val (.int (1 : Int32)), .val (.int ps), .val (.int ss), .val (.int ll), .val (.int ss), .val (.int e1), .val (.int e2), .val (.ref b7), .unset, .unset, .unset, .unset, .unset, .unset, .unset, .unset] [(.ref b15), (.ref b15)])) _
      refine XS.iconst X15.here hx rfl (hb hby at_103) ?_
      show Steps p.tables e below (T15.setTop (mkF m 104 #[.val (.int p1), .val (.int p2), .val (.int p3), .val (.int p4), .val (.int p5), .val (.int (1 : Int32)), .val (.int ps), .val (.int ss), .val (.int ll), .val (.int ss), .val (.int e1), .val (.int e2), .val (.ref b7), .unset, .unset, .unset, .unset, .unset, .unset, .unset, .unset] [(.int (0 : Int32)), (.ref b15), (.ref b15)])) _
      refine XS.iconst X15.here hx rfl (hb hby at_104) ?_
      show Steps p.tables e below (T15.setTop (mkF m 105 #[.val (.int p1), .val (.int p2), .val (.int p3), .val (.int p4), .val (.int p5), .val (.int (1 : Int32)), .val (.int ps), .val (.int ss), .val (.int ll), .val (.int ss), .val (.int e1), .val (.int e2), .val (.ref b7), .unset, .unset, .unset, .unset, .unset, .unset, .unset, .unset] [(.int (-1 : Int32)), (.int (0 : Int32)), (.ref b15), (.ref b15)])) _
      refine st19 _ ?_
      show Steps p.tables e below (T19.setTop (mkF m 106 #[.val (.int p1), .val (.int p2), .val (.int p3), .val (.int p4), .val (.int p5), .val (.int (1 : Int32)), .val (.int ps), .val (.int ss), .val (.int ll), .val (.int ss), .val (.int e1), .val (.int e2), .val (.ref b7), .unset, .unset, .unset, .unset, .unset, .unset, .unset, .unset] [(.ref b15)])) _
      refine XS.dup X19.here hx rfl (hb hby at_106) rfl rfl ?_
      show Steps p.tables e below (T19.setTop (mkF m 107 #[.val (.int p1), .val (.int p2), .val (.int p3), .val (.int p4), .val (.int p5), .val (.int (1 : Int32)), .val (.int ps), .val (.int ss), .val (.int ll), .val (.int ss), .val (.int e1), .val (.int e2), .val (.ref b7), .unset, .unset, .unset, .unset, .unset, .unset, .unset, .unset] [(.ref b15), (.ref b15)])) _
      refine XS.iconst X19.here hx rfl (hb hby at_107) ?_
      show Steps p.tables e below (T19.setTop (mkF m 108 #[.val (.int p1), .val (.int p2), .val (.int p3), .val (.int p4), .val (.int p5), .val (.int (1 : Int32)), .val (.int ps), .val (.int ss), .val (.int ll), .val (.int ss), .val (.int e1), .val (.int e2), .val (.ref b7), .unset, .unset, .unset, .unset, .unset, .unset, .unset, .unset] [(.int (1 : Int32)), (.ref b15), (.ref b15)])) _
      refine XS.iconst X19.here hx rfl (hb hby at_108) ?_
      show Steps p.tables e below (T19.setTop (mkF m 109 #[.val (.int p1), .val (.int p2), .val (.int p3), .val (.int p4), .val (.int p5), .val (.int (1 : Int32)), .val (.int ps), .val (.int ss), .val (.int ll), .val (.int ss), .val (.int e1), .val (.int e2), .val (.ref b7), .unset, .unset, .unset, .unset, .unset, .unset, .unset, .unset] [(.int (-1 : Int32)), (.int (1 : Int32)), (.ref b15), (.ref b15)])) _
      refine st22 _ ?_
      show Steps p.tables e below (T22.setTop (mkF m 110 #[.val (.int p1), .val (.int p2), .val (.int p3), .val (.int p4), .val (.int p5), .val (.int (1 : Int32)), .val (.int ps), .val (.int ss), .val (.int ll), .val (.int ss), .val (.int e1), .val (.int e2), .val (.ref b7), .unset, .unset, .unset, .unset, .unset, .unset, .unset, .unset] [(.ref b15)])) _
      refine XS.dup X22.here hx rfl (hb hby at_110) rfl rfl ?_
      show Steps p.tables e below (T22.setTop (mkF m 111 #[.val (.int p1), .val (.int p2), .val (.int p3), .val (.int p4), .val (.int p5), .val (.int (1 : Int32)), .val (.int ps), .val (.int ss), .val (.int ll), .val (.int ss), .val (.int e1), .val (.int e2), .val (.ref b7), .unset, .unset, .unset, .unset, .unset, .unset, .unset, .unset] [(.ref b15), (.ref b15)])) _
      refine XS.iconst X22.here hx rfl (hb hby at_111) ?_
      show Steps p.tables e below (T22.setTop (mkF m 112 #[.val (.int p1), .val (.int p2), .val (.int p3), .val (.int p4), .val (.int p5), .val (.int (1 : Int32)), .val (.int ps), .val (.int ss), .val (.int ll), .val (.int ss), .val (.int e1), .val (.int e2), .val (.ref b7), .unset, .unset, .unset, .unset, .unset, .unset, .unset, .unset] [(.int (2 : Int32)), (.ref b15), (.ref b15)])) _
      refine XS.iconst X22.here hx rfl (hb hby at_112) ?_
      show Steps p.tables e below (T22.setTop (mkF m 113 #[.val (.int p1), .val (.int p2), .val (.int p3), .val (.int p4), .val (.int p5), .val (.int (1 : Int32)), .val (.int ps), .val (.int ss), .val (.int ll), .val (.int ss), .val (.int e1), .val (.int e2), .val (.ref b7), .unset, .unset, .unset, .unset, .unset, .unset, .unset, .unset] [(.int (-1 : Int32)), (.int (2 : Int32)), (.ref b15), (.ref b15)])) _
      refine st25 _ ?_
      show Steps p.tables e below (T25.setTop (mkF m 114 #[.val (.int p1), .val (.int p2), .val (.int p3), .val (.int p4), .val (.int p5), .val (.int (1 : Int32)), .val (.int ps), .val (.int ss), .val (.int ll), .val (.int ss), .val (.int e1), .val (.int e2), .val (.ref b7), .unset, .unset, .unset, .unset, .unset, .unset, .unset, .unset] [(.ref b15)])) _
      refine XS.astore X25.here hx rfl (hb hby at_114) rfl rfl (l' := #[.val (.int p1), .val (.int p2), .val (.int p3), .val (.int p4), .val (.int p5), .val (.int (1 : Int32)), .val (.int ps), .val (.int ss), .val (.int ll), .val (.int ss), .val (.int e1), .val (.int e2), .val (.ref b7), .val (.ref b15), .unset, .unset, .unset, .unset, .unset, .unset, .unset]) rfl ?_
      show Steps p.tables e below (T25.setTop (mkF m 116 #[.val (.int p1), .val (.int p2), .val (.int p3), .val (.int p4), .val (.int p5), .val (.int (1 : Int32)), .val (.int ps), .val (.int ss), .val (.int ll), .val (.int ss), .val (.int e1), .val (.int e2), .val (.ref b7), .val (.ref b15), .unset, .unset, .unset, .unset, .unset, .unset, .unset] [])) _
      refine XS.iload X25.here hx rfl (hb hby at_116) rfl ?_
      show Steps p.tables e below (T25.setTop (mkF m 118 #[.val (.int p1), .val (.int p2), .val (.int p3), .val (.int p4), .val (.int p5), .val (.int (1 : Int32)), .val (.int ps), .val (.int ss), .val (.int ll), .val (.int ss), .val (.int e1), .val (.int e2), .val (.ref b7), .val (.ref b15), .unset, .unset, .unset, .unset, .unset, .unset, .unset] [(.int (1 : Int32))])) _
      refine XS.iconst X25.here hx rfl (hb hby at_118) ?_
      show Steps p.tables e below (T25.setTop (mkF m 119 #[.val (.int p1), .val (.int p2), .val (.int p3), .val (.int p4), .val (.int p5), .val (.int (1 : Int32)), .val (.int ps), .val (.int ss), .val (.int ll), .val (.int ss), .val (.int e1), .val (.int e2), .val (.ref b7), .val (.ref b15), .unset, .unset, .unset, .unset, .unset, .unset, .unset] [(.int (1 : Int32)), (.int (1 : Int32))])) _
      refine XS.icmpNo X25.here hx rfl (hb hby at_119) rfl (XT.ii_ne_f hc119_28) ?_
      show Steps p.tables e below (T25.setTop (mkF m 122 #[.val (.int p1), .val (.int p2), .val (.int p3), .val (.int p4), .val (.int p5), .val (.int (1 : Int32)), .val (.int ps), .val (.int ss), .val (.int ll), .val (.int ss), .val (.int e1), .val (.int e2), .val (.ref b7), .val (.ref b15), .unset, .unset, .unset, .unset, .unset, .unset, .unset] [])) _
      refine XS.aload X25.here hx rfl (hb hby at_122) rfl rfl ?_
      show Steps p.tables e below (T25.setTop (mkF m 124 #[.val (.int p1), .val (.int p2), .val (.int p3), .val (.int p4), .val (.int p5), .val (.int (1 : Int32)), .val (.int ps), .val (.int ss), .val (.int ll), .val (.int ss), .val (.int e1), .val (.int e2), .val (.ref b7), .val (.ref b15), .unset, .unset, .unset, .unset, .unset, .unset, .unset] [(.ref b15)])) _
      refine XS.iconst X25.here hx rfl (hb hby at_124) ?_
      show Steps p.tables e below (T25.setTop (mkF m 125 #[.val (.int p1), .val (.int p2), .val (.int p3), .val (.int p4), .val (.int p5), .val (.int (1 : Int32)), .val (.int ps), .val (.int ss), .val (.int ll), .val (.int ss), .val (.int e1), .val (.int e2), .val (.ref b7), .val (.ref b15), .unset, .unset, .unset, .unset, .unset, .unset, .unset] [(.int (0 : Int32)), (.ref b15)])) _
      refine XS.iload X25.here hx rfl (hb hby at_125) rfl ?_
      show Steps p.tables e below (T25.setTop (mkF m 127 #[.val (.int p1), .val (.int p2), .val (.int p3), .val (.int p4), .val (.int p5), .val (.int (1 : Int32)), .val (.int ps), .val (.int ss), .val (.int ll), .val (.int ss), .val (.int e1), .val (.int e2), .val (.ref b7), .val (.ref b15), .unset, .unset, .unset, .unset, .unset, .unset, .unset] [(.int ss), (.int (0 : Int32)), (.ref b15)])) _
      refine st29 _ ?_
      show Steps p.tables e below (T29.setTop (mkF m 128 #[.val (.int p1), .val (.int p2), .val (.int p3), .val (.int p4), .val (.int p5), .val (.int (1 : Int32)), .val (.int ps), .val (.int ss), .val (.int ll), .val (.int ss), .val (.int e1), .val (.int e2), .val (.ref b7), .val (.ref b15), .unset, .unset, .unset, .unset, .unset, .unset, .unset] [])) _
      refine XS.goto X29.here hx rfl (pc0 := 128) (pc' := 170) rfl (hb hby at_128) (by decide) (by decide) ?_
      exact kt)
    subst hps
    obtain ⟨cl33, Ar33, Sz33, Nn33, Ge33⟩ := id Aw29
    have hin33 := inb_of Sz33 (j := (0 : Int32)) ⟨(by decide), (by decide)⟩
    have hc179_34 : (0 : Int32) = (0 : Int32) := rfl
    obtain ⟨cl35, Ar35, Sz35, Nn35, Ge35⟩ := id Aw29
    have hin35 := inb_of Sz35 (j := (1 : Int32)) ⟨(by decide), (by decide)⟩
    have hc198_36 : ¬ ((1 : Int32) < (0 : Int32)) := by decide
    obtain ⟨cl37, Ar37, Sz37, Nn37, Ge37⟩ := id Aw29
    have hin37 := inb_of Sz37 (j := (2 : Int32)) ⟨(by decide), (by decide)⟩
    have P38 : ∀ t, Steps p.tables e below (T29.setTop (mkF m 214 #[.val (.int p1), .val (.int p2), .val (.int p3), .val (.int p4), .val (.int p5), .val (.int (1 : Int32)), .val (.int (0 : Int32)), .val (.int ss), .val (.int ll), .val (.int ss), .val (.int e1), .val (.int e2), .val (.ref b7), .val (.ref b15), .val (.int ((own_upd (own_upd (own_upd (own_upd (fun _ => (0 : Int32)) (0 : Int32) (-1 : Int32)) (1 : Int32) (-1 : Int32)) (2 : Int32) (-1 : Int32)) (0 : Int32) ss) (0 : Int32))), .val (.int ((own_upd (own_upd (own_upd (own_upd (fun _ => (0 : Int32)) (0 : Int32) (-1 : Int32)) (1 : Int32) (-1 : Int32)) (2 : Int32) (-1 : Int32)) (0 : Int32) ss) (1 : Int32))), .val (.int ((own_upd (own_upd (own_upd (own_upd (fun _ => (0 : Int32)) (0 : Int32) (-1 : Int32)) (1 : Int32) (-1 : Int32)) (2 : Int32) (-1 : Int32)) (0 : Int32) ss) (2 : Int32))), .unset, .unset, .unset, .unset] [])) t → Steps p.tables e below (s₁.setTop (entryFrame m #[(.int p1), (.int p2), (.int p3), (.int p4), (.int p5)] maxLocals)) t := fun t kt => P32 t (by
      show Steps p.tables e below (T29.setTop (mkF m 170 #[.val (.int p1), .val (.int p2), .val (.int p3), .val (.int p4), .val (.int p5), .val (.int (1 : Int32)), .val (.int (0 : Int32)), .val (.int ss), .val (.int ll), .val (.int ss), .val (.int e1), .val (.int e2), .val (.ref b7), .val (.ref b15), .unset, .unset, .unset, .unset, .unset, .unset, .unset] [])) _
      refine XS.aload X29.here hx rfl (hb hby at_170) rfl rfl ?_
      show Steps p.tables e below (T29.setTop (mkF m 172 #[.val (.int p1), .val (.int p2), .val (.int p3), .val (.int p4), .val (.int p5), .val (.int (1 : Int32)), .val (.int (0 : Int32)), .val (.int ss), .val (.int ll), .val (.int ss), .val (.int e1), .val (.int e2), .val (.ref b7), .val (.ref b15), .unset, .unset, .unset, .unset, .unset, .unset, .unset] [(.ref b15)])) _
      refine XS.iload X29.here hx rfl (hb hby at_172) rfl ?_
      show Steps p.tables e below (T29.setTop (mkF m 174 #[.val (.int p1), .val (.int p2), .val (.int p3), .val (.int p4), .val (.int p5), .val (.int (1 : Int32)), .val (.int (0 : Int32)), .val (.int ss), .val (.int ll), .val (.int ss), .val (.int e1), .val (.int e2), .val (.ref b7), .val (.ref b15), .unset, .unset, .unset, .unset, .unset, .unset, .unset] [(.int (0 : Int32)), (.ref b15)])) _
      refine X29.iaload hx (j := (0 : Int32)) (v := (.int ((own_upd (own_upd (own_upd (own_upd (fun _ => (0 : Int32)) (0 : Int32) (-1 : Int32)) (1 : Int32) (-1 : Int32)) (2 : Int32) (-1 : Int32)) (0 : Int32) ss) (0 : Int32)))) (by rw [e29]; exact Ar33.1) (State.isArrayOf_alike hZ.alike Ar33.2.1) Ar33.2.2 hin33 (Ge33 _ (by decide) (by decide)) (g := (mkF m 174 #[.val (.int p1), .val (.int p2), .val (.int p3), .val (.int p4), .val (.int p5), .val (.int (1 : Int32)), .val (.int (0 : Int32)), .val (.int ss), .val (.int ll), .val (.int ss), .val (.int e1), .val (.int e2), .val (.ref b7), .val (.ref b15), .unset, .unset, .unset, .unset, .unset, .unset, .unset] [(.int (0 : Int32)), (.ref b15)])) rfl rfl (hb hby at_174) _ ?_
      show Steps p.tables e below (T29.setTop (mkF m 175 #[.val (.int p1), .val (.int p2), .val (.int p3), .val (.int p4), .val (.int p5), .val (.int (1 : Int32)), .val (.int (0 : Int32)), .val (.int ss), .val (.int ll), .val (.int ss), .val (.int e1), .val (.int e2), .val (.ref b7), .val (.ref b15), .unset, .unset, .unset, .unset, .unset, .unset, .unset] [(.int ((own_upd (own_upd (own_upd (own_upd (fun _ => (0 : Int32)) (0 : Int32) (-1 : Int32)) (1 : Int32) (-1 : Int32)) (2 : Int32) (-1 : Int32)) (0 : Int32) ss) (0 : Int32)))])) _
      refine XS.istore X29.here hx rfl (hb hby at_175) rfl (l' := #[.val (.int p1), .val (.int p2), .val (.int p3), .val (.int p4), .val (.int p5), .val (.int (1 : Int32)), .val (.int (0 : Int32)), .val (.int ss), .val (.int ll), .val (.int ss), .val (.int e1), .val (.int e2), .val (.ref b7), .val (.ref b15), .val (.int ((own_upd (own_upd (own_upd (own_upd (fun _ => (0 : Int32)) (0 : Int32) (-1 : Int32)) (1 : Int32) (-1 : Int32)) (2 : Int32) (-1 : Int32)) (0 : Int32) ss) (0 : Int32))), .unset, .unset, .unset, .unset, .unset, .unset]) rfl ?_
      show Steps p.tables e below (T29.setTop (mkF m 177 #[.val (.int p1), .val (.int p2), .val (.int p3), .val (.int p4), .val (.int p5), .val (.int (1 : Int32)), .val (.int (0 : Int32)), .val (.int ss), .val (.int ll), .val (.int ss), .val (.int e1), .val (.int e2), .val (.ref b7), .val (.ref b15), .val (.int ((own_upd (own_upd (own_upd (own_upd (fun _ => (0 : Int32)) (0 : Int32) (-1 : Int32)) (1 : Int32) (-1 : Int32)) (2 : Int32) (-1 : Int32)) (0 : Int32) ss) (0 : Int32))), .unset, .unset, .unset, .unset, .unset, .unset] [])) _
      refine XS.iload X29.here hx rfl (hb hby at_177) rfl ?_
      show Steps p.tables e below (T29.setTop (mkF m 179 #[.val (.int p1), .val (.int p2), .val (.int p3), .val (.int p4), .val (.int p5), .val (.int (1 : Int32)), .val (.int (0 : Int32)), .val (.int ss), .val (.int ll), .val (.int ss), .val (.int e1), .val (.int e2), .val (.ref b7), .val (.ref b15), .val (.int ((own_upd (own_upd (own_upd (own_upd (fun _ => (0 : Int32)) (0 : Int32) (-1 : Int32)) (1 : Int32) (-1 : Int32)) (2 : Int32) (-1 : Int32)) (0 : Int32) ss) (0 : Int32))), .unset, .unset, .unset, .unset, .unset, .unset] [(.int (0 : Int32))])) _
      refine XS.ifNo X29.here hx rfl (hb hby at_179) rfl (XT.i0_ne_f hc179_34) ?_
      show Steps p.tables e below (T29.setTop (mkF m 182 #[.val (.int p1), .val (.int p2), .val (.int p3), .val (.int p4), .val (.int p5), .val (.int (1 : Int32)), .val (.int (0 : Int32)), .val (.int ss), .val (.int ll), .val (.int ss), .val (.int e1), .val (.int e2), .val (.ref b7), .val (.ref b15), .val (.int ((own_upd (own_upd (own_upd (own_upd (fun _ => (0 : Int32)) (0 : Int32) (-1 : Int32)) (1 : Int32) (-1 : Int32)) (2 : Int32) (-1 : Int32)) (0 : Int32) ss) (0 : Int32))), .unset, .unset, .unset, .unset, .unset, .unset] [])) _
      refine XS.aload X29.here hx rfl (hb hby at_182) rfl rfl ?_
      show Steps p.tables e below (T29.setTop (mkF m 184 #[.val (.int p1), .val (.int p2), .val (.int p3), .val (.int p4), .val (.int p5), .val (.int (1 : Int32)), .val (.int (0 : Int32)), .val (.int ss), .val (.int ll), .val (.int ss), .val (.int e1), .val (.int e2), .val (.ref b7), .val (.ref b15), .val (.int ((own_upd (own_upd (own_upd (own_upd (fun _ => (0 : Int32)) (0 : Int32) (-1 : Int32)) (1 : Int32) (-1 : Int32)) (2 : Int32) (-1 : Int32)) (0 : Int32) ss) (0 : Int32))), .unset, .unset, .unset, .unset, .unset, .unset] [(.ref b15)])) _
      refine XS.iconst X29.here hx rfl (hb hby at_184) ?_
      show Steps p.tables e below (T29.setTop (mkF m 185 #[.val (.int p1), .val (.int p2), .val (.int p3), .val (.int p4), .val (.int p5), .val (.int (1 : Int32)), .val (.int (0 : Int32)), .val (.int ss), .val (.int ll), .val (.int ss), .val (.int e1), .val (.int e2), .val (.ref b7), .val (.ref b15), .val (.int ((own_upd (own_upd (own_upd (own_upd (fun _ => (0 : Int32)) (0 : Int32) (-1 : Int32)) (1 : Int32) (-1 : Int32)) (2 : Int32) (-1 : Int32)) (0 : Int32) ss) (0 : Int32))), .unset, .unset, .unset, .unset, .unset, .unset] [(.int (1 : Int32)), (.ref b15)])) _
      refine X29.iaload hx (j := (1 : Int32)) (v := (.int ((own_upd (own_upd (own_upd (own_upd (fun _ => (0 : Int32)) (0 : Int32) (-1 : Int32)) (1 : Int32) (-1 : Int32)) (2 : Int32) (-1 : Int32)) (0 : Int32) ss) (1 : Int32)))) (by rw [e29]; exact Ar35.1) (State.isArrayOf_alike hZ.alike Ar35.2.1) Ar35.2.2 hin35 (Ge35 _ (by decide) (by decide)) (g := (mkF m 185 #[.val (.int p1), .val (.int p2), .val (.int p3), .val (.int p4), .val (.int p5), .val (.int (1 : Int32)), .val (.int (0 : Int32)), .val (.int ss), .val (.int ll), .val (.int ss), .val (.int e1), .val (.int e2), .val (.ref b7), .val (.ref b15), .val (.int ((own_upd (own_upd (own_upd (own_upd (fun _ => (0 : Int32)) (0 : Int32) (-1 : Int32)) (1 : Int32) (-1 : Int32)) (2 : Int32) (-1 : Int32)) (0 : Int32) ss) (0 : Int32))), .unset, .unset, .unset, .unset, .unset, .unset] [(.int (1 : Int32)), (.ref b15)])) rfl rfl (hb hby at_185) _ ?_
      show Steps p.tables e below (T29.setTop (mkF m 186 #[.val (.int p1), .val (.int p2), .val (.int p3), .val (.int p4), .val (.int p5), .val (.int (1 : Int32)), .val (.int (0 : Int32)), .val (.int ss), .val (.int ll), .val (.int ss), .val (.int e1), .val (.int e2), .val (.ref b7), .val (.ref b15), .val (.int ((own_upd (own_upd (own_upd (own_upd (fun _ => (0 : Int32)) (0 : Int32) (-1 : Int32)) (1 : Int32) (-1 : Int32)) (2 : Int32) (-1 : Int32)) (0 : Int32) ss) (0 : Int32))), .unset, .unset, .unset, .unset, .unset, .unset] [(.int ((own_upd (own_upd (own_upd (own_upd (fun _ => (0 : Int32)) (0 : Int32) (-1 : Int32)) (1 : Int32) (-1 : Int32)) (2 : Int32) (-1 : Int32)) (0 : Int32) ss) (1 : Int32)))])) _
      refine XS.goto X29.here hx rfl (pc0 := 186) (pc' := 193) rfl (hb hby at_186) (by decide) (by decide) ?_
      show Steps p.tables e below (T29.setTop (mkF m 193 #[.val (.int p1), .val (.int p2), .val (.int p3), .val (.int p4), .val (.int p5), .val (.int (1 : Int32)), .val (.int (0 : Int32)), .val (.int ss), .val (.int ll), .val (.int ss), .val (.int e1), .val (.int e2), .val (.ref b7), .val (.ref b15), .val (.int ((own_upd (own_upd (own_upd (own_upd (fun _ => (0 : Int32)) (0 : Int32) (-1 : Int32)) (1 : Int32) (-1 : Int32)) (2 : Int32) (-1 : Int32)) (0 : Int32) ss) (0 : Int32))), .unset, .unset, .unset, .unset, .unset, .unset] [(.int ((own_upd (own_upd (own_upd (own_upd (fun _ => (0 : Int32)) (0 : Int32) (-1 : Int32)) (1 : Int32) (-1 : Int32)) (2 : Int32) (-1 : Int32)) (0 : Int32) ss) (1 : Int32)))])) _
      refine XS.istore X29.here hx rfl (hb hby at_193) rfl (l' := #[.val (.int p1), .val (.int p2), .val (.int p3), .val (.int p4), .val (.int p5), .val (.int (1 : Int32)), .val (.int (0 : Int32)), .val (.int ss), .val (.int ll), .val (.int ss), .val (.int e1), .val (.int e2), .val (.ref b7), .val (.ref b15), .val (.int ((own_upd (own_upd (own_upd (own_upd (fun _ => (0 : Int32)) (0 : Int32) (-1 : Int32)) (1 : Int32) (-1 : Int32)) (2 : Int32) (-1 : Int32)) (0 : Int32) ss) (0 : Int32))), .val (.int ((own_upd (own_upd (own_upd (own_upd (fun _ => (0 : Int32)) (0 : Int32) (-1 : Int32)) (1 : Int32) (-1 : Int32)) (2 : Int32) (-1 : Int32)) (0 : Int32) ss) (1 : Int32))), .unset, .unset, .unset, .unset, .unset]) rfl ?_
      show Steps p.tables e below (T29.setTop (mkF m 195 #[.val (.int p1), .val (.int p2), .val (.int p3), .val (.int p4), .val (.int p5), .val (.int (1 : Int32)), .val (.int (0 : Int32)), .val (.int ss), .val (.int ll), .val (.int ss), .val (.int e1), .val (.int e2), .val (.ref b7), .val (.ref b15), .val (.int ((own_upd (own_upd (own_upd (own_upd (fun _ => (0 : Int32)) (0 : Int32) (-1 : Int32)) (1 : Int32) (-1 : Int32)) (2 : Int32) (-1 : Int32)) (0 : Int32) ss) (0 : Int32))), .val (.int ((own_upd (own_upd (own_upd (own_upd (fun _ => (0 : Int32)) (0 : Int32) (-1 : Int32)) (1 : Int32) (-1 : Int32)) (2 : Int32) (-1 : Int32)) (0 : Int32) ss) (1 : Int32))), .unset, .unset, .unset, .unset, .unset] [])) _
      refine XS.iload X29.here hx rfl (hb hby at_195) rfl ?_
      show Steps p.tables e below (T29.setTop (mkF m 197 #[.val (.int p1), .val (.int p2), .val (.int p3), .val (.int p4), .val (.int p5), .val (.int (1 : Int32)), .val (.int (0 : Int32)), .val (.int ss), .val (.int ll), .val (.int ss), .val (.int e1), .val (.int e2), .val (.ref b7), .val (.ref b15), .val (.int ((own_upd (own_upd (own_upd (own_upd (fun _ => (0 : Int32)) (0 : Int32) (-1 : Int32)) (1 : Int32) (-1 : Int32)) (2 : Int32) (-1 : Int32)) (0 : Int32) ss) (0 : Int32))), .val (.int ((own_upd (own_upd (own_upd (own_upd (fun _ => (0 : Int32)) (0 : Int32) (-1 : Int32)) (1 : Int32) (-1 : Int32)) (2 : Int32) (-1 : Int32)) (0 : Int32) ss) (1 : Int32))), .unset, .unset, .unset, .unset, .unset] [(.int (0 : Int32))])) _
      refine XS.iconst X29.here hx rfl (hb hby at_197) ?_
      show Steps p.tables e below (T29.setTop (mkF m 198 #[.val (.int p1), .val (.int p2), .val (.int p3), .val (.int p4), .val (.int p5), .val (.int (1 : Int32)), .val (.int (0 : Int32)), .val (.int ss), .val (.int ll), .val (.int ss), .val (.int e1), .val (.int e2), .val (.ref b7), .val (.ref b15), .val (.int ((own_upd (own_upd (own_upd (own_upd (fun _ => (0 : Int32)) (0 : Int32) (-1 : Int32)) (1 : Int32) (-1 : Int32)) (2 : Int32) (-1 : Int32)) (0 : Int32) ss) (0 : Int32))), .val (.int ((own_upd (own_upd (own_upd (own_upd (fun _ => (0 : Int32)) (0 : Int32) (-1 : Int32)) (1 : Int32) (-1 : Int32)) (2 : Int32) (-1 : Int32)) (0 : Int32) ss) (1 : Int32))), .unset, .unset, .unset, .unset, .unset] [(.int (1 : Int32)), (.int (0 : Int32))])) _
      refine XS.icmpNo X29.here hx rfl (hb hby at_198) rfl (XT.ii_gt_f hc198_36) ?_
      show Steps p.tables e below (T29.setTop (mkF m 201 #[.val (.int p1), .val (.int p2), .val (.int p3), .val (.int p4), .val (.int p5), .val (.int (1 : Int32)), .val (.int (0 : Int32)), .val (.int ss), .val (.int ll), .val (.int ss), .val (.int e1), .val (.int e2), .val (.ref b7), .val (.ref b15), .val (.int ((own_upd (own_upd (own_upd (own_upd (fun _ => (0 : Int32)) (0 : Int32) (-1 : Int32)) (1 : Int32) (-1 : Int32)) (2 : Int32) (-1 : Int32)) (0 : Int32) ss) (0 : Int32))), .val (.int ((own_upd (own_upd (own_upd (own_upd (fun _ => (0 : Int32)) (0 : Int32) (-1 : Int32)) (1 : Int32) (-1 : Int32)) (2 : Int32) (-1 : Int32)) (0 : Int32) ss) (1 : Int32))), .unset, .unset, .unset, .unset, .unset] [])) _
      refine XS.aload X29.here hx rfl (hb hby at_201) rfl rfl ?_
      show Steps p.tables e below (T29.setTop (mkF m 203 #[.val (.int p1), .val (.int p2), .val (.int p3), .val (.int p4), .val (.int p5), .val (.int (1 : Int32)), .val (.int (0 : Int32)), .val (.int ss), .val (.int ll), .val (.int ss), .val (.int e1), .val (.int e2), .val (.ref b7), .val (.ref b15), .val (.int ((own_upd (own_upd (own_upd (own_upd (fun _ => (0 : Int32)) (0 : Int32) (-1 : Int32)) (1 : Int32) (-1 : Int32)) (2 : Int32) (-1 : Int32)) (0 : Int32) ss) (0 : Int32))), .val (.int ((own_upd (own_upd (own_upd (own_upd (fun _ => (0 : Int32)) (0 : Int32) (-1 : Int32)) (1 : Int32) (-1 : Int32)) (2 : Int32) (-1 : Int32)) (0 : Int32) ss) (1 : Int32))), .unset, .unset, .unset, .unset, .unset] [(.ref b15)])) _
      refine XS.iconst X29.here hx rfl (hb hby at_203) ?_
      show Steps p.tables e below (T29.setTop (mkF m 204 #[.val (.int p1), .val (.int p2), .val (.int p3), .val (.int p4), .val (.int p5), .val (.int (1 : Int32)), .val (.int (0 : Int32)), .val (.int ss), .val (.int ll), .val (.int ss), .val (.int e1), .val (.int e2), .val (.ref b7), .val (.ref b15), .val (.int ((own_upd (own_upd (own_upd (own_upd (fun _ => (0 : Int32)) (0 : Int32) (-1 : Int32)) (1 : Int32) (-1 : Int32)) (2 : Int32) (-1 : Int32)) (0 : Int32) ss) (0 : Int32))), .val (.int ((own_upd (own_upd (own_upd (own_upd (fun _ => (0 : Int32)) (0 : Int32) (-1 : Int32)) (1 : Int32) (-1 : Int32)) (2 : Int32) (-1 : Int32)) (0 : Int32) ss) (1 : Int32))), .unset, .unset, .unset, .unset, .unset] [(.int (2 : Int32)), (.ref b15)])) _
      refine X29.iaload hx (j := (2 : Int32)) (v := (.int ((own_upd (own_upd (own_upd (own_upd (fun _ => (0 : Int32)) (0 : Int32) (-1 : Int32)) (1 : Int32) (-1 : Int32)) (2 : Int32) (-1 : Int32)) (0 : Int32) ss) (2 : Int32)))) (by rw [e29]; exact Ar37.1) (State.isArrayOf_alike hZ.alike Ar37.2.1) Ar37.2.2 hin37 (Ge37 _ (by decide) (by decide)) (g := (mkF m 204 #[.val (.int p1), .val (.int p2), .val (.int p3), .val (.int p4), .val (.int p5), .val (.int (1 : Int32)), .val (.int (0 : Int32)), .val (.int ss), .val (.int ll), .val (.int ss), .val (.int e1), .val (.int e2), .val (.ref b7), .val (.ref b15), .val (.int ((own_upd (own_upd (own_upd (own_upd (fun _ => (0 : Int32)) (0 : Int32) (-1 : Int32)) (1 : Int32) (-1 : Int32)) (2 : Int32) (-1 : Int32)) (0 : Int32) ss) (0 : Int32))), .val (.int ((own_upd (own_upd (own_upd (own_upd (fun _ => (0 : Int32)) (0 : Int32) (-1 : Int32)) (1 : Int32) (-1 : Int32)) (2 : Int32) (-1 : Int32)) (0 : Int32) ss) (1 : Int32))), .unset, .unset, .unset, .unset, .unset] [(.int (2 : Int32)), (.ref b15)])) rfl rfl (hb hby at_204) _ ?_
      show Steps p.tables e below (T29.setTop (mkF m 205 #[.val (.int p1), .val (.int p2), .val (.int p3), .val (.int p4), .val (.int p5), .val (.int (1 : Int32)), .val (.int (0 : Int32)), .val (.int ss), .val (.int ll), .val (.int ss), .val (.int e1), .val (.int e2), .val (.ref b7), .val (.ref b15), .val (.int ((own_upd (own_upd (own_upd (own_upd (fun _ => (0 : Int32)) (0 : Int32) (-1 : Int32)) (1 : Int32) (-1 : Int32)) (2 : Int32) (-1 : Int32)) (0 : Int32) ss) (0 : Int32))), .val (.int ((own_upd (own_upd (own_upd (own_upd (fun _ => (0 : Int32)) (0 : Int32) (-1 : Int32)) (1 : Int32) (-1 : Int32)) (2 : Int32) (-1 : Int32)) (0 : Int32) ss) (1 : Int32))), .unset, .unset, .unset, .unset, .unset] [(.int ((own_upd (own_upd (own_upd (own_upd (fun _ => (0 : Int32)) (0 : Int32) (-1 : Int32)) (1 : Int32) (-1 : Int32)) (2 : Int32) (-1 : Int32)) (0 : Int32) ss) (2 : Int32)))])) _
      refine XS.goto X29.here hx rfl (pc0 := 205) (pc' := 212) rfl (hb hby at_205) (by decide) (by decide) ?_
      show Steps p.tables e below (T29.setTop (mkF m 212 #[.val (.int p1), .val (.int p2), .val (.int p3), .val (.int p4), .val (.int p5), .val (.int (1 : Int32)), .val (.int (0 : Int32)), .val (.int ss), .val (.int ll), .val (.int ss), .val (.int e1), .val (.int e2), .val (.ref b7), .val (.ref b15), .val (.int ((own_upd (own_upd (own_upd (own_upd (fun _ => (0 : Int32)) (0 : Int32) (-1 : Int32)) (1 : Int32) (-1 : Int32)) (2 : Int32) (-1 : Int32)) (0 : Int32) ss) (0 : Int32))), .val (.int ((own_upd (own_upd (own_upd (own_upd (fun _ => (0 : Int32)) (0 : Int32) (-1 : Int32)) (1 : Int32) (-1 : Int32)) (2 : Int32) (-1 : Int32)) (0 : Int32) ss) (1 : Int32))), .unset, .unset, .unset, .unset, .unset] [(.int ((own_upd (own_upd (own_upd (own_upd (fun _ => (0 : Int32)) (0 : Int32) (-1 : Int32)) (1 : Int32) (-1 : Int32)) (2 : Int32) (-1 : Int32)) (0 : Int32) ss) (2 : Int32)))])) _
      refine XS.istore X29.here hx rfl (hb hby at_212) rfl (l' := #[.val (.int p1), .val (.int p2), .val (.int p3), .val (.int p4), .val (.int p5), .val (.int (1 : Int32)), .val (.int (0 : Int32)), .val (.int ss), .val (.int ll), .val (.int ss), .val (.int e1), .val (.int e2), .val (.ref b7), .val (.ref b15), .val (.int ((own_upd (own_upd (own_upd (own_upd (fun _ => (0 : Int32)) (0 : Int32) (-1 : Int32)) (1 : Int32) (-1 : Int32)) (2 : Int32) (-1 : Int32)) (0 : Int32) ss) (0 : Int32))), .val (.int ((own_upd (own_upd (own_upd (own_upd (fun _ => (0 : Int32)) (0 : Int32) (-1 : Int32)) (1 : Int32) (-1 : Int32)) (2 : Int32) (-1 : Int32)) (0 : Int32) ss) (1 : Int32))), .val (.int ((own_upd (own_upd (own_upd (own_upd (fun _ => (0 : Int32)) (0 : Int32) (-1 : Int32)) (1 : Int32) (-1 : Int32)) (2 : Int32) (-1 : Int32)) (0 : Int32) ss) (2 : Int32))), .unset, .unset, .unset, .unset]) rfl ?_
      exact kt)
    have hG : own_Good S10 ll (1 : Int32) ((own_upd (own_upd (own_upd (own_upd (fun _ => (0 : Int32)) (0 : Int32) (-1 : Int32)) (1 : Int32) (-1 : Int32)) (2 : Int32) (-1 : Int32)) (0 : Int32) ss) (0 : Int32)) ((own_upd (own_upd (own_upd (own_upd (fun _ => (0 : Int32)) (0 : Int32) (-1 : Int32)) (1 : Int32) (-1 : Int32)) (2 : Int32) (-1 : Int32)) (0 : Int32) ss) (1 : Int32)) ((own_upd (own_upd (own_upd (own_upd (fun _ => (0 : Int32)) (0 : Int32) (-1 : Int32)) (1 : Int32) (-1 : Int32)) (2 : Int32) (-1 : Int32)) (0 : Int32) ss) (2 : Int32)) := by subst h_e1 h_e2; rw [hS10]; exact own_good1 ss ll hs hl
    obtain ⟨Te, Ls, lc, Xe, Ne, ste⟩ := own_tail p1 p2 p3 p4 p5 (1 : Int32) (0 : Int32) ss ll ss e1 e2 b7 b15 ((own_upd (own_upd (own_upd (own_upd (fun _ => (0 : Int32)) (0 : Int32) (-1 : Int32)) (1 : Int32) (-1 : Int32)) (2 : Int32) (-1 : Int32)) (0 : Int32) ss) (0 : Int32)) ((own_upd (own_upd (own_upd (own_upd (fun _ => (0 : Int32)) (0 : Int32) (-1 : Int32)) (1 : Int32) (-1 : Int32)) (2 : Int32) (-1 : Int32)) (0 : Int32) ss) (1 : Int32)) ((own_upd (own_upd (own_upd (own_upd (fun _ => (0 : Int32)) (0 : Int32) (-1 : Int32)) (1 : Int32) (-1 : Int32)) (2 : Int32) (-1 : Int32)) (0 : Int32) ss) (2 : Int32)) aF8 aS8 aN8 aP8 S10 X29 hx hZ hw hby hml hown e29 N29 Zs29 c31 (own_two2 hl) hG
    obtain ⟨fs, hr, hrun, hended, hW, hsame⟩ := Xe.leave (v := some (.int (1 : Int32))) (fun h => by rw [Bd.returns] at h; cases h)
    refine ⟨_, _, P38 _ (ste _ ?_), hrun, hended, _, _, rfl, ?_, ⟨_, rfl⟩, hW, hsame.mono (by decide) (by decide)⟩
    · exact retN Xe hx (t := .boolean) Bd.returns (by simp) (hb hby at_454) hr
    · exact ⟨rfl, Ne⟩
  · skip
    have hc72_39 : ¬ ((2 : Int32) < (2 : Int32)) := by simp
    obtain ⟨cq40, kq40, q40a, q40b, q40c⟩ := isOf hZ rfl c11
    obtain ⟨_, _, ⟨T40, L40, k40, n40⟩, -, X40, ⟨Lc40, hQ40, l40, y40, z40⟩, st40⟩ := X10.virtualBack hx (y := (⟨"com/example/exact_equiv/exactequiv/equivalence/IntLists", "add", "(II)V"⟩ : MethodName)) (z := (⟨"com/example/exact_equiv/exactequiv/equivalence/IntLists", "add", "(II)V"⟩ : MethodName)) hown (mvT hZ (hw _ (List.mem_of_getElem? (i := 23) rfl))) (mvT hZ (hw _ (List.mem_of_getElem? (i := 24) rfl))) (notFace_of_selects (args := #[]) (mvT hZ (hw _ (List.mem_of_getElem? (i := 26) rfl)))) (mvT hZ (hw _ (List.mem_of_getElem? (i := 26) rfl))) (mvT hZ (hw _ (List.mem_of_getElem? (i := 25) rfl))) (by decide) (backOf (W := 0) (rmA l Z a0 hw [] b7 ll e1 aF8 aS8 aN8 aP8 S10 T10.heap n0 Zs10 HIq10 (own_two2 hl) (own_rng4 (own_s4 h_e1)) (Or.inr (by rw [hS10, own_add_first]; exact (own_rng4 hs)))) hZ (hw _ (List.mem_of_getElem? (i := 27) rfl)) (hw _ (List.mem_of_getElem? (i := 3) rfl)) (by decide) (by decide)) q40a q40c (g := (mkF m 81 #[.val (.int p1), .val (.int p2), .val (.int p3), .val (.int p4), .val (.int p5), .val (.int (2 : Int32)), .val (.int ps), .val (.int ss), .val (.int ll), .val (.int ss), .val (.int e1), .val (.int e2), .val (.ref b7), .unset, .unset, .unset, .unset, .unset, .unset, .unset, .unset] [(.int e1), (.int ll), (.ref b7)])) rfl (by rw [hml]; rfl) (Steps.refl _) (argsL := [(.int ll), (.int e1)]) (rest := []) (lenOf pd_1 rfl) rfl (by show 2 * 0 + _ ≤ _; exact Nat.le_of_eq rfl) (hb hby at_81) (fun _ _ => ⟨rfl, rfl, (by decide : 5 + 0 ≤ _), (by decide : 16 + 0 ≤ _)⟩)
    dsimp only [Pt.U, Pt.locs, Pt.cells, Pt.slots] at X40 l40 y40 z40 st40 hQ40
    subst l40 y40 z40
    obtain ⟨rfl, N40q, Kq40, HIq40⟩ := hQ40
    have N40 := Fr.app N10 N40q
    have c41 := c11.keep Kq40
    have Zs40 : n0 ≤ T40.heap.size := Nat.le_trans Zs10 Kq40.1
    obtain ⟨S40, hS40⟩ : ∃ z, z = own_add S10 ll e1 := ⟨_, rfl⟩
    rw [← hS40] at HIq40
    have hc87_42 : (2 : Int32) < (3 : Int32) := by decide
    obtain ⟨T43, h43, k43, X43, e43, E43, A43, st43⟩ := newP X40 hx hZ (hw _ (List.mem_of_getElem? (i := 10) rfl)) rfl (g := (mkF m 100 #[.val (.int p1), .val (.int p2), .val (.int p3), .val (.int p4), .val (.int p5), .val (.int (2 : Int32)), .val (.int ps), .val (.int ss), .val (.int ll), .val (.int ss), .val (.int e1), .val (.int e2), .val (.ref b7), .unset, .unset, .unset, .unset, .unset, .unset, .unset, .unset] [(.int (3 : Int32))])) rfl (hb hby at_100) rfl (by decide) (cap := 3) (by decide) (by decide) (by decide) (by decide)
    obtain ⟨b43, g43⟩ : ∃ z, z = T40.heap.size := ⟨_, rfl⟩
    rw [← g43] at A43 st43
    have g_b43 : n0 ≤ b43 := Nat.le_trans Zs40 (Nat.le_of_eq g43.symm)
    have il43 := own_IL_ne HIq40 g43
    have ne44 : b7 ≠ b43 := Nat.ne_of_lt (Nat.lt_of_lt_of_le c41.lt (Nat.le_of_eq g43.symm))
    have c45 := c41.ext E43
    have c46 := HIq40.ext E43
    have Zs43 : n0 ≤ h43.size := Nat.le_trans Zs40 E43.1
    have V43 := own_IA_new A43 (by decide)
    obtain ⟨cl47, Ar47, Sz47, Nn47, Ge47⟩ := id V43
    have hin47 := inb_of Sz47 (j := (0 : Int32)) ⟨(by decide), (by decide)⟩
    obtain ⟨T47, h47, X47, e47, W47, st47⟩ := stI X43 hx hZ e43 Ar47 (j := (0 : Int32)) hin47 (g := (mkF m 105 #[.val (.int p1), .val (.int p2), .val (.int p3), .val (.int p4), .val (.int p5), .val (.int (2 : Int32)), .val (.int ps), .val (.int ss), .val (.int ll), .val (.int ss), .val (.int e1), .val (.int e2), .val (.ref b7), .unset, .unset, .unset, .unset, .unset, .unset, .unset, .unset] [(.int (-1 : Int32)), (.int (0 : Int32)), (.ref b43), (.ref b43)])) rfl rfl (hb hby at_105)
    have Aw47 := own_IA_set Ar47 Sz47 Nn47 Ge47 (by decide) (by decide) W47
    have c48 := c45.wr W47
    have c49 := c46.other W47 il43
    have Zs47 : n0 ≤ h47.size := Nat.le_trans Zs43 (Keep.of_wr W47).1
    have N47 := Fr.snoc X47 N40 g_b43
    obtain ⟨cl50, Ar50, Sz50, Nn50, Ge50⟩ := id Aw47
    have hin50 := inb_of Sz50 (j := (1 : Int32)) ⟨(by decide), (by decide)⟩
    obtain ⟨T50, h50, X50, e50, W50, st50⟩ := stI X47 hx hZ e47 Ar50 (j := (1 : Int32)) hin50 (g := (mkF m 109 #[.val (.int p1), .val (.int p2), .val (.int p3), .val (.int p4), .val (.int p5), .val (.int (2 : Int32)), .val (.int ps), .val (.int ss), .val (.int ll), .val (.int ss), .val (.int e1), .val (.int e2), .val (.ref b7), .unset, .unset, .unset, .unset, .unset, .unset, .unset, .unset] [(.int (-1 : Int32)), (.int (1 : Int32)), (.ref b43), (.ref b43)])) rfl rfl (hb hby at_109)
    have Aw50 := own_IA_set Ar50 Sz50 Nn50 Ge50 (by decide) (by decide) W50
    have c51 := c48.wr W50
    have c52 := c49.other W50 il43
    have Zs50 : n0 ≤ h50.size := Nat.le_trans Zs47 (Keep.of_wr W50).1
    have N50 := Fr.snoc X50 N47 g_b43
    obtain ⟨cl53, Ar53, Sz53, Nn53, Ge53⟩ := id Aw50
    have hin53 := inb_of Sz53 (j := (2 : Int32)) ⟨(by decide), (by decide)⟩
    obtain ⟨T53, h53, X53, e53, W53, st53⟩ := stI X50 hx hZ e50 Ar53 (j := (2 : Int32)) hin53 (g := (mkF m 113 #[.val (.int p1), .val (.int p2), .val (.int p3), .val (.int p4), .val (.int p5), .val (.int (2 : Int32)), .val (.int ps), .val (.int ss), .val (.int ll), .val (.int ss), .val (.int e1), .val (.int e2), .val (.ref b7), .unset, .unset, .unset, .unset, .unset, .unset, .unset, .unset] [(.int (-1 : Int32)), (.int (2 : Int32)), (.ref b43), (.ref b43)])) rfl rfl (hb hby at_113)
    have Aw53 := own_IA_set Ar53 Sz53 Nn53 Ge53 (by decide) (by decide) W53
    have c54 := c51.wr W53
    have c55 := c52.other W53 il43
    have Zs53 : n0 ≤ h53.size := Nat.le_trans Zs50 (Keep.of_wr W53).1
    have N53 := Fr.snoc X53 N50 g_b43
    have hc119_56 : ¬ ((2 : Int32) = (1 : Int32)) := by decide
    have hc134_57 : (2 : Int32) = (2 : Int32) := rfl
    obtain ⟨cl58, Ar58, Sz58, Nn58, Ge58⟩ := id Aw53
    have hin58 := inb_of Sz58 (j := (0 : Int32)) ⟨(by decide), (by decide)⟩
    obtain ⟨T58, h58, X58, e58, W58, st58⟩ := stI X53 hx hZ e53 Ar58 (j := (0 : Int32)) hin58 (g := (mkF m 142 #[.val (.int p1), .val (.int p2), .val (.int p3), .val (.int p4), .val (.int p5), .val (.int (2 : Int32)), .val (.int ps), .val (.int ss), .val (.int ll), .val (.int ss), .val (.int e1), .val (.int e2), .val (.ref b7), .val (.ref b43), .unset, .unset, .unset, .unset, .unset, .unset, .unset] [(.int e1), (.int (0 : Int32)), (.ref b43)])) rfl rfl (hb hby at_142)
    have Aw58 := own_IA_set Ar58 Sz58 Nn58 Ge58 (by decide) (by decide) W58
    have c59 := c54.wr W58
    have c60 := c55.other W58 il43
    have Zs58 : n0 ≤ h58.size := Nat.le_trans Zs53 (Keep.of_wr W58).1
    have N58 := Fr.snoc X58 N53 g_b43
    obtain ⟨cl61, Ar61, Sz61, Nn61, Ge61⟩ := id Aw58
    have hin61 := inb_of Sz61 (j := (1 : Int32)) ⟨(by decide), (by decide)⟩
    obtain ⟨T61, h61, X61, e61, W61, st61⟩ := stI X58 hx hZ e58 Ar61 (j := (1 : Int32)) hin61 (g := (mkF m 148 #[.val (.int p1), .val (.int p2), .val (.int p3), .val (.int p4), .val (.int p5), .val (.int (2 : Int32)), .val (.int ps), .val (.int ss), .val (.int ll), .val (.int ss), .val (.int e1), .val (.int e2), .val (.ref b7), .val (.ref b43), .unset, .unset, .unset, .unset, .unset, .unset, .unset] [(.int ss), (.int (1 : Int32)), (.ref b43)])) rfl rfl (hb hby at_148)
    have Aw61 := own_IA_set Ar61 Sz61 Nn61 Ge61 (by decide) (by decide) W61
    have c62 := c59.wr W61
    have c63 := c60.other W61 il43
    have Zs61 : n0 ≤ h61.size := Nat.le_trans Zs58 (Keep.of_wr W61).1
    have N61 := Fr.snoc X61 N58 g_b43
    have hps := own_p2 h_ps
    have P64 : ∀ t, Steps p.tables e below (T61.setTop (mkF m 170 #[.val (.int p1), .val (.int p2), .val (.int p3), .val (.int p4), .val (.int p5), .val (.int (2 : Int32)), .val (.int ps), .val (.int ss), .val (.int ll), .val (.int ss), .val (.int e1), .val (.int e2), .val (.ref b7), .val (.ref b43), .unset, .unset, .unset, .unset, .unset, .unset, .unset] [])) t → Steps p.tables e below (s₁.setTop (entryFrame m #[(.int p1), (.int p2), (.int p3), (.int p4), (.int p5)] maxLocals)) t := fun t kt => P12 t (by
      show Steps p.tables e below (T10.setTop (mkF m 69 #[.val (.int p1), .val (.int p2), .val (.int p3), .val (.int p4), .val (.int p5), .val (.int (2 : Int32)), .val (.int ps), .val (.int ss), .val (.int ll), .val (.int ss), .val (.int e1), .val (.int e2), .val (.ref b7), .unset, .unset, .unset, .unset, .unset, .unset, .unset, .unset] [])) _
      refine XS.iload X10.here hx rfl (hb hby at_69) rfl ?_
      show Steps p.tables e below (T10.setTop (mkF m 71 #[.val (.int p1), .val (.int p2), .val (.int p3), .val (.int p4), .val (.int p5), .val (.int (2 : Int32)), .val (.int ps), .val (.int ss), .val (.int ll), .val (.int ss), .val (.int e1), .val (.int e2), .val (.ref b7), .unset, .unset, .unset, .unset, .unset, .unset, .unset, .unset] [(.int (2 : Int32))])) _
      refine XS.iconst X10.here hx rfl (hb hby at_71) ?_
      show Steps p.tables e below (T10.setTop (mkF m 72 #[.val (.int p1), .val (.int p2), .val (.int p3), .val (.int p4), .val (.int p5), .val (.int (2 : Int32)), .val (.int ps), .val (.int ss), .val (.int ll), .val (.int ss), .val (.int e1), .val (.int e2), .val (.ref b7), .unset, .unset, .unset, .unset, .unset, .unset, .unset, .unset] [(.int (2 : Int32)), (.int (2 : Int32))])) _
      refine XS.icmpNo X10.here hx rfl (hb hby at_72) rfl (XT.ii_lt_f hc72_39) ?_
      show Steps p.tables e below (T10.setTop (mkF m 75 #[.val (.int p1), .val (.int p2), .val (.int p3), .val (.int p4), .val (.int p5), .val (.int (2 : Int32)), .val (.int ps), .val (.int ss), .val (.int ll), .val (.int ss), .val (.int e1), .val (.int e2), .val (.ref b7), .unset, .unset, .unset, .unset, .unset, .unset, .unset, .unset] [])) _
      refine XS.aload X10.here hx rfl (hb hby at_75) rfl rfl ?_
      show Steps p.tables e below (T10.setTop (mkF m 77 #[.val (.int p1), .val (.int p2), .val (.int p3), .val (.int p4), .val (.int p5), .val (.int (2 : Int32)), .val (.int ps), .val (.int ss), .val (.int ll), .val (.int ss), .val (.int e1), .val (.int e2), .val (.ref b7), .unset, .unset, .unset, .unset, .unset, .unset, .unset, .unset] [(.ref b7)])) _
      refine XS.iload X10.here hx rfl (hb hby at_77) rfl ?_
      show Steps p.tables e below (T10.setTop (mkF m 79 #[.val (.int p1), .val (.int p2), .val (.int p3), .val (.int p4), .val (.int p5), .val (.int (2 : Int32)), .val (.int ps), .val (.int ss), .val (.int ll), .val (.int ss), .val (.int e1), .val (.int e2), .val (.ref b7), .unset, .unset, .unset, .unset, .unset, .unset, .unset, .unset] [(.int ll), (.ref b7)])) _
      refine XS.iload X10.here hx rfl (hb hby at_79) rfl ?_
      show Steps p.tables e below (T10.setTop (mkF m 81 #[.val (.int p1), .val (.int p2), .val (.int p3), .val (.int p4), .val (.int p5), .val (.int (2 : Int32)), .val (.int ps), .val (.int ss), .val (.int ll), .val (.int ss), .val (.int e1), .val (.int e2), .val (.ref b7), .unset, .unset, .unset, .unset, .unset, .unset, .unset, .unset] [(.int e1), (.int ll), (.ref b7)])) _
      refine st40.trans ?_
      show Steps p.tables e below (T40.setTop (mkF m 84 #[.val (.int p1), .val (.int p2), .val (.int p3), .val (.int p4), .val (.int p5), .val (.int (2 : Int32)), .val (.int ps), .val (.int ss), .val (.int ll), .val (.int ss), .val (.int e1), .val (.int e2), .val (.ref b7), .unset, .unset, .unset, .unset, .unset, .unset, .unset, .unset] [])) _
      refine XS.iload X40.here hx rfl (hb hby at_84) rfl ?_
      show Steps p.tables e below (T40.setTop (mkF m 86 #[.val (.int p1), .val (.int p2), .val (.int p3), .val (.int p4), .val (.int p5), .val (.int (2 : Int32)), .val (.int ps), .val (.int ss), .val (.int ll), .val (.int ss), .val (.int e1), .val (.int e2), .val (.ref b7), .unset, .unset, .unset, .unset, .unset, .unset, .unset, .unset] [(.int (2 : Int32))])) _
      refine XS.iconst X40.here hx rfl (hb hby at_86) ?_
      show Steps p.tables e below (T40.setTop (mkF m 87 #[.val (.int p1), .val (.int p2), .val (.int p3), .val (.int p4), .val (.int p5), .val (.int (2 : Int32)), .val (.int ps), .val (.int ss), .val (.int ll), .val (.int ss), .val (.int e1), .val (.int e2), .val (.ref b7), .unset, .unset, .unset, .unset, .unset, .unset, .unset, .unset] [(.int (3 : Int32)), (.int (2 : Int32))])) _
      refine XS.icmpYes X40.here hx rfl (pc0 := 87) (pc' := 99) rfl (hb hby at_87) rfl (XT.ii_lt_t hc87_42) (by decide) (by decide) ?_
      show Steps p.tables e below (T40.setTop (mkF m 99 #[.val (.int p1), .val (.int p2), .val (.int p3), .val (.int p4), .val (.int p5), .val (.int (2 : Int32)), .val (.int ps), .val (.int ss), .val (.int ll), .val (.int ss), .val (.int e1), .val (.int e2), .val (.ref b7), .unset, .unset, .unset, .unset, .unset, .unset, .unset, .unset] [])) _
      refine XS.iconst X40.here hx rfl (hb hby at_99) ?_
      show Steps p.tables e below (T40.setTop (mkF m 100 #[.val (.int p1), .val (.int p2), .val (.int p3), .val (.int p4), .val (.int p5), .val (.int (2 : Int32)), .val (.int ps), .val (.int ss), .val (.int ll), .val (.int ss), .val (.int e1), .val (.int e2), .val (.ref b7), .unset, .unset, .unset, .unset, .unset, .unset, .unset, .unset] [(.int (3 : Int32))])) _
      refine st43 _ ?_
      show Steps p.tables e below (T43.setTop (mkF m 102 #[.val (.int p1), .val (.int p2), .val (.int p3), .val (.int p4), .val (.int p5), .val (.int (2 : Int32)), .val (.int ps), .val (.int ss), .val (.int ll), .val (.int ss), .val (.int e1), .val (.int e2), .val (.ref b7), .unset, .unset, .unset, .unset, .unset, .unset, .unset, .unset] [(.ref b43)])) _
      refine XS.dup X43.here hx rfl (hb hby at_102) rfl rfl ?_
      show Steps p.tables e below (T43.setTop (mkF m 103 #[.val (.int p1), .val (.int p2), .val (.int p3), .val (.int p4), .val (.int p5), .val (.int (2 : Int32)), .val (.int ps), .val (.int ss), .val (.int ll), .val (.int ss), .val (.int e1), .val (.int e2), .val (.ref b7), .unset, .unset, .unset, .unset, .unset, .unset, .unset, .unset] [(.ref b43), (.ref b43)])) _
      refine XS.iconst X43.here hx rfl (hb hby at_103) ?_
      show Steps p.tables e below (T43.setTop (mkF m 104 #[.val (.int p1), .val (.int p2), .val (.int p3), .val (.int p4), .val (.int p5), .val (.int (2 : Int32)), .val (.int ps), .val (.int ss), .val (.int ll), .val (.int ss), .val (.int e1), .val (.int e2), .val (.ref b7), .unset, .unset, .unset, .unset, .unset, .unset, .unset, .unset] [(.int (0 : Int32)), (.ref b43), (.ref b43)])) _
      refine XS.iconst X43.here hx rfl (hb hby at_104) ?_
      show Steps p.tables e below (T43.setTop (mkF m 105 #[.val (.int p1), .val (.int p2), .val (.int p3), .val (.int p4), .val (.int p5), .val (.int (2 : Int32)), .val (.int ps), .val (.int ss), .val (.int ll), .val (.int ss), .val (.int e1), .val (.int e2), .val (.ref b7), .unset, .unset, .unset, .unset, .unset, .unset, .unset, .unset] [(.int (-1 : Int32)), (.int (0 : Int32)), (.ref b43), (.ref b43)])) _
      refine st47 _ ?_
      show Steps p.tables e below (T47.setTop (mkF m 106 #[.val (.int p1), .val (.int p2), .val (.int p3), .val (.int p4), .val (.int p5), .val (.int (2 : Int32)), .val (.int ps), .val (.int ss), .val (.int ll), .val (.int ss), .val (.int e1), .val (.int e2), .val (.ref b7), .unset, .unset, .unset, .unset, .unset, .unset, .unset, .unset] [(.ref b43)])) _
      refine XS.dup X47.here hx rfl (hb hby at_106) rfl rfl ?_
      show Steps p.tables e below (T47.setTop (mkF m 107 #[.val (.int p1), .val (.int p2), .val (.int p3), .val (.int p4), .val (.int p5), .val (.int (2 : Int32)), .val (.int ps), .val (.int ss), .val (.int ll), .val (.int ss), .val (.int e1), .val (.int e2), .val (.ref b7), .unset, .unset, .unset, .unset, .unset, .unset, .unset, .unset] [(.ref b43), (.ref b43)])) _
      refine XS.iconst X47.here hx rfl (hb hby at_107) ?_
      show Steps p.tables e below (T47.setTop (mkF m 108 #[.val (.int p1), .val (.int p2), .val (.int p3), .val (.int p4), .val (.int p5), .val (.int (2 : Int32)), .val (.int ps), .val (.int ss), .val (.int ll), .val (.int ss), .val (.int e1), .val (.int e2), .val (.ref b7), .unset, .unset, .unset, .unset, .unset, .unset, .unset, .unset] [(.int (1 : Int32)), (.ref b43), (.ref b43)])) _
      refine XS.iconst X47.here hx rfl (hb hby at_108) ?_
      show Steps p.tables e below (T47.setTop (mkF m 109 #[.val (.int p1), .val (.int p2), .val (.int p3), .val (.int p4), .val (.int p5), .val (.int (2 : Int32)), .val (.int ps), .val (.int ss), .val (.int ll), .val (.int ss), .val (.int e1), .val (.int e2), .val (.ref b7), .unset, .unset, .unset, .unset, .unset, .unset, .unset, .unset] [(.int (-1 : Int32)), (.int (1 : Int32)), (.ref b43), (.ref b43)])) _
      refine st50 _ ?_
      show Steps p.tables e below (T50.setTop (mkF m 110 #[.val (.int p1), .val (.int p2), .val (.int p3), .val (.int p4), .val (.int p5), .val (.int (2 : Int32)), .val (.int ps), .val (.int ss), .val (.int ll), .val (.int ss), .val (.int e1), .val (.int e2), .val (.ref b7), .unset, .unset, .unset, .unset, .unset, .unset, .unset, .unset] [(.ref b43)])) _
      refine XS.dup X50.here hx rfl (hb hby at_110) rfl rfl ?_
      show Steps p.tables e below (T50.setTop (mkF m 111 #[.val (.int p1), .val (.int p2), .val (.int p3), .val (.int p4), .val (.int p5), .val (.int (2 : Int32)), .val (.int ps), .val (.int ss), .val (.int ll), .val (.int ss), .val (.int e1), .val (.int e2), .val (.ref b7), .unset, .unset, .unset, .unset, .unset, .unset, .unset, .unset] [(.ref b43), (.ref b43)])) _
      refine XS.iconst X50.here hx rfl (hb hby at_111) ?_
      show Steps p.tables e below (T50.setTop (mkF m 112 #[.val (.int p1), .val (.int p2), .val (.int p3), .val (.int p4), .val (.int p5), .val (.int (2 : Int32)), .val (.int ps), .val (.int ss), .val (.int ll), .val (.int ss), .val (.int e1), .val (.int e2), .val (.ref b7), .unset, .unset, .unset, .unset, .unset, .unset, .unset, .unset] [(.int (2 : Int32)), (.ref b43), (.ref b43)])) _
      refine XS.iconst X50.here hx rfl (hb hby at_112) ?_
      show Steps p.tables e below (T50.setTop (mkF m 113 #[.val (.int p1), .val (.int p2), .val (.int p3), .val (.int p4), .val (.int p5), .val (.int (2 : Int32)), .val (.int ps), .val (.int ss), .val (.int ll), .val (.int ss), .val (.int e1), .val (.int e2), .val (.ref b7), .unset, .unset, .unset, .unset, .unset, .unset, .unset, .unset] [(.int (-1 : Int32)), (.int (2 : Int32)), (.ref b43), (.ref b43)])) _
      refine st53 _ ?_
      show Steps p.tables e below (T53.setTop (mkF m 114 #[.val (.int p1), .val (.int p2), .val (.int p3), .val (.int p4), .val (.int p5), .val (.int (2 : Int32)), .val (.int ps), .val (.int ss), .val (.int ll), .val (.int ss), .val (.int e1), .val (.int e2), .val (.ref b7), .unset, .unset, .unset, .unset, .unset, .unset, .unset, .unset] [(.ref b43)])) _
      refine XS.astore X53.here hx rfl (hb hby at_114) rfl rfl (l' := #[.val (.int p1), .val (.int p2), .val (.int p3), .val (.int p4), .val (.int p5), .val (.int (2 : Int32)), .val (.int ps), .val (.int ss), .val (.int ll), .val (.int ss), .val (.int e1), .val (.int e2), .val (.ref b7), .val (.ref b43), .unset, .unset, .unset, .unset, .unset, .unset, .unset]) rfl ?_
      show Steps p.tables e below (T53.setTop (mkF m 116 #[.val (.int p1), .val (.int p2), .val (.int p3), .val (.int p4), .val (.int p5), .val (.int (2 : Int32)), .val (.int ps), .val (.int ss), .val (.int ll), .val (.int ss), .val (.int e1), .val (.int e2), .val (.ref b7), .val (.ref b43), .unset, .unset, .unset, .unset, .unset, .unset, .unset] [])) _
      refine XS.iload X53.here hx rfl (hb hby at_116) rfl ?_
      show Steps p.tables e below (T53.setTop (mkF m 118 #[.val (.int p1), .val (.int p2), .val (.int p3), .val (.int p4), .val (.int p5), .val (.int (2 : Int32)), .val (.int ps), .val (.int ss), .val (.int ll), .val (.int ss), .val (.int e1), .val (.int e2), .val (.ref b7), .val (.ref b43), .unset, .unset, .unset, .unset, .unset, .unset, .unset] [(.int (2 : Int32))])) _
      refine XS.iconst X53.here hx rfl (hb hby at_118) ?_
      show Steps p.tables e below (T53.setTop (mkF m 119 #[.val (.int p1), .val (.int p2), .val (.int p3), .val (.int p4), .val (.int p5), .val (.int (2 : Int32)), .val (.int ps), .val (.int ss), .val (.int ll), .val (.int ss), .val (.int e1), .val (.int e2), .val (.ref b7), .val (.ref b43), .unset, .unset, .unset, .unset, .unset, .unset, .unset] [(.int (1 : Int32)), (.int (2 : Int32))])) _
      refine XS.icmpYes X53.here hx rfl (pc0 := 119) (pc' := 131) rfl (hb hby at_119) rfl (XT.ii_ne_t hc119_56) (by decide) (by decide) ?_
      show Steps p.tables e below (T53.setTop (mkF m 131 #[.val (.int p1), .val (.int p2), .val (.int p3), .val (.int p4), .val (.int p5), .val (.int (2 : Int32)), .val (.int ps), .val (.int ss), .val (.int ll), .val (.int ss), .val (.int e1), .val (.int e2), .val (.ref b7), .val (.ref b43), .unset, .unset, .unset, .unset, .unset, .unset, .unset] [])) _
      refine XS.iload X53.here hx rfl (hb hby at_131) rfl ?_
      show Steps p.tables e below (T53.setTop (mkF m 133 #[.val (.int p1), .val (.int p2), .val (.int p3), .val (.int p4), .val (.int p5), .val (.int (2 : Int32)), .val (.int ps), .val (.int ss), .val (.int ll), .val (.int ss), .val (.int e1), .val (.int e2), .val (.ref b7), .val (.ref b43), .unset, .unset, .unset, .unset, .unset, .unset, .unset] [(.int (2 : Int32))])) _
      refine XS.iconst X53.here hx rfl (hb hby at_133) ?_
      show Steps p.tables e below (T53.setTop (mkF m 134 #[.val (.int p1), .val (.int p2), .val (.int p3), .val (.int p4), .val (.int p5), .val (.int (2 : Int32)), .val (.int ps), .val (.int ss), .val (.int ll), .val (.int ss), .val (.int e1), .val (.int e2), .val (.ref b7), .val (.ref b43), .unset, .unset, .unset, .unset, .unset, .unset, .unset] [(.int (2 : Int32)), (.int (2 : Int32))])) _
      refine XS.icmpNo X53.here hx rfl (hb hby at_134) rfl (XT.ii_ne_f hc134_57) ?_
      show Steps p.tables e below (T53.setTop (mkF m 137 #[.val (.int p1), .val (.int p2), .val (.int p3), .val (.int p4), .val (.int p5), .val (.int (2 : Int32)), .val (.int ps), .val (.int ss), .val (.int ll), .val (.int ss), .val (.int e1), .val (.int e2), .val (.ref b7), .val (.ref b43), .unset, .unset, .unset, .unset, .unset, .unset, .unset] [])) _
      refine XS.aload X53.here hx rfl (hb hby at_137) rfl rfl ?_
      show Steps p.tables e below (T53.setTop (mkF m 139 #[.val (.int p1), .val (.int p2), .val (.int p3), .val (.int p4), .val (.int p5), .val (.int (2 : Int32)), .val (.int ps), .val (.int ss), .val (.int ll), .val (.int ss), .val (.int e1), .val (.int e2), .val (.ref b7), .val (.ref b43), .unset, .unset, .unset, .unset, .unset, .unset, .unset] [(.ref b43)])) _
      refine XS.iconst X53.here hx rfl (hb hby at_139) ?_
      show Steps p.tables e below (T53.setTop (mkF m 140 #[.val (.int p1), .val (.int p2), .val (.int p3), .val (.int p4), .val (.int p5), .val (.int (2 : Int32)), .val (.int ps), .val (.int ss), .val (.int ll), .val (.int ss), .val (.int e1), .val (.int e2), .val (.ref b7), .val (.ref b43), .unset, .unset, .unset, .unset, .unset, .unset, .unset] [(.int (0 : Int32)), (.ref b43)])) _
      refine XS.iload X53.here hx rfl (hb hby at_140) rfl ?_
      show Steps p.tables e below (T53.setTop (mkF m 142 #[.val (.int p1), .val (.int p2), .val (.int p3), .val (.int p4), .val (.int p5), .val (.int (2 : Int32)), .val (.int ps), .val (.int ss), .val (.int ll), .val (.int ss), .val (.int e1), .val (.int e2), .val (.ref b7), .val (.ref b43), .unset, .unset, .unset, .unset, .unset, .unset, .unset] [(.int e1), (.int (0 : Int32)), (.ref b43)])) _
      refine st58 _ ?_
      show Steps p.tables e below (T58.setTop (mkF m 143 #[.val (.int p1), .val (.int p2), .val (.int p3), .val (.int p4), .val (.int p5), .val (.int (2 : Int32)), .val (.int ps), .val (.int ss), .val (.int ll), .val (.int ss), .val (.int e1), .val (.int e2), .val (.ref b7), .val (.ref b43), .unset, .unset, .unset, .unset, .unset, .unset, .unset] [])) _
      refine XS.aload X58.here hx rfl (hb hby at_143) rfl rfl ?_
      show Steps p.tables e below (T58.setTop (mkF m 145 #[.val (.int p1), .val (.int p2), .val (.int p3), .val (.int p4), .val (.int p5), .val (.int (2 : Int32)), .val (.int ps), .val (.int ss), .val (.int ll), .val (.int ss), .val (.int e1), .val (.int e2), .val (.ref b7), .val (.ref b43), .unset, .unset, .unset, .unset, .unset, .unset, .unset] [(.ref b43)])) _
      refine XS.iconst X58.here hx rfl (hb hby at_145) ?_
      show Steps p.tables e below (T58.setTop (mkF m 146 #[.val (.int p1), .val (.int p2), .val (.int p3), .val (.int p4), .val (.int p5), .val (.int (2 : Int32)), .val (.int ps), .val (.int ss), .val (.int ll), .val (.int ss), .val (.int e1), .val (.int e2), .val (.ref b7), .val (.ref b43), .unset, .unset, .unset, .unset, .unset, .unset, .unset] [(.int (1 : Int32)), (.ref b43)])) _
      refine XS.iload X58.here hx rfl (hb hby at_146) rfl ?_
      show Steps p.tables e below (T58.setTop (mkF m 148 #[.val (.int p1), .val (.int p2), .val (.int p3), .val (.int p4), .val (.int p5), .val (.int (2 : Int32)), .val (.int ps), .val (.int ss), .val (.int ll), .val (.int ss), .val (.int e1), .val (.int e2), .val (.ref b7), .val (.ref b43), .unset, .unset, .unset, .unset, .unset, .unset, .unset] [(.int ss), (.int (1 : Int32)), (.ref b43)])) _
      refine st61 _ ?_
      show Steps p.tables e below (T61.setTop (mkF m 149 #[.val (.int p1), .val (.int p2), .val (.int p3), .val (.int p4), .val (.int p5), .val (.int (2 : Int32)), .val (.int ps), .val (.int ss), .val (.int ll), .val (.int ss), .val (.int e1), .val (.int e2), .val (.ref b7), .val (.ref b43), .unset, .unset, .unset, .unset, .unset, .unset, .unset] [])) _
      refine XS.goto X61.here hx rfl (pc0 := 149) (pc' := 170) rfl (hb hby at_149) (by decide) (by decide) ?_
      exact kt)
    rcases hps with rfl | rfl
    · skip
      obtain ⟨cl65, Ar65, Sz65, Nn65, Ge65⟩ := id Aw61
      have hin65 := inb_of Sz65 (j := (0 : Int32)) ⟨(by decide), (by decide)⟩
      have hc179_66 : (0 : Int32) = (0 : Int32) := rfl
      obtain ⟨cl67, Ar67, Sz67, Nn67, Ge67⟩ := id Aw61
      have hin67 := inb_of Sz67 (j := (1 : Int32)) ⟨(by decide), (by decide)⟩
      have hc198_68 : ¬ ((1 : Int32) < (0 : Int32)) := by decide
      obtain ⟨cl69, Ar69, Sz69, Nn69, Ge69⟩ := id Aw61
      have hin69 := inb_of Sz69 (j := (2 : Int32)) ⟨(by decide), (by decide)⟩
      have P70 : ∀ t, Steps p.tables e below (T61.setTop (mkF m 214 #[.val (.int p1), .val (.int p2), .val (.int p3), .val (.int p4), .val (.int p5), .val (.int (2 : Int32)), .val (.int (0 : Int32)), .val (.int ss), .val (.int ll), .val (.int ss), .val (.int e1), .val (.int e2), .val (.ref b7), .val (.ref b43), .val (.int ((own_upd (own_upd (own_upd (own_upd (own_upd (fun _ => (0 : Int32)) (0 : Int32) (-1 : Int32)) (1 : Int32) (-1 : Int32)) (2 : Int32) (-1 : Int32)) (0 : Int32) e1) (1 : Int32) ss) (0 : Int32))), .val (.int ((own_upd (own_upd (own_upd (own_upd (own_upd (fun _ => (0 : Int32)) (0 : Int32) (-1 : Int32)) (1 : Int32) (-1 : Int32)) (2 : Int32) (-1 : Int32)) (0 : Int32) e1) (1 : Int32) ss) (1 : Int32))), .val (.int ((own_upd (own_upd (own_upd (own_upd (own_upd (fun _ => (0 : Int32)) (0 : Int32) (-1 : Int32)) (1 : Int32) (-1 : Int32)) (2 : Int32) (-1 : Int32)) (0 : Int32) e1) (1 : Int32) ss) (2 : Int32))), .unset, .unset, .unset, .unset] [])) t → Steps p.tables e below (s₁.setTop (entryFrame m #[(.int p1), (.int p2), (.int p3), (.int p4), (.int p5)] maxLocals)) t := fun t kt => P64 t (by
        show Steps p.tables e below (T61.setTop (mkF m 170 #[.val (.int p1), .val (.int p2), .val (.int p3), .val (.int p4), .val (.int p5), .val (.int (2 : Int32)), .val (.int (0 : Int32)), .val (.int ss), .val (.int ll), .val (.int ss), .val (.int e1), .val (.int e2), .val (.ref b7), .val (.ref b43), .unset, .unset, .unset, .unset, .unset, .unset, .unset] [])) _
        refine XS.aload X61.here hx rfl (hb hby at_170) rfl rfl ?_
        show Steps p.tables e below (T61.setTop (mkF m 172 #[.val (.int p1), .val (.int p2), .val (.int p3), .val (.int p4), .val (.int p5), .val (.int (2 : Int32)), .val (.int (0 : Int32)), .val (.int ss), .val (.int ll), .val (.int ss), .val (.int e1), .val (.int e2), .val (.ref b7), .val (.ref b43), .unset, .unset, .unset, .unset, .unset, .unset, .unset] [(.ref b43)])) _
        refine XS.iload X61.here hx rfl (hb hby at_172) rfl ?_
        show Steps p.tables e below (T61.setTop (mkF m 174 #[.val (.int p1), .val (.int p2), .val (.int p3), .val (.int p4), .val (.int p5), .val (.int (2 : Int32)), .val (.int (0 : Int32)), .val (.int ss), .val (.int ll), .val (.int ss), .val (.int e1), .val (.int e2), .val (.ref b7), .val (.ref b43), .unset, .unset, .unset, .unset, .unset, .unset, .unset] [(.int (0 : Int32)), (.ref b43)])) _
        refine X61.iaload hx (j := (0 : Int32)) (v := (.int ((own_upd (own_upd (own_upd (own_upd (own_upd (fun _ => (0 : Int32)) (0 : Int32) (-1 : Int32)) (1 : Int32) (-1 : Int32)) (2 : Int32) (-1 : Int32)) (0 : Int32) e1) (1 : Int32) ss) (0 : Int32)))) (by rw [e61]; exact Ar65.1) (State.isArrayOf_alike hZ.alike Ar65.2.1) Ar65.2.2 hin65 (Ge65 _ (by decide) (by decide)) (g := (mkF m 174 #[.val (.int p1), .val (.int p2), .val (.int p3), .val (.int p4), .val (.int p5), .val (.int (2 : Int32)), .val (.int (0 : Int32)), .val (.int ss), .val (.int ll), .val (.int ss), .val (.int e1), .val (.int e2), .val (.ref b7), .val (.ref b43), .unset, .unset, .unset, .unset, .unset, .unset, .unset] [(.int (0 : Int32)), (.ref b43)])) rfl rfl (hb hby at_174) _ ?_
        show Steps p.tables e below (T61.setTop (mkF m 175 #[.val (.int p1), .val (.int p2), .val (.int p3), .val (.int p4), .val (.int p5), .val (.int (2 : Int32)), .val (.int (0 : Int32)), .val (.int ss), .val (.int ll), .val (.int ss), .val (.int e1), .val (.int e2), .val (.ref b7), .val (.ref b43), .unset, .unset, .unset, .unset, .unset, .unset, .unset] [(.int ((own_upd (own_upd (own_upd (own_upd (own_upd (fun _ => (0 : Int32)) (0 : Int32) (-1 : Int32)) (1 : Int32) (-1 : Int32)) (2 : Int32) (-1 : Int32)) (0 : Int32) e1) (1 : Int32) ss) (0 : Int32)))])) _
        refine XS.istore X61.here hx rfl (hb hby at_175) rfl (l' := #[.val (.int p1), .val (.int p2), .val (.int p3), .val (.int p4), .val (.int p5), .val (.int (2 : Int32)), .val (.int (0 : Int32)), .val (.int ss), .val (.int ll), .val (.int ss), .val (.int e1), .val (.int e2), .val (.ref b7), .val (.ref b43), .val (.int ((own_upd (own_upd (own_upd (own_upd (own_upd (fun _ => (0 : Int32)) (0 : Int32) (-1 : Int32)) (1 : Int32) (-1 : Int32)) (2 : Int32) (-1 : Int32)) (0 : Int32) e1) (1 : Int32) ss) (0 : Int32))), .unset, .unset, .unset, .unset, .unset, .unset]) rfl ?_
        show Steps p.tables e below (T61.setTop (mkF m 177 #[.val (.int p1), .val (.int p2), .val (.int p3), .val (.int p4), .val (.int p5), .val (.int (2 : Int32)), .val (.int (0 : Int32)), .val (.int ss), .val (.int ll), .val (.int ss), .val (.int e1), .val (.int e2), .val (.ref b7), .val (.ref b43), .val (.int ((own_upd (own_upd (own_upd (own_upd (own_upd (fun _ => (0 : Int32)) (0 : Int32) (-1 : Int32)) (1 : Int32) (-1 : Int32)) (2 : Int32) (-1 : Int32)) (0 : Int32) e1) (1 : Int32) ss) (0 : Int32))), .unset, .unset, .unset, .unset, .unset, .unset] [])) _
        refine XS.iload X61.here hx rfl (hb hby at_177) rfl ?_
        show Steps p.tables e below (T61.setTop (mkF m 179 #[.val (.int p1), .val (.int p2), .val (.int p3), .val (.int p4), .val (.int p5), .val (.int (2 : Int32)), .val (.int (0 : Int32)), .val (.int ss), .val (.int ll), .val (.int ss), .val (.int e1), .val (.int e2), .val (.ref b7), .val (.ref b43), .val (.int ((own_upd (own_upd (own_upd (own_upd (own_upd (fun _ => (0 : Int32)) (0 : Int32) (-1 : Int32)) (1 : Int32) (-1 : Int32)) (2 : Int32) (-1 : Int32)) (0 : Int32) e1) (1 : Int32) ss) (0 : Int32))), .unset, .unset, .unset, .unset, .unset, .unset] [(.int (0 : Int32))])) _
        refine XS.ifNo X61.here hx rfl (hb hby at_179) rfl (XT.i0_ne_f hc179_66) ?_
        show Steps p.tables e below (T61.setTop (mkF m 182 #[.val (.int p1), .val (.int p2), .val (.int p3), .val (.int p4), .val (.int p5), .val (.int (2 : Int32)), .val (.int (0 : Int32)), .val (.int ss), .val (.int ll), .val (.int ss), .val (.int e1), .val (.int e2), .val (.ref b7), .val (.ref b43), .val (.int ((own_upd (own_upd (own_upd (own_upd (own_upd (fun _ => (0 : Int32)) (0 : Int32) (-1 : Int32)) (1 : Int32) (-1 : Int32)) (2 : Int32) (-1 : Int32)) (0 : Int32) e1) (1 : Int32) ss) (0 : Int32))), .unset, .unset, .unset, .unset, .unset, .unset] [])) _
        refine XS.aload X61.here hx rfl (hb hby at_182) rfl rfl ?_
        show Steps p.tables e below (T61.setTop (mkF m 184 #[.val (.int p1), .val (.int p2), .val (.int p3), .val (.int p4), .val (.int p5), .val (.int (2 : Int32)), .val (.int (0 : Int32)), .val (.int ss), .val (.int ll), .val (.int ss), .val (.int e1), .val (.int e2), .val (.ref b7), .val (.ref b43), .val (.int ((own_upd (own_upd (own_upd (own_upd (own_upd (fun _ => (0 : Int32)) (0 : Int32) (-1 : Int32)) (1 : Int32) (-1 : Int32)) (2 : Int32) (-1 : Int32)) (0 : Int32) e1) (1 : Int32) ss) (0 : Int32))), .unset, .unset, .unset, .unset, .unset, .unset] [(.ref b43)])) _
        refine XS.iconst X61.here hx rfl (hb hby at_184) ?_
        show Steps p.tables e below (T61.setTop (mkF m 185 #[.val (.int p1), .val (.int p2), .val (.int p3), .val (.int p4), .val (.int p5), .val (.int (2 : Int32)), .val (.int (0 : Int32)), .val (.int ss), .val (.int ll), .val (.int ss), .val (.int e1), .val (.int e2), .val (.ref b7), .val (.ref b43), .val (.int ((own_upd (own_upd (own_upd (own_upd (own_upd (fun _ => (0 : Int32)) (0 : Int32) (-1 : Int32)) (1 : Int32) (-1 : Int32)) (2 : Int32) (-1 : Int32)) (0 : Int32) e1) (1 : Int32) ss) (0 : Int32))), .unset, .unset, .unset, .unset, .unset, .unset] [(.int (1 : Int32)), (.ref b43)])) _
        refine X61.iaload hx (j := (1 : Int32)) (v := (.int ((own_upd (own_upd (own_upd (own_upd (own_upd (fun _ => (0 : Int32)) (0 : Int32) (-1 : Int32)) (1 : Int32) (-1 : Int32)) (2 : Int32) (-1 : Int32)) (0 : Int32) e1) (1 : Int32) ss) (1 : Int32)))) (by rw [e61]; exact Ar67.1) (State.isArrayOf_alike hZ.alike Ar67.2.1) Ar67.2.2 hin67 (Ge67 _ (by decide) (by decide)) (g := (mkF m 185 #[.val (.int p1), .val (.int p2), .val (.int p3), .val (.int p4), .val (.int p5), .val (.int (2 : Int32)), .val (.int (0 : Int32)), .val (.int ss), .val (.int ll), .val (.int ss), .val (.int e1), .val (.int e2), .val (.ref b7), .val (.ref b43), .val (.int ((own_upd (own_upd (own_upd (own_upd (own_upd (fun _ => (0 : Int32)) (0 : Int32) (-1 : Int32)) (1 : Int32) (-1 : Int32)) (2 : Int32) (-1 : Int32)) (0 : Int32) e1) (1 : Int32) ss) (0 : Int32))), .unset, .unset, .unset, .unset, .unset, .unset] [(.int (1 : Int32)), (.ref b43)])) rfl rfl (hb hby at_185) _ ?_
        show Steps p.tables e below (T61.setTop (mkF m 186 #[.val (.int p1), .val (.int p2), .val (.int p3), .val (.int p4), .val (.int p5), .val (.int (2 : Int32)), .val (.int (0 : Int32)), .val (.int ss), .val (.int ll), .val (.int ss), .val (.int e1), .val (.int e2), .val (.ref b7), .val (.ref b43), .val (.int ((own_upd (own_upd (own_upd (own_upd (own_upd (fun _ => (0 : Int32)) (0 : Int32) (-1 : Int32)) (1 : Int32) (-1 : Int32)) (2 : Int32) (-1 : Int32)) (0 : Int32) e1) (1 : Int32) ss) (0 : Int32))), .unset, .unset, .unset, .unset, .unset, .unset] [(.int ((own_upd (own_upd (own_upd (own_upd (own_upd (fun _ => (0 : Int32)) (0 : Int32) (-1 : Int32)) (1 : Int32) (-1 : Int32)) (2 : Int32) (-1 : Int32)) (0 : Int32) e1) (1 : Int32) ss) (1 : Int32)))])) _
        refine XS.goto X61.here hx rfl (pc0 := 186) (pc' := 193) rfl (hb hby at_186) (by decide) (by decide) ?_
        show Steps p.tables e below (T61.setTop (mkF m 193 #[.val (.int p1), .val (.int p2), .val (.int p3), .val (.int p4), .val (.int p5), .val (.int (2 : Int32)), .val (.int (0 : Int32)), .val (.int ss), .val (.int ll), .val (.int ss), .val (.int e1), .val (.int e2), .val (.ref b7), .val (.ref b43), .val (.int ((own_upd (own_upd (own_upd (own_upd (own_upd (fun _ => (0 : Int32)) (0 : Int32) (-1 : Int32)) (1 : Int32) (-1 : Int32)) (2 : Int32) (-1 : Int32)) (0 : Int32) e1) (1 : Int32) ss) (0 : Int32))), .unset, .unset, .unset, .unset, .unset, .unset] [(.int ((own_upd (own_upd (own_upd (own_upd (own_upd (fun _ => (0 : Int32)) (0 : Int32) (-1 : Int32)) (1 : Int32) (-1 : Int32)) (2 : Int32) (-1 : Int32)) (0 : Int32) e1) (1 : Int32) ss) (1 : Int32)))])) _
        refine XS.istore X61.here hx rfl (hb hby at_193) rfl (l' := #[.val (.int p1), .val (.int p2), .val (.int p3), .val (.int p4), .val (.int p5), .val (.int (2 : Int32)), .val (.int (0 : Int32)), .val (.int ss), .val (.int ll), .val (.int ss), .val (.int e1), .val (.int e2), .val (.ref b7), .val (.ref b43), .val (.int ((own_upd (own_upd (own_upd (own_upd (own_upd (fun _ => (0 : Int32)) (0 : Int32) (-1 : Int32)) (1 : Int32) (-1 : Int32)) (2 : Int32) (-1 : Int32)) (0 : Int32) e1) (1 : Int32) ss) (0 : Int32))), .val (.int ((own_upd (own_upd (own_upd (own_upd (own_upd (fun _ => (0 : Int32)) (0 : Int32) (-1 : Int32)) (1 : Int32) (-1 : Int32)) (2 : Int32) (-1 : Int32)) (0 : Int32) e1) (1 : Int32) ss) (1 : Int32))), .unset, .unset, .unset, .unset, .unset]) rfl ?_
        show Steps p.tables e below (T61.setTop (mkF m 195 #[.val (.int p1), .val (.int p2), .val (.int p3), .val (.int p4), .val (.int p5), .val (.int (2 : Int32)), .val (.int (0 : Int32)), .val (.int ss), .val (.int ll), .val (.int ss), .val (.int e1), .val (.int e2), .val (.ref b7), .val (.ref b43), .val (.int ((own_upd (own_upd (own_upd (own_upd (own_upd (fun _ => (0 : Int32)) (0 : Int32) (-1 : Int32)) (1 : Int32) (-1 : Int32)) (2 : Int32) (-1 : Int32)) (0 : Int32) e1) (1 : Int32) ss) (0 : Int32))), .val (.int ((own_upd (own_upd (own_upd (own_upd (own_upd (fun _ => (0 : Int32)) (0 : Int32) (-1 : Int32)) (1 : Int32) (-1 : Int32)) (2 : Int32) (-1 : Int32)) (0 : Int32) e1) (1 : Int32) ss) (1 : Int32))), .unset, .unset, .unset, .unset, .unset] [])) _
        refine XS.iload X61.here hx rfl (hb hby at_195) rfl ?_
        show Steps p.tables e below (T61.setTop (mkF m 197 #[.val (.int p1), .val (.int p2), .val (.int p3), .val (.int p4), .val (.int p5), .val (.int (2 : Int32)), .val (.int (0 : Int32)), .val (.int ss), .val (.int ll), .val (.int ss), .val (.int e1), .val (.int e2), .val (.ref b7), .val (.ref b43), .val (.int ((own_upd (own_upd (own_upd (own_upd (own_upd (fun _ => (0 : Int32)) (0 : Int32) (-1 : Int32)) (1 : Int32) (-1 : Int32)) (2 : Int32) (-1 : Int32)) (0 : Int32) e1) (1 : Int32) ss) (0 : Int32))), .val (.int ((own_upd (own_upd (own_upd (own_upd (own_upd (fun _ => (0 : Int32)) (0 : Int32) (-1 : Int32)) (1 : Int32) (-1 : Int32)) (2 : Int32) (-1 : Int32)) (0 : Int32) e1) (1 : Int32) ss) (1 : Int32))), .unset, .unset, .unset, .unset, .unset] [(.int (0 : Int32))])) _
        refine XS.iconst X61.here hx rfl (hb hby at_197) ?_
        show Steps p.tables e below (T61.setTop (mkF m 198 #[.val (.int p1), .val (.int p2), .val (.int p3), .val (.int p4), .val (.int p5), .val (.int (2 : Int32)), .val (.int (0 : Int32)), .val (.int ss), .val (.int ll), .val (.int ss), .val (.int e1), .val (.int e2), .val (.ref b7), .val (.ref b43), .val (.int ((own_upd (own_upd (own_upd (own_upd (own_upd (fun _ => (0 : Int32)) (0 : Int32) (-1 : Int32)) (1 : Int32) (-1 : Int32)) (2 : Int32) (-1 : Int32)) (0 : Int32) e1) (1 : Int32) ss) (0 : Int32))), .val (.int ((own_upd (own_upd (own_upd (own_upd (own_upd (fun _ => (0 : Int32)) (0 : Int32) (-1 : Int32)) (1 : Int32) (-1 : Int32)) (2 : Int32) (-1 : Int32)) (0 : Int32) e1) (1 : Int32) ss) (1 : Int32))), .unset, .unset, .unset, .unset, .unset] [(.int (1 : Int32)), (.int (0 : Int32))])) _
        refine XS.icmpNo X61.here hx rfl (hb hby at_198) rfl (XT.ii_gt_f hc198_68) ?_
        show Steps p.tables e below (T61.setTop (mkF m 201 #[.val (.int p1), .val (.int p2), .val (.int p3), .val (.int p4), .val (.int p5), .val (.int (2 : Int32)), .val (.int (0 : Int32)), .val (.int ss), .val (.int ll), .val (.int ss), .val (.int e1), .val (.int e2), .val (.ref b7), .val (.ref b43), .val (.int ((own_upd (own_upd (own_upd (own_upd (own_upd (fun _ => (0 : Int32)) (0 : Int32) (-1 : Int32)) (1 : Int32) (-1 : Int32)) (2 : Int32) (-1 : Int32)) (0 : Int32) e1) (1 : Int32) ss) (0 : Int32))), .val (.int ((own_upd (own_upd (own_upd (own_upd (own_upd (fun _ => (0 : Int32)) (0 : Int32) (-1 : Int32)) (1 : Int32) (-1 : Int32)) (2 : Int32) (-1 : Int32)) (0 : Int32) e1) (1 : Int32) ss) (1 : Int32))), .unset, .unset, .unset, .unset, .unset] [])) _
        refine XS.aload X61.here hx rfl (hb hby at_201) rfl rfl ?_
        show Steps p.tables e below (T61.setTop (mkF m 203 #[.val (.int p1), .val (.int p2), .val (.int p3), .val (.int p4), .val (.int p5), .val (.int (2 : Int32)), .val (.int (0 : Int32)), .val (.int ss), .val (.int ll), .val (.int ss), .val (.int e1), .val (.int e2), .val (.ref b7), .val (.ref b43), .val (.int ((own_upd (own_upd (own_upd (own_upd (own_upd (fun _ => (0 : Int32)) (0 : Int32) (-1 : Int32)) (1 : Int32) (-1 : Int32)) (2 : Int32) (-1 : Int32)) (0 : Int32) e1) (1 : Int32) ss) (0 : Int32))), .val (.int ((own_upd (own_upd (own_upd (own_upd (own_upd (fun _ => (0 : Int32)) (0 : Int32) (-1 : Int32)) (1 : Int32) (-1 : Int32)) (2 : Int32) (-1 : Int32)) (0 : Int32) e1) (1 : Int32) ss) (1 : Int32))), .unset, .unset, .unset, .unset, .unset] [(.ref b43)])) _
        refine XS.iconst X61.here hx rfl (hb hby at_203) ?_
        show Steps p.tables e below (T61.setTop (mkF m 204 #[.val (.int p1), .val (.int p2), .val (.int p3), .val (.int p4), .val (.int p5), .val (.int (2 : Int32)), .val (.int (0 : Int32)), .val (.int ss), .val (.int ll), .val (.int ss), .val (.int e1), .val (.int e2), .val (.ref b7), .val (.ref b43), .val (.int ((own_upd (own_upd (own_upd (own_upd (own_upd (fun _ => (0 : Int32)) (0 : Int32) (-1 : Int32)) (1 : Int32) (-1 : Int32)) (2 : Int32) (-1 : Int32)) (0 : Int32) e1) (1 : Int32) ss) (0 : Int32))), .val (.int ((own_upd (own_upd (own_upd (own_upd (own_upd (fun _ => (0 : Int32)) (0 : Int32) (-1 : Int32)) (1 : Int32) (-1 : Int32)) (2 : Int32) (-1 : Int32)) (0 : Int32) e1) (1 : Int32) ss) (1 : Int32))), .unset, .unset, .unset, .unset, .unset] [(.int (2 : Int32)), (.ref b43)])) _
        refine X61.iaload hx (j := (2 : Int32)) (v := (.int ((own_upd (own_upd (own_upd (own_upd (own_upd (fun _ => (0 : Int32)) (0 : Int32) (-1 : Int32)) (1 : Int32) (-1 : Int32)) (2 : Int32) (-1 : Int32)) (0 : Int32) e1) (1 : Int32) ss) (2 : Int32)))) (by rw [e61]; exact Ar69.1) (State.isArrayOf_alike hZ.alike Ar69.2.1) Ar69.2.2 hin69 (Ge69 _ (by decide) (by decide)) (g := (mkF m 204 #[.val (.int p1), .val (.int p2), .val (.int p3), .val (.int p4), .val (.int p5), .val (.int (2 : Int32)), .val (.int (0 : Int32)), .val (.int ss), .val (.int ll), .val (.int ss), .val (.int e1), .val (.int e2), .val (.ref b7), .val (.ref b43), .val (.int ((own_upd (own_upd (own_upd (own_upd (own_upd (fun _ => (0 : Int32)) (0 : Int32) (-1 : Int32)) (1 : Int32) (-1 : Int32)) (2 : Int32) (-1 : Int32)) (0 : Int32) e1) (1 : Int32) ss) (0 : Int32))), .val (.int ((own_upd (own_upd (own_upd (own_upd (own_upd (fun _ => (0 : Int32)) (0 : Int32) (-1 : Int32)) (1 : Int32) (-1 : Int32)) (2 : Int32) (-1 : Int32)) (0 : Int32) e1) (1 : Int32) ss) (1 : Int32))), .unset, .unset, .unset, .unset, .unset] [(.int (2 : Int32)), (.ref b43)])) rfl rfl (hb hby at_204) _ ?_
        show Steps p.tables e below (T61.setTop (mkF m 205 #[.val (.int p1), .val (.int p2), .val (.int p3), .val (.int p4), .val (.int p5), .val (.int (2 : Int32)), .val (.int (0 : Int32)), .val (.int ss), .val (.int ll), .val (.int ss), .val (.int e1), .val (.int e2), .val (.ref b7), .val (.ref b43), .val (.int ((own_upd (own_upd (own_upd (own_upd (own_upd (fun _ => (0 : Int32)) (0 : Int32) (-1 : Int32)) (1 : Int32) (-1 : Int32)) (2 : Int32) (-1 : Int32)) (0 : Int32) e1) (1 : Int32) ss) (0 : Int32))), .val (.int ((own_upd (own_upd (own_upd (own_upd (own_upd (fun _ => (0 : Int32)) (0 : Int32) (-1 : Int32)) (1 : Int32) (-1 : Int32)) (2 : Int32) (-1 : Int32)) (0 : Int32) e1) (1 : Int32) ss) (1 : Int32))), .unset, .unset, .unset, .unset, .unset] [(.int ((own_upd (own_upd (own_upd (own_upd (own_upd (fun _ => (0 : Int32)) (0 : Int32) (-1 : Int32)) (1 : Int32) (-1 : Int32)) (2 : Int32) (-1 : Int32)) (0 : Int32) e1) (1 : Int32) ss) (2 : Int32)))])) _
        refine XS.goto X61.here hx rfl (pc0 := 205) (pc' := 212) rfl (hb hby at_205) (by decide) (by decide) ?_
        show Steps p.tables e below (T61.setTop (mkF m 212 #[.val (.int p1), .val (.int p2), .val (.int p3), .val (.int p4), .val (.int p5), .val (.int (2 : Int32)), .val (.int (0 : Int32)), .val (.int ss), .val (.int ll), .val (.int ss), .val (.int e1), .val (.int e2), .val (.ref b7), .val (.ref b43), .val (.int ((own_upd (own_upd (own_upd (own_upd (own_upd (fun _ => (0 : Int32)) (0 : Int32) (-1 : Int32)) (1 : Int32) (-1 : Int32)) (2 : Int32) (-1 : Int32)) (0 : Int32) e1) (1 : Int32) ss) (0 : Int32))), .val (.int ((own_upd (own_upd (own_upd (own_upd (own_upd (fun _ => (0 : Int32)) (0 : Int32) (-1 : Int32)) (1 : Int32) (-1 : Int32)) (2 : Int32) (-1 : Int32)) (0 : Int32) e1) (1 : Int32) ss) (1 : Int32))), .unset, .unset, .unset, .unset, .unset] [(.int ((own_upd (own_upd (own_upd (own_upd (own_upd (fun _ => (0 : Int32)) (0 : Int32) (-1 : Int32)) (1 : Int32) (-1 : Int32)) (2 : Int32) (-1 : Int32)) (0 : Int32) e1) (1 : Int32) ss) (2 : Int32)))])) _
        refine XS.istore X61.here hx rfl (hb hby at_212) rfl (l' := #[.val (.int p1), .val (.int p2), .val (.int p3), .val (.int p4), .val (.int p5), .val (.int (2 : Int32)), .val (.int (0 : Int32)), .val (.int ss), .val (.int ll), .val (.int ss), .val (.int e1), .val (.int e2), .val (.ref b7), .val (.ref b43), .val (.int ((own_upd (own_upd (own_upd (own_upd (own_upd (fun _ => (0 : Int32)) (0 : Int32) (-1 : Int32)) (1 : Int32) (-1 : Int32)) (2 : Int32) (-1 : Int32)) (0 : Int32) e1) (1 : Int32) ss) (0 : Int32))), .val (.int ((own_upd (own_upd (own_upd (own_upd (own_upd (fun _ => (0 : Int32)) (0 : Int32) (-1 : Int32)) (1 : Int32) (-1 : Int32)) (2 : Int32) (-1 : Int32)) (0 : Int32) e1) (1 : Int32) ss) (1 : Int32))), .val (.int ((own_upd (own_upd (own_upd (own_upd (own_upd (fun _ => (0 : Int32)) (0 : Int32) (-1 : Int32)) (1 : Int32) (-1 : Int32)) (2 : Int32) (-1 : Int32)) (0 : Int32) e1) (1 : Int32) ss) (2 : Int32))), .unset, .unset, .unset, .unset]) rfl ?_
        exact kt)
      have hG : own_Good S40 ll (2 : Int32) ((own_upd (own_upd (own_upd (own_upd (own_upd (fun _ => (0 : Int32)) (0 : Int32) (-1 : Int32)) (1 : Int32) (-1 : Int32)) (2 : Int32) (-1 : Int32)) (0 : Int32) e1) (1 : Int32) ss) (0 : Int32)) ((own_upd (own_upd (own_upd (own_upd (own_upd (fun _ => (0 : Int32)) (0 : Int32) (-1 : Int32)) (1 : Int32) (-1 : Int32)) (2 : Int32) (-1 : Int32)) (0 : Int32) e1) (1 : Int32) ss) (1 : Int32)) ((own_upd (own_upd (own_upd (own_upd (own_upd (fun _ => (0 : Int32)) (0 : Int32) (-1 : Int32)) (1 : Int32) (-1 : Int32)) (2 : Int32) (-1 : Int32)) (0 : Int32) e1) (1 : Int32) ss) (2 : Int32)) := by subst h_e1 h_e2; rw [hS40, hS10]; exact own_good2 ss ll hs hl
      obtain ⟨Te, Ls, lc, Xe, Ne, ste⟩ := own_tail p1 p2 p3 p4 p5 (2 : Int32) (0 : Int32) ss ll ss e1 e2 b7 b43 ((own_upd (own_upd (own_upd (own_upd (own_upd (fun _ => (0 : Int32)) (0 : Int32) (-1 : Int32)) (1 : Int32) (-1 : Int32)) (2 : Int32) (-1 : Int32)) (0 : Int32) e1) (1 : Int32) ss) (0 : Int32)) ((own_upd (own_upd (own_upd (own_upd (own_upd (fun _ => (0 : Int32)) (0 : Int32) (-1 : Int32)) (1 : Int32) (-1 : Int32)) (2 : Int32) (-1 : Int32)) (0 : Int32) e1) (1 : Int32) ss) (1 : Int32)) ((own_upd (own_upd (own_upd (own_upd (own_upd (fun _ => (0 : Int32)) (0 : Int32) (-1 : Int32)) (1 : Int32) (-1 : Int32)) (2 : Int32) (-1 : Int32)) (0 : Int32) e1) (1 : Int32) ss) (2 : Int32)) aF8 aS8 aN8 aP8 S40 X61 hx hZ hw hby hml hown e61 N61 Zs61 c63 (own_two2 hl) hG
      obtain ⟨fs, hr, hrun, hended, hW, hsame⟩ := Xe.leave (v := some (.int (1 : Int32))) (fun h => by rw [Bd.returns] at h; cases h)
      refine ⟨_, _, P70 _ (ste _ ?_), hrun, hended, _, _, rfl, ?_, ⟨_, rfl⟩, hW, hsame.mono (by decide) (by decide)⟩
      · exact retN Xe hx (t := .boolean) Bd.returns (by simp) (hb hby at_454) hr
      · exact ⟨rfl, Ne⟩
    · skip
      obtain ⟨cl71, Ar71, Sz71, Nn71, Ge71⟩ := id Aw61
      have hin71 := inb_of Sz71 (j := (1 : Int32)) ⟨(by decide), (by decide)⟩
      have hc179_72 : ¬ ((1 : Int32) = (0 : Int32)) := by decide
      obtain ⟨cl73, Ar73, Sz73, Nn73, Ge73⟩ := id Aw61
      have hin73 := inb_of Sz73 (j := (0 : Int32)) ⟨(by decide), (by decide)⟩
      have hc198_74 : ¬ ((1 : Int32) < (1 : Int32)) := by simp
      obtain ⟨cl75, Ar75, Sz75, Nn75, Ge75⟩ := id Aw61
      have hin75 := inb_of Sz75 (j := (2 : Int32)) ⟨(by decide), (by decide)⟩
      have P76 : ∀ t, Steps p.tables e below (T61.setTop (mkF m 214 #[.val (.int p1), .val (.int p2), .val (.int p3), .val (.int p4), .val (.int p5), .val (.int (2 : Int32)), .val (.int (1 : Int32)), .val (.int ss), .val (.int ll), .val (.int ss), .val (.int e1), .val (.int e2), .val (.ref b7), .val (.ref b43), .val (.int ((own_upd (own_upd (own_upd (own_upd (own_upd (fun _ => (0 : Int32)) (0 : Int32) (-1 : Int32)) (1 : Int32) (-1 : Int32)) (2 : Int32) (-1 : Int32)) (0 : Int32) e1) (1 : Int32) ss) (1 : Int32))), .val (.int ((own_upd (own_upd (own_upd (own_upd (own_upd (fun _ => (0 : Int32)) (0 : Int32) (-1 : Int32)) (1 : Int32) (-1 : Int32)) (2 : Int32) (-1 : Int32)) (0 : Int32) e1) (1 : Int32) ss) (0 : Int32))), .val (.int ((own_upd (own_upd (own_upd (own_upd (own_upd (fun _ => (0 : Int32)) (0 : Int32) (-1 : Int32)) (1 : Int32) (-1 : Int32)) (2 : Int32) (-1 : Int32)) (0 : Int32) e1) (1 : Int32) ss) (2 : Int32))), .unset, .unset, .unset, .unset] [])) t → Steps p.tables e below (s₁.setTop (entryFrame m #[(.int p1), (.int p2), (.int p3), (.int p4), (.int p5)] maxLocals)) t := fun t kt => P64 t (by
        show Steps p.tables e below (T61.setTop (mkF m 170 #[.val (.int p1), .val (.int p2), .val (.int p3), .val (.int p4), .val (.int p5), .val (.int (2 : Int32)), .val (.int (1 : Int32)), .val (.int ss), .val (.int ll), .val (.int ss), .val (.int e1), .val (.int e2), .val (.ref b7), .val (.ref b43), .unset, .unset, .unset, .unset, .unset, .unset, .unset] [])) _
        refine XS.aload X61.here hx rfl (hb hby at_170) rfl rfl ?_
        show Steps p.tables e below (T61.setTop (mkF m 172 #[.val (.int p1), .val (.int p2), .val (.int p3), .val (.int p4), .val (.int p5), .val (.int (2 : Int32)), .val (.int (1 : Int32)), .val (.int ss), .val (.int ll), .val (.int ss), .val (.int e1), .val (.int e2), .val (.ref b7), .val (.ref b43), .unset, .unset, .unset, .unset, .unset, .unset, .unset] [(.ref b43)])) _
        refine XS.iload X61.here hx rfl (hb hby at_172) rfl ?_
        show Steps p.tables e below (T61.setTop (mkF m 174 #[.val (.int p1), .val (.int p2), .val (.int p3), .val (.int p4), .val (.int p5), .val (.int (2 : Int32)), .val (.int (1 : Int32)), .val (.int ss), .val (.int ll), .val (.int ss), .val (.int e1), .val (.int e2), .val (.ref b7), .val (.ref b43), .unset, .unset, .unset, .unset, .unset, .unset, .unset] [(.int (1 : Int32)), (.ref b43)])) _
        refine X61.iaload hx (j := (1 : Int32)) (v := (.int ((own_upd (own_upd (own_upd (own_upd (own_upd (fun _ => (0 : Int32)) (0 : Int32) (-1 : Int32)) (1 : Int32) (-1 : Int32)) (2 : Int32) (-1 : Int32)) (0 : Int32) e1) (1 : Int32) ss) (1 : Int32)))) (by rw [e61]; exact Ar71.1) (State.isArrayOf_alike hZ.alike Ar71.2.1) Ar71.2.2 hin71 (Ge71 _ (by decide) (by decide)) (g := (mkF m 174 #[.val (.int p1), .val (.int p2), .val (.int p3), .val (.int p4), .val (.int p5), .val (.int (2 : Int32)), .val (.int (1 : Int32)), .val (.int ss), .val (.int ll), .val (.int ss), .val (.int e1), .val (.int e2), .val (.ref b7), .val (.ref b43), .unset, .unset, .unset, .unset, .unset, .unset, .unset] [(.int (1 : Int32)), (.ref b43)])) rfl rfl (hb hby at_174) _ ?_
        show Steps p.tables e below (T61.setTop (mkF m 175 #[.val (.int p1), .val (.int p2), .val (.int p3), .val (.int p4), .val (.int p5), .val (.int (2 : Int32)), .val (.int (1 : Int32)), .val (.int ss), .val (.int ll), .val (.int ss), .val (.int e1), .val (.int e2), .val (.ref b7), .val (.ref b43), .unset, .unset, .unset, .unset, .unset, .unset, .unset] [(.int ((own_upd (own_upd (own_upd (own_upd (own_upd (fun _ => (0 : Int32)) (0 : Int32) (-1 : Int32)) (1 : Int32) (-1 : Int32)) (2 : Int32) (-1 : Int32)) (0 : Int32) e1) (1 : Int32) ss) (1 : Int32)))])) _
        refine XS.istore X61.here hx rfl (hb hby at_175) rfl (l' := #[.val (.int p1), .val (.int p2), .val (.int p3), .val (.int p4), .val (.int p5), .val (.int (2 : Int32)), .val (.int (1 : Int32)), .val (.int ss), .val (.int ll), .val (.int ss), .val (.int e1), .val (.int e2), .val (.ref b7), .val (.ref b43), .val (.int ((own_upd (own_upd (own_upd (own_upd (own_upd (fun _ => (0 : Int32)) (0 : Int32) (-1 : Int32)) (1 : Int32) (-1 : Int32)) (2 : Int32) (-1 : Int32)) (0 : Int32) e1) (1 : Int32) ss) (1 : Int32))), .unset, .unset, .unset, .unset, .unset, .unset]) rfl ?_
        show Steps p.tables e below (T61.setTop (mkF m 177 #[.val (.int p1), .val (.int p2), .val (.int p3), .val (.int p4), .val (.int p5), .val (.int (2 : Int32)), .val (.int (1 : Int32)), .val (.int ss), .val (.int ll), .val (.int ss), .val (.int e1), .val (.int e2), .val (.ref b7), .val (.ref b43), .val (.int ((own_upd (own_upd (own_upd (own_upd (own_upd (fun _ => (0 : Int32)) (0 : Int32) (-1 : Int32)) (1 : Int32) (-1 : Int32)) (2 : Int32) (-1 : Int32)) (0 : Int32) e1) (1 : Int32) ss) (1 : Int32))), .unset, .unset, .unset, .unset, .unset, .unset] [])) _
        refine XS.iload X61.here hx rfl (hb hby at_177) rfl ?_
        show Steps p.tables e below (T61.setTop (mkF m 179 #[.val (.int p1), .val (.int p2), .val (.int p3), .val (.int p4), .val (.int p5), .val (.int (2 : Int32)), .val (.int (1 : Int32)), .val (.int ss), .val (.int ll), .val (.int ss), .val (.int e1), .val (.int e2), .val (.ref b7), .val (.ref b43), .val (.int ((own_upd (own_upd (own_upd (own_upd (own_upd (fun _ => (0 : Int32)) (0 : Int32) (-1 : Int32)) (1 : Int32) (-1 : Int32)) (2 : Int32) (-1 : Int32)) (0 : Int32) e1) (1 : Int32) ss) (1 : Int32))), .unset, .unset, .unset, .unset, .unset, .unset] [(.int (1 : Int32))])) _
        refine XS.ifYes X61.here hx rfl (pc0 := 179) (pc' := 189) rfl (hb hby at_179) rfl (XT.i0_ne_t hc179_72) (by decide) (by decide) ?_
        show Steps p.tables e below (T61.setTop (mkF m 189 #[.val (.int p1), .val (.int p2), .val (.int p3), .val (.int p4), .val (.int p5), .val (.int (2 : Int32)), .val (.int (1 : Int32)), .val (.int ss), .val (.int ll), .val (.int ss), .val (.int e1), .val (.int e2), .val (.ref b7), .val (.ref b43), .val (.int ((own_upd (own_upd (own_upd (own_upd (own_upd (fun _ => (0 : Int32)) (0 : Int32) (-1 : Int32)) (1 : Int32) (-1 : Int32)) (2 : Int32) (-1 : Int32)) (0 : Int32) e1) (1 : Int32) ss) (1 : Int32))), .unset, .unset, .unset, .unset, .unset, .unset] [])) _
        refine XS.aload X61.here hx rfl (hb hby at_189) rfl rfl ?_
        show Steps p.tables e below (T61.setTop (mkF m 191 #[.val (.int p1), .val (.int p2), .val (.int p3), .val (.int p4), .val (.int p5), .val (.int (2 : Int32)), .val (.int (1 : Int32)), .val (.int ss), .val (.int ll), .val (.int ss), .val (.int e1), .val (.int e2), .val (.ref b7), .val (.ref b43), .val (.int ((own_upd (own_upd (own_upd (own_upd (own_upd (fun _ => (0 : Int32)) (0 : Int32) (-1 : Int32)) (1 : Int32) (-1 : Int32)) (2 : Int32) (-1 : Int32)) (0 : Int32) e1) (1 : Int32) ss) (1 : Int32))), .unset, .unset, .unset, .unset, .unset, .unset] [(.ref b43)])) _
        refine XS.iconst X61.here hx rfl (hb hby at_191) ?_
        show Steps p.tables e below (T61.setTop (mkF m 192 #[.val (.int p1), .val (.int p2), .val (.int p3), .val (.int p4), .val (.int p5), .val (.int (2 : Int32)), .val (.int (1 : Int32)), .val (.int ss), .val (.int ll), .val (.int ss), .val (.int e1), .val (.int e2), .val (.ref b7), .val (.ref b43), .val (.int ((own_upd (own_upd (own_upd (own_upd (own_upd (fun _ => (0 : Int32)) (0 : Int32) (-1 : Int32)) (1 : Int32) (-1 : Int32)) (2 : Int32) (-1 : Int32)) (0 : Int32) e1) (1 : Int32) ss) (1 : Int32))), .unset, .unset, .unset, .unset, .unset, .unset] [(.int (0 : Int32)), (.ref b43)])) _
        refine X61.iaload hx (j := (0 : Int32)) (v := (.int ((own_upd (own_upd (own_upd (own_upd (own_upd (fun _ => (0 : Int32)) (0 : Int32) (-1 : Int32)) (1 : Int32) (-1 : Int32)) (2 : Int32) (-1 : Int32)) (0 : Int32) e1) (1 : Int32) ss) (0 : Int32)))) (by rw [e61]; exact Ar73.1) (State.isArrayOf_alike hZ.alike Ar73.2.1) Ar73.2.2 hin73 (Ge73 _ (by decide) (by decide)) (g := (mkF m 192 #[.val (.int p1), .val (.int p2), .val (.int p3), .val (.int p4), .val (.int p5), .val (.int (2 : Int32)), .val (.int (1 : Int32)), .val (.int ss), .val (.int ll), .val (.int ss), .val (.int e1), .val (.int e2), .val (.ref b7), .val (.ref b43), .val (.int ((own_upd (own_upd (own_upd (own_upd (own_upd (fun _ => (0 : Int32)) (0 : Int32) (-1 : Int32)) (1 : Int32) (-1 : Int32)) (2 : Int32) (-1 : Int32)) (0 : Int32) e1) (1 : Int32) ss) (1 : Int32))), .unset, .unset, .unset, .unset, .unset, .unset] [(.int (0 : Int32)), (.ref b43)])) rfl rfl (hb hby at_192) _ ?_
        show Steps p.tables e below (T61.setTop (mkF m 193 #[.val (.int p1), .val (.int p2), .val (.int p3), .val (.int p4), .val (.int p5), .val (.int (2 : Int32)), .val (.int (1 : Int32)), .val (.int ss), .val (.int ll), .val (.int ss), .val (.int e1), .val (.int e2), .val (.ref b7), .val (.ref b43), .val (.int ((own_upd (own_upd (own_upd (own_upd (own_upd (fun _ => (0 : Int32)) (0 : Int32) (-1 : Int32)) (1 : Int32) (-1 : Int32)) (2 : Int32) (-1 : Int32)) (0 : Int32) e1) (1 : Int32) ss) (1 : Int32))), .unset, .unset, .unset, .unset, .unset, .unset] [(.int ((own_upd (own_upd (own_upd (own_upd (own_upd (fun _ => (0 : Int32)) (0 : Int32) (-1 : Int32)) (1 : Int32) (-1 : Int32)) (2 : Int32) (-1 : Int32)) (0 : Int32) e1) (1 : Int32) ss) (0 : Int32)))])) _
        refine XS.istore X61.here hx rfl (hb hby at_193) rfl (l' := #[.val (.int p1), .val (.int p2), .val (.int p3), .val (.int p4), .val (.int p5), .val (.int (2 : Int32)), .val (.int (1 : Int32)), .val (.int ss), .val (.int ll), .val (.int ss), .val (.int e1), .val (.int e2), .val (.ref b7), .val (.ref b43), .val (.int ((own_upd (own_upd (own_upd (own_upd (own_upd (fun _ => (0 : Int32)) (0 : Int32) (-1 : Int32)) (1 : Int32) (-1 : Int32)) (2 : Int32) (-1 : Int32)) (0 : Int32) e1) (1 : Int32) ss) (1 : Int32))), .val (.int ((own_upd (own_upd (own_upd (own_upd (own_upd (fun _ => (0 : Int32)) (0 : Int32) (-1 : Int32)) (1 : Int32) (-1 : Int32)) (2 : Int32) (-1 : Int32)) (0 : Int32) e1) (1 : Int32) ss) (0 : Int32))), .unset, .unset, .unset, .unset, .unset]) rfl ?_
        show Steps p.tables e below (T61.setTop (mkF m 195 #[.val (.int p1), .val (.int p2), .val (.int p3), .val (.int p4), .val (.int p5), .val (.int (2 : Int32)), .val (.int (1 : Int32)), .val (.int ss), .val (.int ll), .val (.int ss), .val (.int e1), .val (.int e2), .val (.ref b7), .val (.ref b43), .val (.int ((own_upd (own_upd (own_upd (own_upd (own_upd (fun _ => (0 : Int32)) (0 : Int32) (-1 : Int32)) (1 : Int32) (-1 : Int32)) (2 : Int32) (-1 : Int32)) (0 : Int32) e1) (1 : Int32) ss) (1 : Int32))), .val (.int ((own_upd (own_upd (own_upd (own_upd (own_upd (fun _ => (0 : Int32)) (0 : Int32) (-1 : Int32)) (1 : Int32) (-1 : Int32)) (2 : Int32) (-1 : Int32)) (0 : Int32) e1) (1 : Int32) ss) (0 : Int32))), .unset, .unset, .unset, .unset, .unset] [])) _
        refine XS.iload X61.here hx rfl (hb hby at_195) rfl ?_
        show Steps p.tables e below (T61.setTop (mkF m 197 #[.val (.int p1), .val (.int p2), .val (.int p3), .val (.int p4), .val (.int p5), .val (.int (2 : Int32)), .val (.int (1 : Int32)), .val (.int ss), .val (.int ll), .val (.int ss), .val (.int e1), .val (.int e2), .val (.ref b7), .val (.ref b43), .val (.int ((own_upd (own_upd (own_upd (own_upd (own_upd (fun _ => (0 : Int32)) (0 : Int32) (-1 : Int32)) (1 : Int32) (-1 : Int32)) (2 : Int32) (-1 : Int32)) (0 : Int32) e1) (1 : Int32) ss) (1 : Int32))), .val (.int ((own_upd (own_upd (own_upd (own_upd (own_upd (fun _ => (0 : Int32)) (0 : Int32) (-1 : Int32)) (1 : Int32) (-1 : Int32)) (2 : Int32) (-1 : Int32)) (0 : Int32) e1) (1 : Int32) ss) (0 : Int32))), .unset, .unset, .unset, .unset, .unset] [(.int (1 : Int32))])) _
        refine XS.iconst X61.here hx rfl (hb hby at_197) ?_
        show Steps p.tables e below (T61.setTop (mkF m 198 #[.val (.int p1), .val (.int p2), .val (.int p3), .val (.int p4), .val (.int p5), .val (.int (2 : Int32)), .val (.int (1 : Int32)), .val (.int ss), .val (.int ll), .val (.int ss), .val (.int e1), .val (.int e2), .val (.ref b7), .val (.ref b43), .val (.int ((own_upd (own_upd (own_upd (own_upd (own_upd (fun _ => (0 : Int32)) (0 : Int32) (-1 : Int32)) (1 : Int32) (-1 : Int32)) (2 : Int32) (-1 : Int32)) (0 : Int32) e1) (1 : Int32) ss) (1 : Int32))), .val (.int ((own_upd (own_upd (own_upd (own_upd (own_upd (fun _ => (0 : Int32)) (0 : Int32) (-1 : Int32)) (1 : Int32) (-1 : Int32)) (2 : Int32) (-1 : Int32)) (0 : Int32) e1) (1 : Int32) ss) (0 : Int32))), .unset, .unset, .unset, .unset, .unset] [(.int (1 : Int32)), (.int (1 : Int32))])) _
        refine XS.icmpNo X61.here hx rfl (hb hby at_198) rfl (XT.ii_gt_f hc198_74) ?_
        show Steps p.tables e below (T61.setTop (mkF m 201 #[.val (.int p1), .val (.int p2), .val (.int p3), .val (.int p4), .val (.int p5), .val (.int (2 : Int32)), .val (.int (1 : Int32)), .val (.int ss), .val (.int ll), .val (.int ss), .val (.int e1), .val (.int e2), .val (.ref b7), .val (.ref b43), .val (.int ((own_upd (own_upd (own_upd (own_upd (own_upd (fun _ => (0 : Int32)) (0 : Int32) (-1 : Int32)) (1 : Int32) (-1 : Int32)) (2 : Int32) (-1 : Int32)) (0 : Int32) e1) (1 : Int32) ss) (1 : Int32))), .val (.int ((own_upd (own_upd (own_upd (own_upd (own_upd (fun _ => (0 : Int32)) (0 : Int32) (-1 : Int32)) (1 : Int32) (-1 : Int32)) (2 : Int32) (-1 : Int32)) (0 : Int32) e1) (1 : Int32) ss) (0 : Int32))), .unset, .unset, .unset, .unset, .unset] [])) _
        refine XS.aload X61.here hx rfl (hb hby at_201) rfl rfl ?_
        show Steps p.tables e below (T61.setTop (mkF m 203 #[.val (.int p1), .val (.int p2), .val (.int p3), .val (.int p4), .val (.int p5), .val (.int (2 : Int32)), .val (.int (1 : Int32)), .val (.int ss), .val (.int ll), .val (.int ss), .val (.int e1), .val (.int e2), .val (.ref b7), .val (.ref b43), .val (.int ((own_upd (own_upd (own_upd (own_upd (own_upd (fun _ => (0 : Int32)) (0 : Int32) (-1 : Int32)) (1 : Int32) (-1 : Int32)) (2 : Int32) (-1 : Int32)) (0 : Int32) e1) (1 : Int32) ss) (1 : Int32))), .val (.int ((own_upd (own_upd (own_upd (own_upd (own_upd (fun _ => (0 : Int32)) (0 : Int32) (-1 : Int32)) (1 : Int32) (-1 : Int32)) (2 : Int32) (-1 : Int32)) (0 : Int32) e1) (1 : Int32) ss) (0 : Int32))), .unset, .unset, .unset, .unset, .unset] [(.ref b43)])) _
        refine XS.iconst X61.here hx rfl (hb hby at_203) ?_
        show Steps p.tables e below (T61.setTop (mkF m 204 #[.val (.int p1), .val (.int p2), .val (.int p3), .val (.int p4), .val (.int p5), .val (.int (2 : Int32)), .val (.int (1 : Int32)), .val (.int ss), .val (.int ll), .val (.int ss), .val (.int e1), .val (.int e2), .val (.ref b7), .val (.ref b43), .val (.int ((own_upd (own_upd (own_upd (own_upd (own_upd (fun _ => (0 : Int32)) (0 : Int32) (-1 : Int32)) (1 : Int32) (-1 : Int32)) (2 : Int32) (-1 : Int32)) (0 : Int32) e1) (1 : Int32) ss) (1 : Int32))), .val (.int ((own_upd (own_upd (own_upd (own_upd (own_upd (fun _ => (0 : Int32)) (0 : Int32) (-1 : Int32)) (1 : Int32) (-1 : Int32)) (2 : Int32) (-1 : Int32)) (0 : Int32) e1) (1 : Int32) ss) (0 : Int32))), .unset, .unset, .unset, .unset, .unset] [(.int (2 : Int32)), (.ref b43)])) _
        refine X61.iaload hx (j := (2 : Int32)) (v := (.int ((own_upd (own_upd (own_upd (own_upd (own_upd (fun _ => (0 : Int32)) (0 : Int32) (-1 : Int32)) (1 : Int32) (-1 : Int32)) (2 : Int32) (-1 : Int32)) (0 : Int32) e1) (1 : Int32) ss) (2 : Int32)))) (by rw [e61]; exact Ar75.1) (State.isArrayOf_alike hZ.alike Ar75.2.1) Ar75.2.2 hin75 (Ge75 _ (by decide) (by decide)) (g := (mkF m 204 #[.val (.int p1), .val (.int p2), .val (.int p3), .val (.int p4), .val (.int p5), .val (.int (2 : Int32)), .val (.int (1 : Int32)), .val (.int ss), .val (.int ll), .val (.int ss), .val (.int e1), .val (.int e2), .val (.ref b7), .val (.ref b43), .val (.int ((own_upd (own_upd (own_upd (own_upd (own_upd (fun _ => (0 : Int32)) (0 : Int32) (-1 : Int32)) (1 : Int32) (-1 : Int32)) (2 : Int32) (-1 : Int32)) (0 : Int32) e1) (1 : Int32) ss) (1 : Int32))), .val (.int ((own_upd (own_upd (own_upd (own_upd (own_upd (fun _ => (0 : Int32)) (0 : Int32) (-1 : Int32)) (1 : Int32) (-1 : Int32)) (2 : Int32) (-1 : Int32)) (0 : Int32) e1) (1 : Int32) ss) (0 : Int32))), .unset, .unset, .unset, .unset, .unset] [(.int (2 : Int32)), (.ref b43)])) rfl rfl (hb hby at_204) _ ?_
        show Steps p.tables e below (T61.setTop (mkF m 205 #[.val (.int p1), .val (.int p2), .val (.int p3), .val (.int p4), .val (.int p5), .val (.int (2 : Int32)), .val (.int (1 : Int32)), .val (.int ss), .val (.int ll), .val (.int ss), .val (.int e1), .val (.int e2), .val (.ref b7), .val (.ref b43), .val (.int ((own_upd (own_upd (own_upd (own_upd (own_upd (fun _ => (0 : Int32)) (0 : Int32) (-1 : Int32)) (1 : Int32) (-1 : Int32)) (2 : Int32) (-1 : Int32)) (0 : Int32) e1) (1 : Int32) ss) (1 : Int32))), .val (.int ((own_upd (own_upd (own_upd (own_upd (own_upd (fun _ => (0 : Int32)) (0 : Int32) (-1 : Int32)) (1 : Int32) (-1 : Int32)) (2 : Int32) (-1 : Int32)) (0 : Int32) e1) (1 : Int32) ss) (0 : Int32))), .unset, .unset, .unset, .unset, .unset] [(.int ((own_upd (own_upd (own_upd (own_upd (own_upd (fun _ => (0 : Int32)) (0 : Int32) (-1 : Int32)) (1 : Int32) (-1 : Int32)) (2 : Int32) (-1 : Int32)) (0 : Int32) e1) (1 : Int32) ss) (2 : Int32)))])) _
        refine XS.goto X61.here hx rfl (pc0 := 205) (pc' := 212) rfl (hb hby at_205) (by decide) (by decide) ?_
        show Steps p.tables e below (T61.setTop (mkF m 212 #[.val (.int p1), .val (.int p2), .val (.int p3), .val (.int p4), .val (.int p5), .val (.int (2 : Int32)), .val (.int (1 : Int32)), .val (.int ss), .val (.int ll), .val (.int ss), .val (.int e1), .val (.int e2), .val (.ref b7), .val (.ref b43), .val (.int ((own_upd (own_upd (own_upd (own_upd (own_upd (fun _ => (0 : Int32)) (0 : Int32) (-1 : Int32)) (1 : Int32) (-1 : Int32)) (2 : Int32) (-1 : Int32)) (0 : Int32) e1) (1 : Int32) ss) (1 : Int32))), .val (.int ((own_upd (own_upd (own_upd (own_upd (own_upd (fun _ => (0 : Int32)) (0 : Int32) (-1 : Int32)) (1 : Int32) (-1 : Int32)) (2 : Int32) (-1 : Int32)) (0 : Int32) e1) (1 : Int32) ss) (0 : Int32))), .unset, .unset, .unset, .unset, .unset] [(.int ((own_upd (own_upd (own_upd (own_upd (own_upd (fun _ => (0 : Int32)) (0 : Int32) (-1 : Int32)) (1 : Int32) (-1 : Int32)) (2 : Int32) (-1 : Int32)) (0 : Int32) e1) (1 : Int32) ss) (2 : Int32)))])) _
        refine XS.istore X61.here hx rfl (hb hby at_212) rfl (l' := #[.val (.int p1), .val (.int p2), .val (.int p3), .val (.int p4), .val (.int p5), .val (.int (2 : Int32)), .val (.int (1 : Int32)), .val (.int ss), .val (.int ll), .val (.int ss), .val (.int e1), .val (.int e2), .val (.ref b7), .val (.ref b43), .val (.int ((own_upd (own_upd (own_upd (own_upd (own_upd (fun _ => (0 : Int32)) (0 : Int32) (-1 : Int32)) (1 : Int32) (-1 : Int32)) (2 : Int32) (-1 : Int32)) (0 : Int32) e1) (1 : Int32) ss) (1 : Int32))), .val (.int ((own_upd (own_upd (own_upd (own_upd (own_upd (fun _ => (0 : Int32)) (0 : Int32) (-1 : Int32)) (1 : Int32) (-1 : Int32)) (2 : Int32) (-1 : Int32)) (0 : Int32) e1) (1 : Int32) ss) (0 : Int32))), .val (.int ((own_upd (own_upd (own_upd (own_upd (own_upd (fun _ => (0 : Int32)) (0 : Int32) (-1 : Int32)) (1 : Int32) (-1 : Int32)) (2 : Int32) (-1 : Int32)) (0 : Int32) e1) (1 : Int32) ss) (2 : Int32))), .unset, .unset, .unset, .unset]) rfl ?_
        exact kt)
      have hG : own_Good S40 ll (2 : Int32) ((own_upd (own_upd (own_upd (own_upd (own_upd (fun _ => (0 : Int32)) (0 : Int32) (-1 : Int32)) (1 : Int32) (-1 : Int32)) (2 : Int32) (-1 : Int32)) (0 : Int32) e1) (1 : Int32) ss) (1 : Int32)) ((own_upd (own_upd (own_upd (own_upd (own_upd (fun _ => (0 : Int32)) (0 : Int32) (-1 : Int32)) (1 : Int32) (-1 : Int32)) (2 : Int32) (-1 : Int32)) (0 : Int32) e1) (1 : Int32) ss) (0 : Int32)) ((own_upd (own_upd (own_upd (own_upd (own_upd (fun _ => (0 : Int32)) (0 : Int32) (-1 : Int32)) (1 : Int32) (-1 : Int32)) (2 : Int32) (-1 : Int32)) (0 : Int32) e1) (1 : Int32) ss) (2 : Int32)) := by subst h_e1 h_e2; rw [hS40, hS10]; exact own_good3 ss ll hs hl
      obtain ⟨Te, Ls, lc, Xe, Ne, ste⟩ := own_tail p1 p2 p3 p4 p5 (2 : Int32) (1 : Int32) ss ll ss e1 e2 b7 b43 ((own_upd (own_upd (own_upd (own_upd (own_upd (fun _ => (0 : Int32)) (0 : Int32) (-1 : Int32)) (1 : Int32) (-1 : Int32)) (2 : Int32) (-1 : Int32)) (0 : Int32) e1) (1 : Int32) ss) (1 : Int32)) ((own_upd (own_upd (own_upd (own_upd (own_upd (fun _ => (0 : Int32)) (0 : Int32) (-1 : Int32)) (1 : Int32) (-1 : Int32)) (2 : Int32) (-1 : Int32)) (0 : Int32) e1) (1 : Int32) ss) (0 : Int32)) ((own_upd (own_upd (own_upd (own_upd (own_upd (fun _ => (0 : Int32)) (0 : Int32) (-1 : Int32)) (1 : Int32) (-1 : Int32)) (2 : Int32) (-1 : Int32)) (0 : Int32) e1) (1 : Int32) ss) (2 : Int32)) aF8 aS8 aN8 aP8 S40 X61 hx hZ hw hby hml hown e61 N61 Zs61 c63 (own_two2 hl) hG
      obtain ⟨fs, hr, hrun, hended, hW, hsame⟩ := Xe.leave (v := some (.int (1 : Int32))) (fun h => by rw [Bd.returns] at h; cases h)
      refine ⟨_, _, P76 _ (ste _ ?_), hrun, hended, _, _, rfl, ?_, ⟨_, rfl⟩, hW, hsame.mono (by decide) (by decide)⟩
      · exact retN Xe hx (t := .boolean) Bd.returns (by simp) (hb hby at_454) hr
      · exact ⟨rfl, Ne⟩
  · skip
    have hc72_77 : ¬ ((3 : Int32) < (2 : Int32)) := by decide
    obtain ⟨cq78, kq78, q78a, q78b, q78c⟩ := isOf hZ rfl c11
    obtain ⟨_, _, ⟨T78, L78, k78, n78⟩, -, X78, ⟨Lc78, hQ78, l78, y78, z78⟩, st78⟩ := X10.virtualBack hx (y := (⟨"com/example/exact_equiv/exactequiv/equivalence/IntLists", "add", "(II)V"⟩ : MethodName)) (z := (⟨"com/example/exact_equiv/exactequiv/equivalence/IntLists", "add", "(II)V"⟩ : MethodName)) hown (mvT hZ (hw _ (List.mem_of_getElem? (i := 23) rfl))) (mvT hZ (hw _ (List.mem_of_getElem? (i := 24) rfl))) (notFace_of_selects (args := #[]) (mvT hZ (hw _ (List.mem_of_getElem? (i := 26) rfl)))) (mvT hZ (hw _ (List.mem_of_getElem? (i := 26) rfl))) (mvT hZ (hw _ (List.mem_of_getElem? (i := 25) rfl))) (by decide) (backOf (W := 0) (rmA l Z a0 hw [] b7 ll e1 aF8 aS8 aN8 aP8 S10 T10.heap n0 Zs10 HIq10 (own_two2 hl) (own_rng4 (own_s4 h_e1)) (Or.inr (by rw [hS10, own_add_first]; exact (own_rng4 hs)))) hZ (hw _ (List.mem_of_getElem? (i := 27) rfl)) (hw _ (List.mem_of_getElem? (i := 3) rfl)) (by decide) (by decide)) q78a q78c (g := (mkF m 81 #[.val (.int p1), .val (.int p2), .val (.int p3), .val (.int p4), .val (.int p5), .val (.int (3 : Int32)), .val (.int ps), .val (.int ss), .val (.int ll), .val (.int ss), .val (.int e1), .val (.int e2), .val (.ref b7), .unset, .unset, .unset, .unset, .unset, .unset, .unset, .unset] [(.int e1), (.int ll), (.ref b7)])) rfl (by rw [hml]; rfl) (Steps.refl _) (argsL := [(.int ll), (.int e1)]) (rest := []) (lenOf pd_1 rfl) rfl (by show 2 * 0 + _ ≤ _; exact Nat.le_of_eq rfl) (hb hby at_81) (fun _ _ => ⟨rfl, rfl, (by decide : 5 + 0 ≤ _), (by decide : 16 + 0 ≤ _)⟩)
    dsimp only [Pt.U, Pt.locs, Pt.cells, Pt.slots] at X78 l78 y78 z78 st78 hQ78
    subst l78 y78 z78
    obtain ⟨rfl, N78q, Kq78, HIq78⟩ := hQ78
    have N78 := Fr.app N10 N78q
    have c79 := c11.keep Kq78
    have Zs78 : n0 ≤ T78.heap.size := Nat.le_trans Zs10 Kq78.1
    obtain ⟨S78, hS78⟩ : ∃ z, z = own_add S10 ll e1 := ⟨_, rfl⟩
    rw [← hS78] at HIq78
    have hc87_80 : ¬ ((3 : Int32) < (3 : Int32)) := by simp
    obtain ⟨cq81, kq81, q81a, q81b, q81c⟩ := isOf hZ rfl c79
    obtain ⟨_, _, ⟨T81, L81, k81, n81⟩, -, X81, ⟨Lc81, hQ81, l81, y81, z81⟩, st81⟩ := X78.virtualBack hx (y := (⟨"com/example/exact_equiv/exactequiv/equivalence/IntLists", "add", "(II)V"⟩ : MethodName)) (z := (⟨"com/example/exact_equiv/exactequiv/equivalence/IntLists", "add", "(II)V"⟩ : MethodName)) hown (mvT hZ (hw _ (List.mem_of_getElem? (i := 23) rfl))) (mvT hZ (hw _ (List.mem_of_getElem? (i := 24) rfl))) (notFace_of_selects (args := #[]) (mvT hZ (hw _ (List.mem_of_getElem? (i := 26) rfl)))) (mvT hZ (hw _ (List.mem_of_getElem? (i := 26) rfl))) (mvT hZ (hw _ (List.mem_of_getElem? (i := 25) rfl))) (by decide) (backOf (W := 0) (rmA l Z a0 hw [] b7 ll e2 aF8 aS8 aN8 aP8 S78 T78.heap n0 Zs78 HIq78 (own_two2 hl) (own_rng4 (own_s4 h_e2)) (Or.inr (by rw [hS78, own_add_first]; exact (own_rng4 (own_s4 h_e1))))) hZ (hw _ (List.mem_of_getElem? (i := 27) rfl)) (hw _ (List.mem_of_getElem? (i := 3) rfl)) (by decide) (by decide)) q81a q81c (g := (mkF m 96 #[.val (.int p1), .val (.int p2), .val (.int p3), .val (.int p4), .val (.int p5), .val (.int (3 : Int32)), .val (.int ps), .val (.int ss), .val (.int ll), .val (.int ss), .val (.int e1), .val (.int e2), .val (.ref b7), .unset, .unset, .unset, .unset, .unset, .unset, .unset, .unset] [(.int e2), (.int ll), (.ref b7)])) rfl (by rw [hml]; rfl) (Steps.refl _) (argsL := [(.int ll), (.int e2)]) (rest := []) (lenOf pd_1 rfl) rfl (by show 2 * 0 + _ ≤ _; exact Nat.le_of_eq rfl) (hb hby at_96) (fun _ _ => ⟨rfl, rfl, (by decide : 5 + 0 ≤ _), (by decide : 16 + 0 ≤ _)⟩)
    dsimp only [Pt.U, Pt.locs, Pt.cells, Pt.slots] at X81 l81 y81 z81 st81 hQ81
    subst l81 y81 z81
    obtain ⟨rfl, N81q, Kq81, HIq81⟩ := hQ81
    have N81 := Fr.app N78 N81q
    have c82 := c79.keep Kq81
    have Zs81 : n0 ≤ T81.heap.size := Nat.le_trans Zs78 Kq81.1
    obtain ⟨S81, hS81⟩ : ∃ z, z = own_add S78 ll e2 := ⟨_, rfl⟩
    rw [← hS81] at HIq81
    obtain ⟨T83, h83, k83, X83, e83, E83, A83, st83⟩ := newP X81 hx hZ (hw _ (List.mem_of_getElem? (i := 10) rfl)) rfl (g := (mkF m 100 #[.val (.int p1), .val (.int p2), .val (.int p3), .val (.int p4), .val (.int p5), .val (.int (3 : Int32)), .val (.int ps), .val (.int ss), .val (.int ll), .val (.int ss), .val (.int e1), .val (.int e2), .val (.ref b7), .unset, .unset, .unset, .unset, .unset, .unset, .unset, .unset] [(.int (3 : Int32))])) rfl (hb hby at_100) rfl (by decide) (cap := 3) (by decide) (by decide) (by decide) (by decide)
    obtain ⟨b83, g83⟩ : ∃ z, z = T81.heap.size := ⟨_, rfl⟩
    rw [← g83] at A83 st83
    have g_b83 : n0 ≤ b83 := Nat.le_trans Zs81 (Nat.le_of_eq g83.symm)
    have il83 := own_IL_ne HIq81 g83
    have ne84 : b7 ≠ b83 := Nat.ne_of_lt (Nat.lt_of_lt_of_le c82.lt (Nat.le_of_eq g83.symm))
    have c85 := c82.ext E83
    have c86 := HIq81.ext E83
    have Zs83 : n0 ≤ h83.size := Nat.le_trans Zs81 E83.1
    have V83 := own_IA_new A83 (by decide)
    obtain ⟨cl87, Ar87, Sz87, Nn87, Ge87⟩ := id V83
    have hin87 := inb_of Sz87 (j := (0 : Int32)) ⟨(by decide), (by decide)⟩
    obtain ⟨T87, h87, X87, e87, W87, st87⟩ := stI X83 hx hZ e83 Ar87 (j := (0 : Int32)) hin87 (g := (mkF m 105 #[.val (.int p1), .val (.int p2), .val (.int p3), .val (.int p4), .val (.int p5), .val (.int (3 : Int32)), .val (.int ps), .val (.int ss), .val (.int ll), .val (.int ss), .val (.int e1), .val (.int e2), .val (.ref b7), .unset, .unset, .unset, .unset, .unset, .unset, .unset, .unset] [(.int (-1 : Int32)), (.int (0 : Int32)), (.ref b83), (.ref b83)])) rfl rfl (hb hby at_105)
    have Aw87 := own_IA_set Ar87 Sz87 Nn87 Ge87 (by decide) (by decide) W87
    have c88 := c85.wr W87
    have c89 := c86.other W87 il83
    have Zs87 : n0 ≤ h87.size := Nat.le_trans Zs83 (Keep.of_wr W87).1
    have N87 := Fr.snoc X87 N81 g_b83
    obtain ⟨cl90, Ar90, Sz90, Nn90, Ge90⟩ := id Aw87
    have hin90 := inb_of Sz90 (j := (1 : Int32)) ⟨(by decide), (by decide)⟩
    obtain ⟨T90, h90, X90, e90, W90, st90⟩ := stI X87 hx hZ e87 Ar90 (j := (1 : Int32)) hin90 (g := (mkF m 109 #[.val (.int p1), .val (.int p2), .val (.int p3), .val (.int p4), .val (.int p5), .val (.int (3 : Int32)), .val (.int ps), .val (.int ss), .val (.int ll), .val (.int ss), .val (.int e1), .val (.int e2), .val (.ref b7), .unset, .unset, .unset, .unset, .unset, .unset, .unset, .unset] [(.int (-1 : Int32)), (.int (1 : Int32)), (.ref b83), (.ref b83)])) rfl rfl (hb hby at_109)
    have Aw90 := own_IA_set Ar90 Sz90 Nn90 Ge90 (by decide) (by decide) W90
    have c91 := c88.wr W90
    have c92 := c89.other W90 il83
    have Zs90 : n0 ≤ h90.size := Nat.le_trans Zs87 (Keep.of_wr W90).1
    have N90 := Fr.snoc X90 N87 g_b83
    obtain ⟨cl93, Ar93, Sz93, Nn93, Ge93⟩ := id Aw90
    have hin93 := inb_of Sz93 (j := (2 : Int32)) ⟨(by decide), (by decide)⟩
    obtain ⟨T93, h93, X93, e93, W93, st93⟩ := stI X90 hx hZ e90 Ar93 (j := (2 : Int32)) hin93 (g := (mkF m 113 #[.val (.int p1), .val (.int p2), .val (.int p3), .val (.int p4), .val (.int p5), .val (.int (3 : Int32)), .val (.int ps), .val (.int ss), .val (.int ll), .val (.int ss), .val (.int e1), .val (.int e2), .val (.ref b7), .unset, .unset, .unset, .unset, .unset, .unset, .unset, .unset] [(.int (-1 : Int32)), (.int (2 : Int32)), (.ref b83), (.ref b83)])) rfl rfl (hb hby at_113)
    have Aw93 := own_IA_set Ar93 Sz93 Nn93 Ge93 (by decide) (by decide) W93
    have c94 := c91.wr W93
    have c95 := c92.other W93 il83
    have Zs93 : n0 ≤ h93.size := Nat.le_trans Zs90 (Keep.of_wr W93).1
    have N93 := Fr.snoc X93 N90 g_b83
    have hc119_96 : ¬ ((3 : Int32) = (1 : Int32)) := by decide
    have hc134_97 : ¬ ((3 : Int32) = (2 : Int32)) := by decide
    obtain ⟨cl98, Ar98, Sz98, Nn98, Ge98⟩ := id Aw93
    have hin98 := inb_of Sz98 (j := (0 : Int32)) ⟨(by decide), (by decide)⟩
    obtain ⟨T98, h98, X98, e98, W98, st98⟩ := stI X93 hx hZ e93 Ar98 (j := (0 : Int32)) hin98 (g := (mkF m 157 #[.val (.int p1), .val (.int p2), .val (.int p3), .val (.int p4), .val (.int p5), .val (.int (3 : Int32)), .val (.int ps), .val (.int ss), .val (.int ll), .val (.int ss), .val (.int e1), .val (.int e2), .val (.ref b7), .val (.ref b83), .unset, .unset, .unset, .unset, .unset, .unset, .unset] [(.int e2), (.int (0 : Int32)), (.ref b83)])) rfl rfl (hb hby at_157)
    have Aw98 := own_IA_set Ar98 Sz98 Nn98 Ge98 (by decide) (by decide) W98
    have c99 := c94.wr W98
    have c100 := c95.other W98 il83
    have Zs98 : n0 ≤ h98.size := Nat.le_trans Zs93 (Keep.of_wr W98).1
    have N98 := Fr.snoc X98 N93 g_b83
    obtain ⟨cl101, Ar101, Sz101, Nn101, Ge101⟩ := id Aw98
    have hin101 := inb_of Sz101 (j := (1 : Int32)) ⟨(by decide), (by decide)⟩
    obtain ⟨T101, h101, X101, e101, W101, st101⟩ := stI X98 hx hZ e98 Ar101 (j := (1 : Int32)) hin101 (g := (mkF m 163 #[.val (.int p1), .val (.int p2), .val (.int p3), .val (.int p4), .val (.int p5), .val (.int (3 : Int32)), .val (.int ps), .val (.int ss), .val (.int ll), .val (.int ss), .val (.int e1), .val (.int e2), .val (.ref b7), .val (.ref b83), .unset, .unset, .unset, .unset, .unset, .unset, .unset] [(.int e1), (.int (1 : Int32)), (.ref b83)])) rfl rfl (hb hby at_163)
    have Aw101 := own_IA_set Ar101 Sz101 Nn101 Ge101 (by decide) (by decide) W101
    have c102 := c99.wr W101
    have c103 := c100.other W101 il83
    have Zs101 : n0 ≤ h101.size := Nat.le_trans Zs98 (Keep.of_wr W101).1
    have N101 := Fr.snoc X101 N98 g_b83
    obtain ⟨cl104, Ar104, Sz104, Nn104, Ge104⟩ := id Aw101
    have hin104 := inb_of Sz104 (j := (2 : Int32)) ⟨(by decide), (by decide)⟩
    obtain ⟨T104, h104, X104, e104, W104, st104⟩ := stI X101 hx hZ e101 Ar104 (j := (2 : Int32)) hin104 (g := (mkF m 169 #[.val (.int p1), .val (.int p2), .val (.int p3), .val (.int p4), .val (.int p5), .val (.int (3 : Int32)), .val (.int ps), .val (.int ss), .val (.int ll), .val (.int ss), .val (.int e1), .val (.int e2), .val (.ref b7), .val (.ref b83), .unset, .unset, .unset, .unset, .unset, .unset, .unset] [(.int ss), (.int (2 : Int32)), (.ref b83)])) rfl rfl (hb hby at_169)
    have Aw104 := own_IA_set Ar104 Sz104 Nn104 Ge104 (by decide) (by decide) W104
    have c105 := c102.wr W104
    have c106 := c103.other W104 il83
    have Zs104 : n0 ≤ h104.size := Nat.le_trans Zs101 (Keep.of_wr W104).1
    have N104 := Fr.snoc X104 N101 g_b83
    have hps := own_p3 h_ps
    have P107 : ∀ t, Steps p.tables e below (T104.setTop (mkF m 170 #[.val (.int p1), .val (.int p2), .val (.int p3), .val (.int p4), .val (.int p5), .val (.int (3 : Int32)), .val (.int ps), .val (.int ss), .val (.int ll), .val (.int ss), .val (.int e1), .val (.int e2), .val (.ref b7), .val (.ref b83), .unset, .unset, .unset, .unset, .unset, .unset, .unset] [])) t → Steps p.tables e below (s₁.setTop (entryFrame m #[(.int p1), (.int p2), (.int p3), (.int p4), (.int p5)] maxLocals)) t := fun t kt => P12 t (by
      show Steps p.tables e below (T10.setTop (mkF m 69 #[.val (.int p1), .val (.int p2), .val (.int p3), .val (.int p4), .val (.int p5), .val (.int (3 : Int32)), .val (.int ps), .val (.int ss), .val (.int ll), .val (.int ss), .val (.int e1), .val (.int e2), .val (.ref b7), .unset, .unset, .unset, .unset, .unset, .unset, .unset, .unset] [])) _
      refine XS.iload X10.here hx rfl (hb hby at_69) rfl ?_
      show Steps p.tables e below (T10.setTop (mkF m 71 #[.val (.int p1), .val (.int p2), .val (.int p3), .val (.int p4), .val (.int p5), .val (.int (3 : Int32)), .val (.int ps), .val (.int ss), .val (.int ll), .val (.int ss), .val (.int e1), .val (.int e2), .val (.ref b7), .unset, .unset, .unset, .unset, .unset, .unset, .unset, .unset] [(.int (3 : Int32))])) _
      refine XS.iconst X10.here hx rfl (hb hby at_71) ?_
      show Steps p.tables e below (T10.setTop (mkF m 72 #[.val (.int p1), .val (.int p2), .val (.int p3), .val (.int p4), .val (.int p5), .val (.int (3 : Int32)), .val (.int ps), .val (.int ss), .val (.int ll), .val (.int ss), .val (.int e1), .val (.int e2), .val (.ref b7), .unset, .unset, .unset, .unset, .unset, .unset, .unset, .unset] [(.int (2 : Int32)), (.int (3 : Int32))])) _
      refine XS.icmpNo X10.here hx rfl (hb hby at_72) rfl (XT.ii_lt_f hc72_77) ?_
      show Steps p.tables e below (T10.setTop (mkF m 75 #[.val (.int p1), .val (.int p2), .val (.int p3), .val (.int p4), .val (.int p5), .val (.int (3 : Int32)), .val (.int ps), .val (.int ss), .val (.int ll), .val (.int ss), .val (.int e1), .val (.int e2), .val (.ref b7), .unset, .unset, .unset, .unset, .unset, .unset, .unset, .unset] [])) _
      refine XS.aload X10.here hx rfl (hb hby at_75) rfl rfl ?_
      show Steps p.tables e below (T10.setTop (mkF m 77 #[.val (.int p1), .val (.int p2), .val (.int p3), .val (.int p4), .val (.int p5), .val (.int (3 : Int32)), .val (.int ps), .val (.int ss), .val (.int ll), .val (.int ss), .val (.int e1), .val (.int e2), .val (.ref b7), .unset, .unset, .unset, .unset, .unset, .unset, .unset, .unset] [(.ref b7)])) _
      refine XS.iload X10.here hx rfl (hb hby at_77) rfl ?_
      show Steps p.tables e below (T10.setTop (mkF m 79 #[.val (.int p1), .val (.int p2), .val (.int p3), .val (.int p4), .val (.int p5), .val (.int (3 : Int32)), .val (.int ps), .val (.int ss), .val (.int ll), .val (.int ss), .val (.int e1), .val (.int e2), .val (.ref b7), .unset, .unset, .unset, .unset, .unset, .unset, .unset, .unset] [(.int ll), (.ref b7)])) _
      refine XS.iload X10.here hx rfl (hb hby at_79) rfl ?_
      show Steps p.tables e below (T10.setTop (mkF m 81 #[.val (.int p1), .val (.int p2), .val (.int p3), .val (.int p4), .val (.int p5), .val (.int (3 : Int32)), .val (.int ps), .val (.int ss), .val (.int ll), .val (.int ss), .val (.int e1), .val (.int e2), .val (.ref b7), .unset, .unset, .unset, .unset, .unset, .unset, .unset, .unset] [(.int e1), (.int ll), (.ref b7)])) _
      refine st78.trans ?_
      show Steps p.tables e below (T78.setTop (mkF m 84 #[.val (.int p1), .val (.int p2), .val (.int p3), .val (.int p4), .val (.int p5), .val (.int (3 : Int32)), .val (.int ps), .val (.int ss), .val (.int ll), .val (.int ss), .val (.int e1), .val (.int e2), .val (.ref b7), .unset, .unset, .unset, .unset, .unset, .unset, .unset, .unset] [])) _
      refine XS.iload X78.here hx rfl (hb hby at_84) rfl ?_
      show Steps p.tables e below (T78.setTop (mkF m 86 #[.val (.int p1), .val (.int p2), .val (.int p3), .val (.int p4), .val (.int p5), .val (.int (3 : Int32)), .val (.int ps), .val (.int ss), .val (.int ll), .val (.int ss), .val (.int e1), .val (.int e2), .val (.ref b7), .unset, .unset, .unset, .unset, .unset, .unset, .unset, .unset] [(.int (3 : Int32))])) _
      refine XS.iconst X78.here hx rfl (hb hby at_86) ?_
      show Steps p.tables e below (T78.setTop (mkF m 87 #[.val (.int p1), .val (.int p2), .val (.int p3), .val (.int p4), .val (.int p5), .val (.int (3 : Int32)), .val (.int ps), .val (.int ss), .val (.int ll), .val (.int ss), .val (.int e1), .val (.int e2), .val (.ref b7), .unset, .unset, .unset, .unset, .unset, .unset, .unset, .unset] [(.int (3 : Int32)), (.int (3 : Int32))])) _
      refine XS.icmpNo X78.here hx rfl (hb hby at_87) rfl (XT.ii_lt_f hc87_80) ?_
      show Steps p.tables e below (T78.setTop (mkF m 90 #[.val (.int p1), .val (.int p2), .val (.int p3), .val (.int p4), .val (.int p5), .val (.int (3 : Int32)), .val (.int ps), .val (.int ss), .val (.int ll), .val (.int ss), .val (.int e1), .val (.int e2), .val (.ref b7), .unset, .unset, .unset, .unset, .unset, .unset, .unset, .unset] [])) _
      refine XS.aload X78.here hx rfl (hb hby at_90) rfl rfl ?_
      show Steps p.tables e below (T78.setTop (mkF m 92 #[.val (.int p1), .val (.int p2), .val (.int p3), .val (.int p4), .val (.int p5), .val (.int (3 : Int32)), .val (.int ps), .val (.int ss), .val (.int ll), .val (.int ss), .val (.int e1), .val (.int e2), .val (.ref b7), .unset, .unset, .unset, .unset, .unset, .unset, .unset, .unset] [(.ref b7)])) _
      refine XS.iload X78.here hx rfl (hb hby at_92) rfl ?_
      show Steps p.tables e below (T78.setTop (mkF m 94 #[.val (.int p1), .val (.int p2), .val (.int p3), .val (.int p4), .val (.int p5), .val (.int (3 : Int32)), .val (.int ps), .val (.int ss), .val (.int ll), .val (.int ss), .val (.int e1), .val (.int e2), .val (.ref b7), .unset, .unset, .unset, .unset, .unset, .unset, .unset, .unset] [(.int ll), (.ref b7)])) _
      refine XS.iload X78.here hx rfl (hb hby at_94) rfl ?_
      show Steps p.tables e below (T78.setTop (mkF m 96 #[.val (.int p1), .val (.int p2), .val (.int p3), .val (.int p4), .val (.int p5), .val (.int (3 : Int32)), .val (.int ps), .val (.int ss), .val (.int ll), .val (.int ss), .val (.int e1), .val (.int e2), .val (.ref b7), .unset, .unset, .unset, .unset, .unset, .unset, .unset, .unset] [(.int e2), (.int ll), (.ref b7)])) _
      refine st81.trans ?_
      show Steps p.tables e below (T81.setTop (mkF m 99 #[.val (.int p1), .val (.int p2), .val (.int p3), .val (.int p4), .val (.int p5), .val (.int (3 : Int32)), .val (.int ps), .val (.int ss), .val (.int ll), .val (.int ss), .val (.int e1), .val (.int e2), .val (.ref b7), .unset, .unset, .unset, .unset, .unset, .unset, .unset, .unset] [])) _
      refine XS.iconst X81.here hx rfl (hb hby at_99) ?_
      show Steps p.tables e below (T81.setTop (mkF m 100 #[.val (.int p1), .val (.int p2), .val (.int p3), .val (.int p4), .val (.int p5), .val (.int (3 : Int32)), .val (.int ps), .val (.int ss), .val (.int ll), .val (.int ss), .val (.int e1), .val (.int e2), .val (.ref b7), .unset, .unset, .unset, .unset, .unset, .unset, .unset, .unset] [(.int (3 : Int32))])) _
      refine st83 _ ?_
      show Steps p.tables e below (T83.setTop (mkF m 102 #[.val (.int p1), .val (.int p2), .val (.int p3), .val (.int p4), .val (.int p5), .val (.int (3 : Int32)), .val (.int ps), .val (.int ss), .val (.int ll), .val (.int ss), .val (.int e1), .val (.int e2), .val (.ref b7), .unset, .unset, .unset, .unset, .unset, .unset, .unset, .unset] [(.ref b83)])) _
      refine XS.dup X83.here hx rfl (hb hby at_102) rfl rfl ?_
      show Steps p.tables e below (T83.setTop (mkF m 103 #[.val (.int p1), .val (.int p2), .val (.int p3), .val (.int p4), .val (.int p5), .val (.int (3 : Int32)), .val (.int ps), .val (.int ss), .val (.int ll), .val (.int ss), .val (.int e1), .val (.int e2), .val (.ref b7), .unset, .unset, .unset, .unset, .unset, .unset, .unset, .unset] [(.ref b83), (.ref b83)])) _
      refine XS.iconst X83.here hx rfl (hb hby at_103) ?_
      show Steps p.tables e below (T83.setTop (mkF m 104 #[.val (.int p1), .val (.int p2), .val (.int p3), .val (.int p4), .val (.int p5), .val (.int (3 : Int32)), .val (.int ps), .val (.int ss), .val (.int ll), .val (.int ss), .val (.int e1), .val (.int e2), .val (.ref b7), .unset, .unset, .unset, .unset, .unset, .unset, .unset, .unset] [(.int (0 : Int32)), (.ref b83), (.ref b83)])) _
      refine XS.iconst X83.here hx rfl (hb hby at_104) ?_
      show Steps p.tables e below (T83.setTop (mkF m 105 #[.val (.int p1), .val (.int p2), .val (.int p3), .val (.int p4), .val (.int p5), .val (.int (3 : Int32)), .val (.int ps), .val (.int ss), .val (.int ll), .val (.int ss), .val (.int e1), .val (.int e2), .val (.ref b7), .unset, .unset, .unset, .unset, .unset, .unset, .unset, .unset] [(.int (-1 : Int32)), (.int (0 : Int32)), (.ref b83), (.ref b83)])) _
      refine st87 _ ?_
      show Steps p.tables e below (T87.setTop (mkF m 106 #[.val (.int p1), .val (.int p2), .val (.int p3), .val (.int p4), .val (.int p5), .val (.int (3 : Int32)), .val (.int ps), .val (.int ss), .val (.int ll), .val (.int ss), .val (.int e1), .val (.int e2), .val (.ref b7), .unset, .unset, .unset, .unset, .unset, .unset, .unset, .unset] [(.ref b83)])) _
      refine XS.dup X87.here hx rfl (hb hby at_106) rfl rfl ?_
      show Steps p.tables e below (T87.setTop (mkF m 107 #[.val (.int p1), .val (.int p2), .val (.int p3), .val (.int p4), .val (.int p5), .val (.int (3 : Int32)), .val (.int ps), .val (.int ss), .val (.int ll), .val (.int ss), .val (.int e1), .val (.int e2), .val (.ref b7), .unset, .unset, .unset, .unset, .unset, .unset, .unset, .unset] [(.ref b83), (.ref b83)])) _
      refine XS.iconst X87.here hx rfl (hb hby at_107) ?_
      show Steps p.tables e below (T87.setTop (mkF m 108 #[.val (.int p1), .val (.int p2), .val (.int p3), .val (.int p4), .val (.int p5), .val (.int (3 : Int32)), .val (.int ps), .val (.int ss), .val (.int ll), .val (.int ss), .val (.int e1), .val (.int e2), .val (.ref b7), .unset, .unset, .unset, .unset, .unset, .unset, .unset, .unset] [(.int (1 : Int32)), (.ref b83), (.ref b83)])) _
      refine XS.iconst X87.here hx rfl (hb hby at_108) ?_
      show Steps p.tables e below (T87.setTop (mkF m 109 #[.val (.int p1), .val (.int p2), .val (.int p3), .val (.int p4), .val (.int p5), .val (.int (3 : Int32)), .val (.int ps), .val (.int ss), .val (.int ll), .val (.int ss), .val (.int e1), .val (.int e2), .val (.ref b7), .unset, .unset, .unset, .unset, .unset, .unset, .unset, .unset] [(.int (-1 : Int32)), (.int (1 : Int32)), (.ref b83), (.ref b83)])) _
      refine st90 _ ?_
      show Steps p.tables e below (T90.setTop (mkF m 110 #[.val (.int p1), .val (.int p2), .val (.int p3), .val (.int p4), .val (.int p5), .val (.int (3 : Int32)), .val (.int ps), .val (.int ss), .val (.int ll), .val (.int ss), .val (.int e1), .val (.int e2), .val (.ref b7), .unset, .unset, .unset, .unset, .unset, .unset, .unset, .unset] [(.ref b83)])) _
      refine XS.dup X90.here hx rfl (hb hby at_110) rfl rfl ?_
      show Steps p.tables e below (T90.setTop (mkF m 111 #[.val (.int p1), .val (.int p2), .val (.int p3), .val (.int p4), .val (.int p5), .val (.int (3 : Int32)), .val (.int ps), .val (.int ss), .val (.int ll), .val (.int ss), .val (.int e1), .val (.int e2), .val (.ref b7), .unset, .unset, .unset, .unset, .unset, .unset, .unset, .unset] [(.ref b83), (.ref b83)])) _
      refine XS.iconst X90.here hx rfl (hb hby at_111) ?_
      show Steps p.tables e below (T90.setTop (mkF m 112 #[.val (.int p1), .val (.int p2), .val (.int p3), .val (.int p4), .val (.int p5), .val (.int (3 : Int32)), .val (.int ps), .val (.int ss), .val (.int ll), .val (.int ss), .val (.int e1), .val (.int e2), .val (.ref b7), .unset, .unset, .unset, .unset, .unset, .unset, .unset, .unset] [(.int (2 : Int32)), (.ref b83), (.ref b83)])) _
      refine XS.iconst X90.here hx rfl (hb hby at_112) ?_
      show Steps p.tables e below (T90.setTop (mkF m 113 #[.val (.int p1), .val (.int p2), .val (.int p3), .val (.int p4), .val (.int p5), .val (.int (3 : Int32)), .val (.int ps), .val (.int ss), .val (.int ll), .val (.int ss), .val (.int e1), .val (.int e2), .val (.ref b7), .unset, .unset, .unset, .unset, .unset, .unset, .unset, .unset] [(.int (-1 : Int32)), (.int (2 : Int32)), (.ref b83), (.ref b83)])) _
      refine st93 _ ?_
      show Steps p.tables e below (T93.setTop (mkF m 114 #[.val (.int p1), .val (.int p2), .val (.int p3), .val (.int p4), .val (.int p5), .val (.int (3 : Int32)), .val (.int ps), .val (.int ss), .val (.int ll), .val (.int ss), .val (.int e1), .val (.int e2), .val (.ref b7), .unset, .unset, .unset, .unset, .unset, .unset, .unset, .unset] [(.ref b83)])) _
      refine XS.astore X93.here hx rfl (hb hby at_114) rfl rfl (l' := #[.val (.int p1), .val (.int p2), .val (.int p3), .val (.int p4), .val (.int p5), .val (.int (3 : Int32)), .val (.int ps), .val (.int ss), .val (.int ll), .val (.int ss), .val (.int e1), .val (.int e2), .val (.ref b7), .val (.ref b83), .unset, .unset, .unset, .unset, .unset, .unset, .unset]) rfl ?_
      show Steps p.tables e below (T93.setTop (mkF m 116 #[.val (.int p1), .val (.int p2), .val (.int p3), .val (.int p4), .val (.int p5), .val (.int (3 : Int32)), .val (.int ps), .val (.int ss), .val (.int ll), .val (.int ss), .val (.int e1), .val (.int e2), .val (.ref b7), .val (.ref b83), .unset, .unset, .unset, .unset, .unset, .unset, .unset] [])) _
      refine XS.iload X93.here hx rfl (hb hby at_116) rfl ?_
      show Steps p.tables e below (T93.setTop (mkF m 118 #[.val (.int p1), .val (.int p2), .val (.int p3), .val (.int p4), .val (.int p5), .val (.int (3 : Int32)), .val (.int ps), .val (.int ss), .val (.int ll), .val (.int ss), .val (.int e1), .val (.int e2), .val (.ref b7), .val (.ref b83), .unset, .unset, .unset, .unset, .unset, .unset, .unset] [(.int (3 : Int32))])) _
      refine XS.iconst X93.here hx rfl (hb hby at_118) ?_
      show Steps p.tables e below (T93.setTop (mkF m 119 #[.val (.int p1), .val (.int p2), .val (.int p3), .val (.int p4), .val (.int p5), .val (.int (3 : Int32)), .val (.int ps), .val (.int ss), .val (.int ll), .val (.int ss), .val (.int e1), .val (.int e2), .val (.ref b7), .val (.ref b83), .unset, .unset, .unset, .unset, .unset, .unset, .unset] [(.int (1 : Int32)), (.int (3 : Int32))])) _
      refine XS.icmpYes X93.here hx rfl (pc0 := 119) (pc' := 131) rfl (hb hby at_119) rfl (XT.ii_ne_t hc119_96) (by decide) (by decide) ?_
      show Steps p.tables e below (T93.setTop (mkF m 131 #[.val (.int p1), .val (.int p2), .val (.int p3), .val (.int p4), .val (.int p5), .val (.int (3 : Int32)), .val (.int ps), .val (.int ss), .val (.int ll), .val (.int ss), .val (.int e1), .val (.int e2), .val (.ref b7), .val (.ref b83), .unset, .unset, .unset, .unset, .unset, .unset, .unset] [])) _
      refine XS.iload X93.here hx rfl (hb hby at_131) rfl ?_
      show Steps p.tables e below (T93.setTop (mkF m 133 #[.val (.int p1), .val (.int p2), .val (.int p3), .val (.int p4), .val (.int p5), .val (.int (3 : Int32)), .val (.int ps), .val (.int ss), .val (.int ll), .val (.int ss), .val (.int e1), .val (.int e2), .val (.ref b7), .val (.ref b83), .unset, .unset, .unset, .unset, .unset, .unset, .unset] [(.int (3 : Int32))])) _
      refine XS.iconst X93.here hx rfl (hb hby at_133) ?_
      show Steps p.tables e below (T93.setTop (mkF m 134 #[.val (.int p1), .val (.int p2), .val (.int p3), .val (.int p4), .val (.int p5), .val (.int (3 : Int32)), .val (.int ps), .val (.int ss), .val (.int ll), .val (.int ss), .val (.int e1), .val (.int e2), .val (.ref b7), .val (.ref b83), .unset, .unset, .unset, .unset, .unset, .unset, .unset] [(.int (2 : Int32)), (.int (3 : Int32))])) _
      refine XS.icmpYes X93.here hx rfl (pc0 := 134) (pc' := 152) rfl (hb hby at_134) rfl (XT.ii_ne_t hc134_97) (by decide) (by decide) ?_
      show Steps p.tables e below (T93.setTop (mkF m 152 #[.val (.int p1), .val (.int p2), .val (.int p3), .val (.int p4), .val (.int p5), .val (.int (3 : Int32)), .val (.int ps), .val (.int ss), .val (.int ll), .val (.int ss), .val (.int e1), .val (.int e2), .val (.ref b7), .val (.ref b83), .unset, .unset, .unset, .unset, .unset, .unset, .unset] [])) _
      refine XS.aload X93.here hx rfl (hb hby at_152) rfl rfl ?_
      show Steps p.tables e below (T93.setTop (mkF m 154 #[.val (.int p1), .val (.int p2), .val (.int p3), .val (.int p4), .val (.int p5), .val (.int (3 : Int32)), .val (.int ps), .val (.int ss), .val (.int ll), .val (.int ss), .val (.int e1), .val (.int e2), .val (.ref b7), .val (.ref b83), .unset, .unset, .unset, .unset, .unset, .unset, .unset] [(.ref b83)])) _
      refine XS.iconst X93.here hx rfl (hb hby at_154) ?_
      show Steps p.tables e below (T93.setTop (mkF m 155 #[.val (.int p1), .val (.int p2), .val (.int p3), .val (.int p4), .val (.int p5), .val (.int (3 : Int32)), .val (.int ps), .val (.int ss), .val (.int ll), .val (.int ss), .val (.int e1), .val (.int e2), .val (.ref b7), .val (.ref b83), .unset, .unset, .unset, .unset, .unset, .unset, .unset] [(.int (0 : Int32)), (.ref b83)])) _
      refine XS.iload X93.here hx rfl (hb hby at_155) rfl ?_
      show Steps p.tables e below (T93.setTop (mkF m 157 #[.val (.int p1), .val (.int p2), .val (.int p3), .val (.int p4), .val (.int p5), .val (.int (3 : Int32)), .val (.int ps), .val (.int ss), .val (.int ll), .val (.int ss), .val (.int e1), .val (.int e2), .val (.ref b7), .val (.ref b83), .unset, .unset, .unset, .unset, .unset, .unset, .unset] [(.int e2), (.int (0 : Int32)), (.ref b83)])) _
      refine st98 _ ?_
      show Steps p.tables e below (T98.setTop (mkF m 158 #[.val (.int p1), .val (.int p2), .val (.int p3), .val (.int p4), .val (.int p5), .val (.int (3 : Int32)), .val (.int ps), .val (.int ss), .val (.int ll), .val (.int ss), .val (.int e1), .val (.int e2), .val (.ref b7), .val (.ref b83), .unset, .unset, .unset, .unset, .unset, .unset, .unset] [])) _
      refine XS.aload X98.here hx rfl (hb hby at_158) rfl rfl ?_
      show Steps p.tables e below (T98.setTop (mkF m 160 #[.val (.int p1), .val (.int p2), .val (.int p3), .val (.int p4), .val (.int p5), .val (.int (3 : Int32)), .val (.int ps), .val (.int ss), .val (.int ll), .val (.int ss), .val (.int e1), .val (.int e2), .val (.ref b7), .val (.ref b83), .unset, .unset, .unset, .unset, .unset, .unset, .unset] [(.ref b83)])) _
      refine XS.iconst X98.here hx rfl (hb hby at_160) ?_
      show Steps p.tables e below (T98.setTop (mkF m 161 #[.val (.int p1), .val (.int p2), .val (.int p3), .val (.int p4), .val (.int p5), .val (.int (3 : Int32)), .val (.int ps), .val (.int ss), .val (.int ll), .val (.int ss), .val (.int e1), .val (.int e2), .val (.ref b7), .val (.ref b83), .unset, .unset, .unset, .unset, .unset, .unset, .unset] [(.int (1 : Int32)), (.ref b83)])) _
      refine XS.iload X98.here hx rfl (hb hby at_161) rfl ?_
      show Steps p.tables e below (T98.setTop (mkF m 163 #[.val (.int p1), .val (.int p2), .val (.int p3), .val (.int p4), .val (.int p5), .val (.int (3 : Int32)), .val (.int ps), .val (.int ss), .val (.int ll), .val (.int ss), .val (.int e1), .val (.int e2), .val (.ref b7), .val (.ref b83), .unset, .unset, .unset, .unset, .unset, .unset, .unset] [(.int e1), (.int (1 : Int32)), (.ref b83)])) _
      refine st101 _ ?_
      show Steps p.tables e below (T101.setTop (mkF m 164 #[.val (.int p1), .val (.int p2), .val (.int p3), .val (.int p4), .val (.int p5), .val (.int (3 : Int32)), .val (.int ps), .val (.int ss), .val (.int ll), .val (.int ss), .val (.int e1), .val (.int e2), .val (.ref b7), .val (.ref b83), .unset, .unset, .unset, .unset, .unset, .unset, .unset] [])) _
      refine XS.aload X101.here hx rfl (hb hby at_164) rfl rfl ?_
      show Steps p.tables e below (T101.setTop (mkF m 166 #[.val (.int p1), .val (.int p2), .val (.int p3), .val (.int p4), .val (.int p5), .val (.int (3 : Int32)), .val (.int ps), .val (.int ss), .val (.int ll), .val (.int ss), .val (.int e1), .val (.int e2), .val (.ref b7), .val (.ref b83), .unset, .unset, .unset, .unset, .unset, .unset, .unset] [(.ref b83)])) _
      refine XS.iconst X101.here hx rfl (hb hby at_166) ?_
      show Steps p.tables e below (T101.setTop (mkF m 167 #[.val (.int p1), .val (.int p2), .val (.int p3), .val (.int p4), .val (.int p5), .val (.int (3 : Int32)), .val (.int ps), .val (.int ss), .val (.int ll), .val (.int ss), .val (.int e1), .val (.int e2), .val (.ref b7), .val (.ref b83), .unset, .unset, .unset, .unset, .unset, .unset, .unset] [(.int (2 : Int32)), (.ref b83)])) _
      refine XS.iload X101.here hx rfl (hb hby at_167) rfl ?_
      show Steps p.tables e below (T101.setTop (mkF m 169 #[.val (.int p1), .val (.int p2), .val (.int p3), .val (.int p4), .val (.int p5), .val (.int (3 : Int32)), .val (.int ps), .val (.int ss), .val (.int ll), .val (.int ss), .val (.int e1), .val (.int e2), .val (.ref b7), .val (.ref b83), .unset, .unset, .unset, .unset, .unset, .unset, .unset] [(.int ss), (.int (2 : Int32)), (.ref b83)])) _
      refine st104 _ ?_
      exact kt)
    rcases hps with rfl | rfl | rfl
    · skip
      obtain ⟨cl108, Ar108, Sz108, Nn108, Ge108⟩ := id Aw104
      have hin108 := inb_of Sz108 (j := (0 : Int32)) ⟨(by decide), (by decide)⟩
      have hc179_109 : (0 : Int32) = (0 : Int32) := rfl
      obtain ⟨cl110, Ar110, Sz110, Nn110, Ge110⟩ := id Aw104
      have hin110 := inb_of Sz110 (j := (1 : Int32)) ⟨(by decide), (by decide)⟩
      have hc198_111 : ¬ ((1 : Int32) < (0 : Int32)) := by decide
      obtain ⟨cl112, Ar112, Sz112, Nn112, Ge112⟩ := id Aw104
      have hin112 := inb_of Sz112 (j := (2 : Int32)) ⟨(by decide), (by decide)⟩
      have P113 : ∀ t, Steps p.tables e below (T104.setTop (mkF m 214 #[.val (.int p1), .val (.int p2), .val (.int p3), .val (.int p4), .val (.int p5), .val (.int (3 : Int32)), .val (.int (0 : Int32)), .val (.int ss), .val (.int ll), .val (.int ss), .val (.int e1), .val (.int e2), .val (.ref b7), .val (.ref b83), .val (.int ((own_upd (own_upd (own_upd (own_upd (own_upd (own_upd (fun _ => (0 : Int32)) (0 : Int32) (-1 : Int32)) (1 : Int32) (-1 : Int32)) (2 : Int32) (-1 : Int32)) (0 : Int32) e2) (1 : Int32) e1) (2 : Int32) ss) (0 : Int32))), .val (.int ((own_upd (own_upd (own_upd (own_upd (own_upd (own_upd (fun _ => (0 : Int32)) (0 : Int32) (-1 : Int32)) (1 : Int32) (-1 : Int32)) (2 : Int32) (-1 : Int32)) (0 : Int32) e2) (1 : Int32) e1) (2 : Int32) ss) (1 : Int32))), .val (.int ((own_upd (own_upd (own_upd (own_upd (own_upd (own_upd (fun _ => (0 : Int32)) (0 : Int32) (-1 : Int32)) (1 : Int32) (-1 : Int32)) (2 : Int32) (-1 : Int32)) (0 : Int32) e2) (1 : Int32) e1) (2 : Int32) ss) (2 : Int32))), .unset, .unset, .unset, .unset] [])) t → Steps p.tables e below (s₁.setTop (entryFrame m #[(.int p1), (.int p2), (.int p3), (.int p4), (.int p5)] maxLocals)) t := fun t kt => P107 t (by
        show Steps p.tables e below (T104.setTop (mkF m 170 #[.val (.int p1), .val (.int p2), .val (.int p3), .val (.int p4), .val (.int p5), .val (.int (3 : Int32)), .val (.int (0 : Int32)), .val (.int ss), .val (.int ll), .val (.int ss), .val (.int e1), .val (.int e2), .val (.ref b7), .val (.ref b83), .unset, .unset, .unset, .unset, .unset, .unset, .unset] [])) _
        refine XS.aload X104.here hx rfl (hb hby at_170) rfl rfl ?_
        show Steps p.tables e below (T104.setTop (mkF m 172 #[.val (.int p1), .val (.int p2), .val (.int p3), .val (.int p4), .val (.int p5), .val (.int (3 : Int32)), .val (.int (0 : Int32)), .val (.int ss), .val (.int ll), .val (.int ss), .val (.int e1), .val (.int e2), .val (.ref b7), .val (.ref b83), .unset, .unset, .unset, .unset, .unset, .unset, .unset] [(.ref b83)])) _
        refine XS.iload X104.here hx rfl (hb hby at_172) rfl ?_
        show Steps p.tables e below (T104.setTop (mkF m 174 #[.val (.int p1), .val (.int p2), .val (.int p3), .val (.int p4), .val (.int p5), .val (.int (3 : Int32)), .val (.int (0 : Int32)), .val (.int ss), .val (.int ll), .val (.int ss), .val (.int e1), .val (.int e2), .val (.ref b7), .val (.ref b83), .unset, .unset, .unset, .unset, .unset, .unset, .unset] [(.int (0 : Int32)), (.ref b83)])) _
        refine X104.iaload hx (j := (0 : Int32)) (v := (.int ((own_upd (own_upd (own_upd (own_upd (own_upd (own_upd (fun _ => (0 : Int32)) (0 : Int32) (-1 : Int32)) (1 : Int32) (-1 : Int32)) (2 : Int32) (-1 : Int32)) (0 : Int32) e2) (1 : Int32) e1) (2 : Int32) ss) (0 : Int32)))) (by rw [e104]; exact Ar108.1) (State.isArrayOf_alike hZ.alike Ar108.2.1) Ar108.2.2 hin108 (Ge108 _ (by decide) (by decide)) (g := (mkF m 174 #[.val (.int p1), .val (.int p2), .val (.int p3), .val (.int p4), .val (.int p5), .val (.int (3 : Int32)), .val (.int (0 : Int32)), .val (.int ss), .val (.int ll), .val (.int ss), .val (.int e1), .val (.int e2), .val (.ref b7), .val (.ref b83), .unset, .unset, .unset, .unset, .unset, .unset, .unset] [(.int (0 : Int32)), (.ref b83)])) rfl rfl (hb hby at_174) _ ?_
        show Steps p.tables e below (T104.setTop (mkF m 175 #[.val (.int p1), .val (.int p2), .val (.int p3), .val (.int p4), .val (.int p5), .val (.int (3 : Int32)), .val (.int (0 : Int32)), .val (.int ss), .val (.int ll), .val (.int ss), .val (.int e1), .val (.int e2), .val (.ref b7), .val (.ref b83), .unset, .unset, .unset, .unset, .unset, .unset, .unset] [(.int ((own_upd (own_upd (own_upd (own_upd (own_upd (own_upd (fun _ => (0 : Int32)) (0 : Int32) (-1 : Int32)) (1 : Int32) (-1 : Int32)) (2 : Int32) (-1 : Int32)) (0 : Int32) e2) (1 : Int32) e1) (2 : Int32) ss) (0 : Int32)))])) _
        refine XS.istore X104.here hx rfl (hb hby at_175) rfl (l' := #[.val (.int p1), .val (.int p2), .val (.int p3), .val (.int p4), .val (.int p5), .val (.int (3 : Int32)), .val (.int (0 : Int32)), .val (.int ss), .val (.int ll), .val (.int ss), .val (.int e1), .val (.int e2), .val (.ref b7), .val (.ref b83), .val (.int ((own_upd (own_upd (own_upd (own_upd (own_upd (own_upd (fun _ => (0 : Int32)) (0 : Int32) (-1 : Int32)) (1 : Int32) (-1 : Int32)) (2 : Int32) (-1 : Int32)) (0 : Int32) e2) (1 : Int32) e1) (2 : Int32) ss) (0 : Int32))), .unset, .unset, .unset, .unset, .unset, .unset]) rfl ?_
        show Steps p.tables e below (T104.setTop (mkF m 177 #[.val (.int p1), .val (.int p2), .val (.int p3), .val (.int p4), .val (.int p5), .val (.int (3 : Int32)), .val (.int (0 : Int32)), .val (.int ss), .val (.int ll), .val (.int ss), .val (.int e1), .val (.int e2), .val (.ref b7), .val (.ref b83), .val (.int ((own_upd (own_upd (own_upd (own_upd (own_upd (own_upd (fun _ => (0 : Int32)) (0 : Int32) (-1 : Int32)) (1 : Int32) (-1 : Int32)) (2 : Int32) (-1 : Int32)) (0 : Int32) e2) (1 : Int32) e1) (2 : Int32) ss) (0 : Int32))), .unset, .unset, .unset, .unset, .unset, .unset] [])) _
        refine XS.iload X104.here hx rfl (hb hby at_177) rfl ?_
        show Steps p.tables e below (T104.setTop (mkF m 179 #[.val (.int p1), .val (.int p2), .val (.int p3), .val (.int p4), .val (.int p5), .val (.int (3 : Int32)), .val (.int (0 : Int32)), .val (.int ss), .val (.int ll), .val (.int ss), .val (.int e1), .val (.int e2), .val (.ref b7), .val (.ref b83), .val (.int ((own_upd (own_upd (own_upd (own_upd (own_upd (own_upd (fun _ => (0 : Int32)) (0 : Int32) (-1 : Int32)) (1 : Int32) (-1 : Int32)) (2 : Int32) (-1 : Int32)) (0 : Int32) e2) (1 : Int32) e1) (2 : Int32) ss) (0 : Int32))), .unset, .unset, .unset, .unset, .unset, .unset] [(.int (0 : Int32))])) _
        refine XS.ifNo X104.here hx rfl (hb hby at_179) rfl (XT.i0_ne_f hc179_109) ?_
        show Steps p.tables e below (T104.setTop (mkF m 182 #[.val (.int p1), .val (.int p2), .val (.int p3), .val (.int p4), .val (.int p5), .val (.int (3 : Int32)), .val (.int (0 : Int32)), .val (.int ss), .val (.int ll), .val (.int ss), .val (.int e1), .val (.int e2), .val (.ref b7), .val (.ref b83), .val (.int ((own_upd (own_upd (own_upd (own_upd (own_upd (own_upd (fun _ => (0 : Int32)) (0 : Int32) (-1 : Int32)) (1 : Int32) (-1 : Int32)) (2 : Int32) (-1 : Int32)) (0 : Int32) e2) (1 : Int32) e1) (2 : Int32) ss) (0 : Int32))), .unset, .unset, .unset, .unset, .unset, .unset] [])) _
        refine XS.aload X104.here hx rfl (hb hby at_182) rfl rfl ?_
        show Steps p.tables e below (T104.setTop (mkF m 184 #[.val (.int p1), .val (.int p2), .val (.int p3), .val (.int p4), .val (.int p5), .val (.int (3 : Int32)), .val (.int (0 : Int32)), .val (.int ss), .val (.int ll), .val (.int ss), .val (.int e1), .val (.int e2), .val (.ref b7), .val (.ref b83), .val (.int ((own_upd (own_upd (own_upd (own_upd (own_upd (own_upd (fun _ => (0 : Int32)) (0 : Int32) (-1 : Int32)) (1 : Int32) (-1 : Int32)) (2 : Int32) (-1 : Int32)) (0 : Int32) e2) (1 : Int32) e1) (2 : Int32) ss) (0 : Int32))), .unset, .unset, .unset, .unset, .unset, .unset] [(.ref b83)])) _
        refine XS.iconst X104.here hx rfl (hb hby at_184) ?_
        show Steps p.tables e below (T104.setTop (mkF m 185 #[.val (.int p1), .val (.int p2), .val (.int p3), .val (.int p4), .val (.int p5), .val (.int (3 : Int32)), .val (.int (0 : Int32)), .val (.int ss), .val (.int ll), .val (.int ss), .val (.int e1), .val (.int e2), .val (.ref b7), .val (.ref b83), .val (.int ((own_upd (own_upd (own_upd (own_upd (own_upd (own_upd (fun _ => (0 : Int32)) (0 : Int32) (-1 : Int32)) (1 : Int32) (-1 : Int32)) (2 : Int32) (-1 : Int32)) (0 : Int32) e2) (1 : Int32) e1) (2 : Int32) ss) (0 : Int32))), .unset, .unset, .unset, .unset, .unset, .unset] [(.int (1 : Int32)), (.ref b83)])) _
        refine X104.iaload hx (j := (1 : Int32)) (v := (.int ((own_upd (own_upd (own_upd (own_upd (own_upd (own_upd (fun _ => (0 : Int32)) (0 : Int32) (-1 : Int32)) (1 : Int32) (-1 : Int32)) (2 : Int32) (-1 : Int32)) (0 : Int32) e2) (1 : Int32) e1) (2 : Int32) ss) (1 : Int32)))) (by rw [e104]; exact Ar110.1) (State.isArrayOf_alike hZ.alike Ar110.2.1) Ar110.2.2 hin110 (Ge110 _ (by decide) (by decide)) (g := (mkF m 185 #[.val (.int p1), .val (.int p2), .val (.int p3), .val (.int p4), .val (.int p5), .val (.int (3 : Int32)), .val (.int (0 : Int32)), .val (.int ss), .val (.int ll), .val (.int ss), .val (.int e1), .val (.int e2), .val (.ref b7), .val (.ref b83), .val (.int ((own_upd (own_upd (own_upd (own_upd (own_upd (own_upd (fun _ => (0 : Int32)) (0 : Int32) (-1 : Int32)) (1 : Int32) (-1 : Int32)) (2 : Int32) (-1 : Int32)) (0 : Int32) e2) (1 : Int32) e1) (2 : Int32) ss) (0 : Int32))), .unset, .unset, .unset, .unset, .unset, .unset] [(.int (1 : Int32)), (.ref b83)])) rfl rfl (hb hby at_185) _ ?_
        show Steps p.tables e below (T104.setTop (mkF m 186 #[.val (.int p1), .val (.int p2), .val (.int p3), .val (.int p4), .val (.int p5), .val (.int (3 : Int32)), .val (.int (0 : Int32)), .val (.int ss), .val (.int ll), .val (.int ss), .val (.int e1), .val (.int e2), .val (.ref b7), .val (.ref b83), .val (.int ((own_upd (own_upd (own_upd (own_upd (own_upd (own_upd (fun _ => (0 : Int32)) (0 : Int32) (-1 : Int32)) (1 : Int32) (-1 : Int32)) (2 : Int32) (-1 : Int32)) (0 : Int32) e2) (1 : Int32) e1) (2 : Int32) ss) (0 : Int32))), .unset, .unset, .unset, .unset, .unset, .unset] [(.int ((own_upd (own_upd (own_upd (own_upd (own_upd (own_upd (fun _ => (0 : Int32)) (0 : Int32) (-1 : Int32)) (1 : Int32) (-1 : Int32)) (2 : Int32) (-1 : Int32)) (0 : Int32) e2) (1 : Int32) e1) (2 : Int32) ss) (1 : Int32)))])) _
        refine XS.goto X104.here hx rfl (pc0 := 186) (pc' := 193) rfl (hb hby at_186) (by decide) (by decide) ?_
        show Steps p.tables e below (T104.setTop (mkF m 193 #[.val (.int p1), .val (.int p2), .val (.int p3), .val (.int p4), .val (.int p5), .val (.int (3 : Int32)), .val (.int (0 : Int32)), .val (.int ss), .val (.int ll), .val (.int ss), .val (.int e1), .val (.int e2), .val (.ref b7), .val (.ref b83), .val (.int ((own_upd (own_upd (own_upd (own_upd (own_upd (own_upd (fun _ => (0 : Int32)) (0 : Int32) (-1 : Int32)) (1 : Int32) (-1 : Int32)) (2 : Int32) (-1 : Int32)) (0 : Int32) e2) (1 : Int32) e1) (2 : Int32) ss) (0 : Int32))), .unset, .unset, .unset, .unset, .unset, .unset] [(.int ((own_upd (own_upd (own_upd (own_upd (own_upd (own_upd (fun _ => (0 : Int32)) (0 : Int32) (-1 : Int32)) (1 : Int32) (-1 : Int32)) (2 : Int32) (-1 : Int32)) (0 : Int32) e2) (1 : Int32) e1) (2 : Int32) ss) (1 : Int32)))])) _
        refine XS.istore X104.here hx rfl (hb hby at_193) rfl (l' := #[.val (.int p1), .val (.int p2), .val (.int p3), .val (.int p4), .val (.int p5), .val (.int (3 : Int32)), .val (.int (0 : Int32)), .val (.int ss), .val (.int ll), .val (.int ss), .val (.int e1), .val (.int e2), .val (.ref b7), .val (.ref b83), .val (.int ((own_upd (own_upd (own_upd (own_upd (own_upd (own_upd (fun _ => (0 : Int32)) (0 : Int32) (-1 : Int32)) (1 : Int32) (-1 : Int32)) (2 : Int32) (-1 : Int32)) (0 : Int32) e2) (1 : Int32) e1) (2 : Int32) ss) (0 : Int32))), .val (.int ((own_upd (own_upd (own_upd (own_upd (own_upd (own_upd (fun _ => (0 : Int32)) (0 : Int32) (-1 : Int32)) (1 : Int32) (-1 : Int32)) (2 : Int32) (-1 : Int32)) (0 : Int32) e2) (1 : Int32) e1) (2 : Int32) ss) (1 : Int32))), .unset, .unset, .unset, .unset, .unset]) rfl ?_
        show Steps p.tables e below (T104.setTop (mkF m 195 #[.val (.int p1), .val (.int p2), .val (.int p3), .val (.int p4), .val (.int p5), .val (.int (3 : Int32)), .val (.int (0 : Int32)), .val (.int ss), .val (.int ll), .val (.int ss), .val (.int e1), .val (.int e2), .val (.ref b7), .val (.ref b83), .val (.int ((own_upd (own_upd (own_upd (own_upd (own_upd (own_upd (fun _ => (0 : Int32)) (0 : Int32) (-1 : Int32)) (1 : Int32) (-1 : Int32)) (2 : Int32) (-1 : Int32)) (0 : Int32) e2) (1 : Int32) e1) (2 : Int32) ss) (0 : Int32))), .val (.int ((own_upd (own_upd (own_upd (own_upd (own_upd (own_upd (fun _ => (0 : Int32)) (0 : Int32) (-1 : Int32)) (1 : Int32) (-1 : Int32)) (2 : Int32) (-1 : Int32)) (0 : Int32) e2) (1 : Int32) e1) (2 : Int32) ss) (1 : Int32))), .unset, .unset, .unset, .unset, .unset] [])) _
        refine XS.iload X104.here hx rfl (hb hby at_195) rfl ?_
        show Steps p.tables e below (T104.setTop (mkF m 197 #[.val (.int p1), .val (.int p2), .val (.int p3), .val (.int p4), .val (.int p5), .val (.int (3 : Int32)), .val (.int (0 : Int32)), .val (.int ss), .val (.int ll), .val (.int ss), .val (.int e1), .val (.int e2), .val (.ref b7), .val (.ref b83), .val (.int ((own_upd (own_upd (own_upd (own_upd (own_upd (own_upd (fun _ => (0 : Int32)) (0 : Int32) (-1 : Int32)) (1 : Int32) (-1 : Int32)) (2 : Int32) (-1 : Int32)) (0 : Int32) e2) (1 : Int32) e1) (2 : Int32) ss) (0 : Int32))), .val (.int ((own_upd (own_upd (own_upd (own_upd (own_upd (own_upd (fun _ => (0 : Int32)) (0 : Int32) (-1 : Int32)) (1 : Int32) (-1 : Int32)) (2 : Int32) (-1 : Int32)) (0 : Int32) e2) (1 : Int32) e1) (2 : Int32) ss) (1 : Int32))), .unset, .unset, .unset, .unset, .unset] [(.int (0 : Int32))])) _
        refine XS.iconst X104.here hx rfl (hb hby at_197) ?_
        show Steps p.tables e below (T104.setTop (mkF m 198 #[.val (.int p1), .val (.int p2), .val (.int p3), .val (.int p4), .val (.int p5), .val (.int (3 : Int32)), .val (.int (0 : Int32)), .val (.int ss), .val (.int ll), .val (.int ss), .val (.int e1), .val (.int e2), .val (.ref b7), .val (.ref b83), .val (.int ((own_upd (own_upd (own_upd (own_upd (own_upd (own_upd (fun _ => (0 : Int32)) (0 : Int32) (-1 : Int32)) (1 : Int32) (-1 : Int32)) (2 : Int32) (-1 : Int32)) (0 : Int32) e2) (1 : Int32) e1) (2 : Int32) ss) (0 : Int32))), .val (.int ((own_upd (own_upd (own_upd (own_upd (own_upd (own_upd (fun _ => (0 : Int32)) (0 : Int32) (-1 : Int32)) (1 : Int32) (-1 : Int32)) (2 : Int32) (-1 : Int32)) (0 : Int32) e2) (1 : Int32) e1) (2 : Int32) ss) (1 : Int32))), .unset, .unset, .unset, .unset, .unset] [(.int (1 : Int32)), (.int (0 : Int32))])) _
        refine XS.icmpNo X104.here hx rfl (hb hby at_198) rfl (XT.ii_gt_f hc198_111) ?_
        show Steps p.tables e below (T104.setTop (mkF m 201 #[.val (.int p1), .val (.int p2), .val (.int p3), .val (.int p4), .val (.int p5), .val (.int (3 : Int32)), .val (.int (0 : Int32)), .val (.int ss), .val (.int ll), .val (.int ss), .val (.int e1), .val (.int e2), .val (.ref b7), .val (.ref b83), .val (.int ((own_upd (own_upd (own_upd (own_upd (own_upd (own_upd (fun _ => (0 : Int32)) (0 : Int32) (-1 : Int32)) (1 : Int32) (-1 : Int32)) (2 : Int32) (-1 : Int32)) (0 : Int32) e2) (1 : Int32) e1) (2 : Int32) ss) (0 : Int32))), .val (.int ((own_upd (own_upd (own_upd (own_upd (own_upd (own_upd (fun _ => (0 : Int32)) (0 : Int32) (-1 : Int32)) (1 : Int32) (-1 : Int32)) (2 : Int32) (-1 : Int32)) (0 : Int32) e2) (1 : Int32) e1) (2 : Int32) ss) (1 : Int32))), .unset, .unset, .unset, .unset, .unset] [])) _
        refine XS.aload X104.here hx rfl (hb hby at_201) rfl rfl ?_
        show Steps p.tables e below (T104.setTop (mkF m 203 #[.val (.int p1), .val (.int p2), .val (.int p3), .val (.int p4), .val (.int p5), .val (.int (3 : Int32)), .val (.int (0 : Int32)), .val (.int ss), .val (.int ll), .val (.int ss), .val (.int e1), .val (.int e2), .val (.ref b7), .val (.ref b83), .val (.int ((own_upd (own_upd (own_upd (own_upd (own_upd (own_upd (fun _ => (0 : Int32)) (0 : Int32) (-1 : Int32)) (1 : Int32) (-1 : Int32)) (2 : Int32) (-1 : Int32)) (0 : Int32) e2) (1 : Int32) e1) (2 : Int32) ss) (0 : Int32))), .val (.int ((own_upd (own_upd (own_upd (own_upd (own_upd (own_upd (fun _ => (0 : Int32)) (0 : Int32) (-1 : Int32)) (1 : Int32) (-1 : Int32)) (2 : Int32) (-1 : Int32)) (0 : Int32) e2) (1 : Int32) e1) (2 : Int32) ss) (1 : Int32))), .unset, .unset, .unset, .unset, .unset] [(.ref b83)])) _
        refine XS.iconst X104.here hx rfl (hb hby at_203) ?_
        show Steps p.tables e below (T104.setTop (mkF m 204 #[.val (.int p1), .val (.int p2), .val (.int p3), .val (.int p4), .val (.int p5), .val (.int (3 : Int32)), .val (.int (0 : Int32)), .val (.int ss), .val (.int ll), .val (.int ss), .val (.int e1), .val (.int e2), .val (.ref b7), .val (.ref b83), .val (.int ((own_upd (own_upd (own_upd (own_upd (own_upd (own_upd (fun _ => (0 : Int32)) (0 : Int32) (-1 : Int32)) (1 : Int32) (-1 : Int32)) (2 : Int32) (-1 : Int32)) (0 : Int32) e2) (1 : Int32) e1) (2 : Int32) ss) (0 : Int32))), .val (.int ((own_upd (own_upd (own_upd (own_upd (own_upd (own_upd (fun _ => (0 : Int32)) (0 : Int32) (-1 : Int32)) (1 : Int32) (-1 : Int32)) (2 : Int32) (-1 : Int32)) (0 : Int32) e2) (1 : Int32) e1) (2 : Int32) ss) (1 : Int32))), .unset, .unset, .unset, .unset, .unset] [(.int (2 : Int32)), (.ref b83)])) _
        refine X104.iaload hx (j := (2 : Int32)) (v := (.int ((own_upd (own_upd (own_upd (own_upd (own_upd (own_upd (fun _ => (0 : Int32)) (0 : Int32) (-1 : Int32)) (1 : Int32) (-1 : Int32)) (2 : Int32) (-1 : Int32)) (0 : Int32) e2) (1 : Int32) e1) (2 : Int32) ss) (2 : Int32)))) (by rw [e104]; exact Ar112.1) (State.isArrayOf_alike hZ.alike Ar112.2.1) Ar112.2.2 hin112 (Ge112 _ (by decide) (by decide)) (g := (mkF m 204 #[.val (.int p1), .val (.int p2), .val (.int p3), .val (.int p4), .val (.int p5), .val (.int (3 : Int32)), .val (.int (0 : Int32)), .val (.int ss), .val (.int ll), .val (.int ss), .val (.int e1), .val (.int e2), .val (.ref b7), .val (.ref b83), .val (.int ((own_upd (own_upd (own_upd (own_upd (own_upd (own_upd (fun _ => (0 : Int32)) (0 : Int32) (-1 : Int32)) (1 : Int32) (-1 : Int32)) (2 : Int32) (-1 : Int32)) (0 : Int32) e2) (1 : Int32) e1) (2 : Int32) ss) (0 : Int32))), .val (.int ((own_upd (own_upd (own_upd (own_upd (own_upd (own_upd (fun _ => (0 : Int32)) (0 : Int32) (-1 : Int32)) (1 : Int32) (-1 : Int32)) (2 : Int32) (-1 : Int32)) (0 : Int32) e2) (1 : Int32) e1) (2 : Int32) ss) (1 : Int32))), .unset, .unset, .unset, .unset, .unset] [(.int (2 : Int32)), (.ref b83)])) rfl rfl (hb hby at_204) _ ?_
        show Steps p.tables e below (T104.setTop (mkF m 205 #[.val (.int p1), .val (.int p2), .val (.int p3), .val (.int p4), .val (.int p5), .val (.int (3 : Int32)), .val (.int (0 : Int32)), .val (.int ss), .val (.int ll), .val (.int ss), .val (.int e1), .val (.int e2), .val (.ref b7), .val (.ref b83), .val (.int ((own_upd (own_upd (own_upd (own_upd (own_upd (own_upd (fun _ => (0 : Int32)) (0 : Int32) (-1 : Int32)) (1 : Int32) (-1 : Int32)) (2 : Int32) (-1 : Int32)) (0 : Int32) e2) (1 : Int32) e1) (2 : Int32) ss) (0 : Int32))), .val (.int ((own_upd (own_upd (own_upd (own_upd (own_upd (own_upd (fun _ => (0 : Int32)) (0 : Int32) (-1 : Int32)) (1 : Int32) (-1 : Int32)) (2 : Int32) (-1 : Int32)) (0 : Int32) e2) (1 : Int32) e1) (2 : Int32) ss) (1 : Int32))), .unset, .unset, .unset, .unset, .unset] [(.int ((own_upd (own_upd (own_upd (own_upd (own_upd (own_upd (fun _ => (0 : Int32)) (0 : Int32) (-1 : Int32)) (1 : Int32) (-1 : Int32)) (2 : Int32) (-1 : Int32)) (0 : Int32) e2) (1 : Int32) e1) (2 : Int32) ss) (2 : Int32)))])) _
        refine XS.goto X104.here hx rfl (pc0 := 205) (pc' := 212) rfl (hb hby at_205) (by decide) (by decide) ?_
        show Steps p.tables e below (T104.setTop (mkF m 212 #[.val (.int p1), .val (.int p2), .val (.int p3), .val (.int p4), .val (.int p5), .val (.int (3 : Int32)), .val (.int (0 : Int32)), .val (.int ss), .val (.int ll), .val (.int ss), .val (.int e1), .val (.int e2), .val (.ref b7), .val (.ref b83), .val (.int ((own_upd (own_upd (own_upd (own_upd (own_upd (own_upd (fun _ => (0 : Int32)) (0 : Int32) (-1 : Int32)) (1 : Int32) (-1 : Int32)) (2 : Int32) (-1 : Int32)) (0 : Int32) e2) (1 : Int32) e1) (2 : Int32) ss) (0 : Int32))), .val (.int ((own_upd (own_upd (own_upd (own_upd (own_upd (own_upd (fun _ => (0 : Int32)) (0 : Int32) (-1 : Int32)) (1 : Int32) (-1 : Int32)) (2 : Int32) (-1 : Int32)) (0 : Int32) e2) (1 : Int32) e1) (2 : Int32) ss) (1 : Int32))), .unset, .unset, .unset, .unset, .unset] [(.int ((own_upd (own_upd (own_upd (own_upd (own_upd (own_upd (fun _ => (0 : Int32)) (0 : Int32) (-1 : Int32)) (1 : Int32) (-1 : Int32)) (2 : Int32) (-1 : Int32)) (0 : Int32) e2) (1 : Int32) e1) (2 : Int32) ss) (2 : Int32)))])) _
        refine XS.istore X104.here hx rfl (hb hby at_212) rfl (l' := #[.val (.int p1), .val (.int p2), .val (.int p3), .val (.int p4), .val (.int p5), .val (.int (3 : Int32)), .val (.int (0 : Int32)), .val (.int ss), .val (.int ll), .val (.int ss), .val (.int e1), .val (.int e2), .val (.ref b7), .val (.ref b83), .val (.int ((own_upd (own_upd (own_upd (own_upd (own_upd (own_upd (fun _ => (0 : Int32)) (0 : Int32) (-1 : Int32)) (1 : Int32) (-1 : Int32)) (2 : Int32) (-1 : Int32)) (0 : Int32) e2) (1 : Int32) e1) (2 : Int32) ss) (0 : Int32))), .val (.int ((own_upd (own_upd (own_upd (own_upd (own_upd (own_upd (fun _ => (0 : Int32)) (0 : Int32) (-1 : Int32)) (1 : Int32) (-1 : Int32)) (2 : Int32) (-1 : Int32)) (0 : Int32) e2) (1 : Int32) e1) (2 : Int32) ss) (1 : Int32))), .val (.int ((own_upd (own_upd (own_upd (own_upd (own_upd (own_upd (fun _ => (0 : Int32)) (0 : Int32) (-1 : Int32)) (1 : Int32) (-1 : Int32)) (2 : Int32) (-1 : Int32)) (0 : Int32) e2) (1 : Int32) e1) (2 : Int32) ss) (2 : Int32))), .unset, .unset, .unset, .unset]) rfl ?_
        exact kt)
      have hG : own_Good S81 ll (3 : Int32) ((own_upd (own_upd (own_upd (own_upd (own_upd (own_upd (fun _ => (0 : Int32)) (0 : Int32) (-1 : Int32)) (1 : Int32) (-1 : Int32)) (2 : Int32) (-1 : Int32)) (0 : Int32) e2) (1 : Int32) e1) (2 : Int32) ss) (0 : Int32)) ((own_upd (own_upd (own_upd (own_upd (own_upd (own_upd (fun _ => (0 : Int32)) (0 : Int32) (-1 : Int32)) (1 : Int32) (-1 : Int32)) (2 : Int32) (-1 : Int32)) (0 : Int32) e2) (1 : Int32) e1) (2 : Int32) ss) (1 : Int32)) ((own_upd (own_upd (own_upd (own_upd (own_upd (own_upd (fun _ => (0 : Int32)) (0 : Int32) (-1 : Int32)) (1 : Int32) (-1 : Int32)) (2 : Int32) (-1 : Int32)) (0 : Int32) e2) (1 : Int32) e1) (2 : Int32) ss) (2 : Int32)) := by subst h_e1 h_e2; rw [hS81, hS78, hS10]; exact own_good4 ss ll hs hl
      obtain ⟨Te, Ls, lc, Xe, Ne, ste⟩ := own_tail p1 p2 p3 p4 p5 (3 : Int32) (0 : Int32) ss ll ss e1 e2 b7 b83 ((own_upd (own_upd (own_upd (own_upd (own_upd (own_upd (fun _ => (0 : Int32)) (0 : Int32) (-1 : Int32)) (1 : Int32) (-1 : Int32)) (2 : Int32) (-1 : Int32)) (0 : Int32) e2) (1 : Int32) e1) (2 : Int32) ss) (0 : Int32)) ((own_upd (own_upd (own_upd (own_upd (own_upd (own_upd (fun _ => (0 : Int32)) (0 : Int32) (-1 : Int32)) (1 : Int32) (-1 : Int32)) (2 : Int32) (-1 : Int32)) (0 : Int32) e2) (1 : Int32) e1) (2 : Int32) ss) (1 : Int32)) ((own_upd (own_upd (own_upd (own_upd (own_upd (own_upd (fun _ => (0 : Int32)) (0 : Int32) (-1 : Int32)) (1 : Int32) (-1 : Int32)) (2 : Int32) (-1 : Int32)) (0 : Int32) e2) (1 : Int32) e1) (2 : Int32) ss) (2 : Int32)) aF8 aS8 aN8 aP8 S81 X104 hx hZ hw hby hml hown e104 N104 Zs104 c106 (own_two2 hl) hG
      obtain ⟨fs, hr, hrun, hended, hW, hsame⟩ := Xe.leave (v := some (.int (1 : Int32))) (fun h => by rw [Bd.returns] at h; cases h)
      refine ⟨_, _, P113 _ (ste _ ?_), hrun, hended, _, _, rfl, ?_, ⟨_, rfl⟩, hW, hsame.mono (by decide) (by decide)⟩
      · exact retN Xe hx (t := .boolean) Bd.returns (by simp) (hb hby at_454) hr
      · exact ⟨rfl, Ne⟩
    · skip
      obtain ⟨cl114, Ar114, Sz114, Nn114, Ge114⟩ := id Aw104
      have hin114 := inb_of Sz114 (j := (1 : Int32)) ⟨(by decide), (by decide)⟩
      have hc179_115 : ¬ ((1 : Int32) = (0 : Int32)) := by decide
      obtain ⟨cl116, Ar116, Sz116, Nn116, Ge116⟩ := id Aw104
      have hin116 := inb_of Sz116 (j := (0 : Int32)) ⟨(by decide), (by decide)⟩
      have hc198_117 : ¬ ((1 : Int32) < (1 : Int32)) := by simp
      obtain ⟨cl118, Ar118, Sz118, Nn118, Ge118⟩ := id Aw104
      have hin118 := inb_of Sz118 (j := (2 : Int32)) ⟨(by decide), (by decide)⟩
      have P119 : ∀ t, Steps p.tables e below (T104.setTop (mkF m 214 #[.val (.int p1), .val (.int p2), .val (.int p3), .val (.int p4), .val (.int p5), .val (.int (3 : Int32)), .val (.int (1 : Int32)), .val (.int ss), .val (.int ll), .val (.int ss), .val (.int e1), .val (.int e2), .val (.ref b7), .val (.ref b83), .val (.int ((own_upd (own_upd (own_upd (own_upd (own_upd (own_upd (fun _ => (0 : Int32)) (0 : Int32) (-1 : Int32)) (1 : Int32) (-1 : Int32)) (2 : Int32) (-1 : Int32)) (0 : Int32) e2) (1 : Int32) e1) (2 : Int32) ss) (1 : Int32))), .val (.int ((own_upd (own_upd (own_upd (own_upd (own_upd (own_upd (fun _ => (0 : Int32)) (0 : Int32) (-1 : Int32)) (1 : Int32) (-1 : Int32)) (2 : Int32) (-1 : Int32)) (0 : Int32) e2) (1 : Int32) e1) (2 : Int32) ss) (0 : Int32))), .val (.int ((own_upd (own_upd (own_upd (own_upd (own_upd (own_upd (fun _ => (0 : Int32)) (0 : Int32) (-1 : Int32)) (1 : Int32) (-1 : Int32)) (2 : Int32) (-1 : Int32)) (0 : Int32) e2) (1 : Int32) e1) (2 : Int32) ss) (2 : Int32))), .unset, .unset, .unset, .unset] [])) t → Steps p.tables e below (s₁.setTop (entryFrame m #[(.int p1), (.int p2), (.int p3), (.int p4), (.int p5)] maxLocals)) t := fun t kt => P107 t (by
        show Steps p.tables e below (T104.setTop (mkF m 170 #[.val (.int p1), .val (.int p2), .val (.int p3), .val (.int p4), .val (.int p5), .val (.int (3 : Int32)), .val (.int (1 : Int32)), .val (.int ss), .val (.int ll), .val (.int ss), .val (.int e1), .val (.int e2), .val (.ref b7), .val (.ref b83), .unset, .unset, .unset, .unset, .unset, .unset, .unset] [])) _
        refine XS.aload X104.here hx rfl (hb hby at_170) rfl rfl ?_
        show Steps p.tables e below (T104.setTop (mkF m 172 #[.val (.int p1), .val (.int p2), .val (.int p3), .val (.int p4), .val (.int p5), .val (.int (3 : Int32)), .val (.int (1 : Int32)), .val (.int ss), .val (.int ll), .val (.int ss), .val (.int e1), .val (.int e2), .val (.ref b7), .val (.ref b83), .unset, .unset, .unset, .unset, .unset, .unset, .unset] [(.ref b83)])) _
        refine XS.iload X104.here hx rfl (hb hby at_172) rfl ?_
        show Steps p.tables e below (T104.setTop (mkF m 174 #[.val (.int p1), .val (.int p2), .val (.int p3), .val (.int p4), .val (.int p5), .val (.int (3 : Int32)), .val (.int (1 : Int32)), .val (.int ss), .val (.int ll), .val (.int ss), .val (.int e1), .val (.int e2), .val (.ref b7), .val (.ref b83), .unset, .unset, .unset, .unset, .unset, .unset, .unset] [(.int (1 : Int32)), (.ref b83)])) _
        refine X104.iaload hx (j := (1 : Int32)) (v := (.int ((own_upd (own_upd (own_upd (own_upd (own_upd (own_upd (fun _ => (0 : Int32)) (0 : Int32) (-1 : Int32)) (1 : Int32) (-1 : Int32)) (2 : Int32) (-1 : Int32)) (0 : Int32) e2) (1 : Int32) e1) (2 : Int32) ss) (1 : Int32)))) (by rw [e104]; exact Ar114.1) (State.isArrayOf_alike hZ.alike Ar114.2.1) Ar114.2.2 hin114 (Ge114 _ (by decide) (by decide)) (g := (mkF m 174 #[.val (.int p1), .val (.int p2), .val (.int p3), .val (.int p4), .val (.int p5), .val (.int (3 : Int32)), .val (.int (1 : Int32)), .val (.int ss), .val (.int ll), .val (.int ss), .val (.int e1), .val (.int e2), .val (.ref b7), .val (.ref b83), .unset, .unset, .unset, .unset, .unset, .unset, .unset] [(.int (1 : Int32)), (.ref b83)])) rfl rfl (hb hby at_174) _ ?_
        show Steps p.tables e below (T104.setTop (mkF m 175 #[.val (.int p1), .val (.int p2), .val (.int p3), .val (.int p4), .val (.int p5), .val (.int (3 : Int32)), .val (.int (1 : Int32)), .val (.int ss), .val (.int ll), .val (.int ss), .val (.int e1), .val (.int e2), .val (.ref b7), .val (.ref b83), .unset, .unset, .unset, .unset, .unset, .unset, .unset] [(.int ((own_upd (own_upd (own_upd (own_upd (own_upd (own_upd (fun _ => (0 : Int32)) (0 : Int32) (-1 : Int32)) (1 : Int32) (-1 : Int32)) (2 : Int32) (-1 : Int32)) (0 : Int32) e2) (1 : Int32) e1) (2 : Int32) ss) (1 : Int32)))])) _
        refine XS.istore X104.here hx rfl (hb hby at_175) rfl (l' := #[.val (.int p1), .val (.int p2), .val (.int p3), .val (.int p4), .val (.int p5), .val (.int (3 : Int32)), .val (.int (1 : Int32)), .val (.int ss), .val (.int ll), .val (.int ss), .val (.int e1), .val (.int e2), .val (.ref b7), .val (.ref b83), .val (.int ((own_upd (own_upd (own_upd (own_upd (own_upd (own_upd (fun _ => (0 : Int32)) (0 : Int32) (-1 : Int32)) (1 : Int32) (-1 : Int32)) (2 : Int32) (-1 : Int32)) (0 : Int32) e2) (1 : Int32) e1) (2 : Int32) ss) (1 : Int32))), .unset, .unset, .unset, .unset, .unset, .unset]) rfl ?_
        show Steps p.tables e below (T104.setTop (mkF m 177 #[.val (.int p1), .val (.int p2), .val (.int p3), .val (.int p4), .val (.int p5), .val (.int (3 : Int32)), .val (.int (1 : Int32)), .val (.int ss), .val (.int ll), .val (.int ss), .val (.int e1), .val (.int e2), .val (.ref b7), .val (.ref b83), .val (.int ((own_upd (own_upd (own_upd (own_upd (own_upd (own_upd (fun _ => (0 : Int32)) (0 : Int32) (-1 : Int32)) (1 : Int32) (-1 : Int32)) (2 : Int32) (-1 : Int32)) (0 : Int32) e2) (1 : Int32) e1) (2 : Int32) ss) (1 : Int32))), .unset, .unset, .unset, .unset, .unset, .unset] [])) _
        refine XS.iload X104.here hx rfl (hb hby at_177) rfl ?_
        show Steps p.tables e below (T104.setTop (mkF m 179 #[.val (.int p1), .val (.int p2), .val (.int p3), .val (.int p4), .val (.int p5), .val (.int (3 : Int32)), .val (.int (1 : Int32)), .val (.int ss), .val (.int ll), .val (.int ss), .val (.int e1), .val (.int e2), .val (.ref b7), .val (.ref b83), .val (.int ((own_upd (own_upd (own_upd (own_upd (own_upd (own_upd (fun _ => (0 : Int32)) (0 : Int32) (-1 : Int32)) (1 : Int32) (-1 : Int32)) (2 : Int32) (-1 : Int32)) (0 : Int32) e2) (1 : Int32) e1) (2 : Int32) ss) (1 : Int32))), .unset, .unset, .unset, .unset, .unset, .unset] [(.int (1 : Int32))])) _
        refine XS.ifYes X104.here hx rfl (pc0 := 179) (pc' := 189) rfl (hb hby at_179) rfl (XT.i0_ne_t hc179_115) (by decide) (by decide) ?_
        show Steps p.tables e below (T104.setTop (mkF m 189 #[.val (.int p1), .val (.int p2), .val (.int p3), .val (.int p4), .val (.int p5), .val (.int (3 : Int32)), .val (.int (1 : Int32)), .val (.int ss), .val (.int ll), .val (.int ss), .val (.int e1), .val (.int e2), .val (.ref b7), .val (.ref b83), .val (.int ((own_upd (own_upd (own_upd (own_upd (own_upd (own_upd (fun _ => (0 : Int32)) (0 : Int32) (-1 : Int32)) (1 : Int32) (-1 : Int32)) (2 : Int32) (-1 : Int32)) (0 : Int32) e2) (1 : Int32) e1) (2 : Int32) ss) (1 : Int32))), .unset, .unset, .unset, .unset, .unset, .unset] [])) _
        refine XS.aload X104.here hx rfl (hb hby at_189) rfl rfl ?_
        show Steps p.tables e below (T104.setTop (mkF m 191 #[.val (.int p1), .val (.int p2), .val (.int p3), .val (.int p4), .val (.int p5), .val (.int (3 : Int32)), .val (.int (1 : Int32)), .val (.int ss), .val (.int ll), .val (.int ss), .val (.int e1), .val (.int e2), .val (.ref b7), .val (.ref b83), .val (.int ((own_upd (own_upd (own_upd (own_upd (own_upd (own_upd (fun _ => (0 : Int32)) (0 : Int32) (-1 : Int32)) (1 : Int32) (-1 : Int32)) (2 : Int32) (-1 : Int32)) (0 : Int32) e2) (1 : Int32) e1) (2 : Int32) ss) (1 : Int32))), .unset, .unset, .unset, .unset, .unset, .unset] [(.ref b83)])) _
        refine XS.iconst X104.here hx rfl (hb hby at_191) ?_
        show Steps p.tables e below (T104.setTop (mkF m 192 #[.val (.int p1), .val (.int p2), .val (.int p3), .val (.int p4), .val (.int p5), .val (.int (3 : Int32)), .val (.int (1 : Int32)), .val (.int ss), .val (.int ll), .val (.int ss), .val (.int e1), .val (.int e2), .val (.ref b7), .val (.ref b83), .val (.int ((own_upd (own_upd (own_upd (own_upd (own_upd (own_upd (fun _ => (0 : Int32)) (0 : Int32) (-1 : Int32)) (1 : Int32) (-1 : Int32)) (2 : Int32) (-1 : Int32)) (0 : Int32) e2) (1 : Int32) e1) (2 : Int32) ss) (1 : Int32))), .unset, .unset, .unset, .unset, .unset, .unset] [(.int (0 : Int32)), (.ref b83)])) _
        refine X104.iaload hx (j := (0 : Int32)) (v := (.int ((own_upd (own_upd (own_upd (own_upd (own_upd (own_upd (fun _ => (0 : Int32)) (0 : Int32) (-1 : Int32)) (1 : Int32) (-1 : Int32)) (2 : Int32) (-1 : Int32)) (0 : Int32) e2) (1 : Int32) e1) (2 : Int32) ss) (0 : Int32)))) (by rw [e104]; exact Ar116.1) (State.isArrayOf_alike hZ.alike Ar116.2.1) Ar116.2.2 hin116 (Ge116 _ (by decide) (by decide)) (g := (mkF m 192 #[.val (.int p1), .val (.int p2), .val (.int p3), .val (.int p4), .val (.int p5), .val (.int (3 : Int32)), .val (.int (1 : Int32)), .val (.int ss), .val (.int ll), .val (.int ss), .val (.int e1), .val (.int e2), .val (.ref b7), .val (.ref b83), .val (.int ((own_upd (own_upd (own_upd (own_upd (own_upd (own_upd (fun _ => (0 : Int32)) (0 : Int32) (-1 : Int32)) (1 : Int32) (-1 : Int32)) (2 : Int32) (-1 : Int32)) (0 : Int32) e2) (1 : Int32) e1) (2 : Int32) ss) (1 : Int32))), .unset, .unset, .unset, .unset, .unset, .unset] [(.int (0 : Int32)), (.ref b83)])) rfl rfl (hb hby at_192) _ ?_
        show Steps p.tables e below (T104.setTop (mkF m 193 #[.val (.int p1), .val (.int p2), .val (.int p3), .val (.int p4), .val (.int p5), .val (.int (3 : Int32)), .val (.int (1 : Int32)), .val (.int ss), .val (.int ll), .val (.int ss), .val (.int e1), .val (.int e2), .val (.ref b7), .val (.ref b83), .val (.int ((own_upd (own_upd (own_upd (own_upd (own_upd (own_upd (fun _ => (0 : Int32)) (0 : Int32) (-1 : Int32)) (1 : Int32) (-1 : Int32)) (2 : Int32) (-1 : Int32)) (0 : Int32) e2) (1 : Int32) e1) (2 : Int32) ss) (1 : Int32))), .unset, .unset, .unset, .unset, .unset, .unset] [(.int ((own_upd (own_upd (own_upd (own_upd (own_upd (own_upd (fun _ => (0 : Int32)) (0 : Int32) (-1 : Int32)) (1 : Int32) (-1 : Int32)) (2 : Int32) (-1 : Int32)) (0 : Int32) e2) (1 : Int32) e1) (2 : Int32) ss) (0 : Int32)))])) _
        refine XS.istore X104.here hx rfl (hb hby at_193) rfl (l' := #[.val (.int p1), .val (.int p2), .val (.int p3), .val (.int p4), .val (.int p5), .val (.int (3 : Int32)), .val (.int (1 : Int32)), .val (.int ss), .val (.int ll), .val (.int ss), .val (.int e1), .val (.int e2), .val (.ref b7), .val (.ref b83), .val (.int ((own_upd (own_upd (own_upd (own_upd (own_upd (own_upd (fun _ => (0 : Int32)) (0 : Int32) (-1 : Int32)) (1 : Int32) (-1 : Int32)) (2 : Int32) (-1 : Int32)) (0 : Int32) e2) (1 : Int32) e1) (2 : Int32) ss) (1 : Int32))), .val (.int ((own_upd (own_upd (own_upd (own_upd (own_upd (own_upd (fun _ => (0 : Int32)) (0 : Int32) (-1 : Int32)) (1 : Int32) (-1 : Int32)) (2 : Int32) (-1 : Int32)) (0 : Int32) e2) (1 : Int32) e1) (2 : Int32) ss) (0 : Int32))), .unset, .unset, .unset, .unset, .unset]) rfl ?_
        show Steps p.tables e below (T104.setTop (mkF m 195 #[.val (.int p1), .val (.int p2), .val (.int p3), .val (.int p4), .val (.int p5), .val (.int (3 : Int32)), .val (.int (1 : Int32)), .val (.int ss), .val (.int ll), .val (.int ss), .val (.int e1), .val (.int e2), .val (.ref b7), .val (.ref b83), .val (.int ((own_upd (own_upd (own_upd (own_upd (own_upd (own_upd (fun _ => (0 : Int32)) (0 : Int32) (-1 : Int32)) (1 : Int32) (-1 : Int32)) (2 : Int32) (-1 : Int32)) (0 : Int32) e2) (1 : Int32) e1) (2 : Int32) ss) (1 : Int32))), .val (.int ((own_upd (own_upd (own_upd (own_upd (own_upd (own_upd (fun _ => (0 : Int32)) (0 : Int32) (-1 : Int32)) (1 : Int32) (-1 : Int32)) (2 : Int32) (-1 : Int32)) (0 : Int32) e2) (1 : Int32) e1) (2 : Int32) ss) (0 : Int32))), .unset, .unset, .unset, .unset, .unset] [])) _
        refine XS.iload X104.here hx rfl (hb hby at_195) rfl ?_
        show Steps p.tables e below (T104.setTop (mkF m 197 #[.val (.int p1), .val (.int p2), .val (.int p3), .val (.int p4), .val (.int p5), .val (.int (3 : Int32)), .val (.int (1 : Int32)), .val (.int ss), .val (.int ll), .val (.int ss), .val (.int e1), .val (.int e2), .val (.ref b7), .val (.ref b83), .val (.int ((own_upd (own_upd (own_upd (own_upd (own_upd (own_upd (fun _ => (0 : Int32)) (0 : Int32) (-1 : Int32)) (1 : Int32) (-1 : Int32)) (2 : Int32) (-1 : Int32)) (0 : Int32) e2) (1 : Int32) e1) (2 : Int32) ss) (1 : Int32))), .val (.int ((own_upd (own_upd (own_upd (own_upd (own_upd (own_upd (fun _ => (0 : Int32)) (0 : Int32) (-1 : Int32)) (1 : Int32) (-1 : Int32)) (2 : Int32) (-1 : Int32)) (0 : Int32) e2) (1 : Int32) e1) (2 : Int32) ss) (0 : Int32))), .unset, .unset, .unset, .unset, .unset] [(.int (1 : Int32))])) _
        refine XS.iconst X104.here hx rfl (hb hby at_197) ?_
        show Steps p.tables e below (T104.setTop (mkF m 198 #[.val (.int p1), .val (.int p2), .val (.int p3), .val (.int p4), .val (.int p5), .val (.int (3 : Int32)), .val (.int (1 : Int32)), .val (.int ss), .val (.int ll), .val (.int ss), .val (.int e1), .val (.int e2), .val (.ref b7), .val (.ref b83), .val (.int ((own_upd (own_upd (own_upd (own_upd (own_upd (own_upd (fun _ => (0 : Int32)) (0 : Int32) (-1 : Int32)) (1 : Int32) (-1 : Int32)) (2 : Int32) (-1 : Int32)) (0 : Int32) e2) (1 : Int32) e1) (2 : Int32) ss) (1 : Int32))), .val (.int ((own_upd (own_upd (own_upd (own_upd (own_upd (own_upd (fun _ => (0 : Int32)) (0 : Int32) (-1 : Int32)) (1 : Int32) (-1 : Int32)) (2 : Int32) (-1 : Int32)) (0 : Int32) e2) (1 : Int32) e1) (2 : Int32) ss) (0 : Int32))), .unset, .unset, .unset, .unset, .unset] [(.int (1 : Int32)), (.int (1 : Int32))])) _
        refine XS.icmpNo X104.here hx rfl (hb hby at_198) rfl (XT.ii_gt_f hc198_117) ?_
        show Steps p.tables e below (T104.setTop (mkF m 201 #[.val (.int p1), .val (.int p2), .val (.int p3), .val (.int p4), .val (.int p5), .val (.int (3 : Int32)), .val (.int (1 : Int32)), .val (.int ss), .val (.int ll), .val (.int ss), .val (.int e1), .val (.int e2), .val (.ref b7), .val (.ref b83), .val (.int ((own_upd (own_upd (own_upd (own_upd (own_upd (own_upd (fun _ => (0 : Int32)) (0 : Int32) (-1 : Int32)) (1 : Int32) (-1 : Int32)) (2 : Int32) (-1 : Int32)) (0 : Int32) e2) (1 : Int32) e1) (2 : Int32) ss) (1 : Int32))), .val (.int ((own_upd (own_upd (own_upd (own_upd (own_upd (own_upd (fun _ => (0 : Int32)) (0 : Int32) (-1 : Int32)) (1 : Int32) (-1 : Int32)) (2 : Int32) (-1 : Int32)) (0 : Int32) e2) (1 : Int32) e1) (2 : Int32) ss) (0 : Int32))), .unset, .unset, .unset, .unset, .unset] [])) _
        refine XS.aload X104.here hx rfl (hb hby at_201) rfl rfl ?_
        show Steps p.tables e below (T104.setTop (mkF m 203 #[.val (.int p1), .val (.int p2), .val (.int p3), .val (.int p4), .val (.int p5), .val (.int (3 : Int32)), .val (.int (1 : Int32)), .val (.int ss), .val (.int ll), .val (.int ss), .val (.int e1), .val (.int e2), .val (.ref b7), .val (.ref b83), .val (.int ((own_upd (own_upd (own_upd (own_upd (own_upd (own_upd (fun _ => (0 : Int32)) (0 : Int32) (-1 : Int32)) (1 : Int32) (-1 : Int32)) (2 : Int32) (-1 : Int32)) (0 : Int32) e2) (1 : Int32) e1) (2 : Int32) ss) (1 : Int32))), .val (.int ((own_upd (own_upd (own_upd (own_upd (own_upd (own_upd (fun _ => (0 : Int32)) (0 : Int32) (-1 : Int32)) (1 : Int32) (-1 : Int32)) (2 : Int32) (-1 : Int32)) (0 : Int32) e2) (1 : Int32) e1) (2 : Int32) ss) (0 : Int32))), .unset, .unset, .unset, .unset, .unset] [(.ref b83)])) _
        refine XS.iconst X104.here hx rfl (hb hby at_203) ?_
        show Steps p.tables e below (T104.setTop (mkF m 204 #[.val (.int p1), .val (.int p2), .val (.int p3), .val (.int p4), .val (.int p5), .val (.int (3 : Int32)), .val (.int (1 : Int32)), .val (.int ss), .val (.int ll), .val (.int ss), .val (.int e1), .val (.int e2), .val (.ref b7), .val (.ref b83), .val (.int ((own_upd (own_upd (own_upd (own_upd (own_upd (own_upd (fun _ => (0 : Int32)) (0 : Int32) (-1 : Int32)) (1 : Int32) (-1 : Int32)) (2 : Int32) (-1 : Int32)) (0 : Int32) e2) (1 : Int32) e1) (2 : Int32) ss) (1 : Int32))), .val (.int ((own_upd (own_upd (own_upd (own_upd (own_upd (own_upd (fun _ => (0 : Int32)) (0 : Int32) (-1 : Int32)) (1 : Int32) (-1 : Int32)) (2 : Int32) (-1 : Int32)) (0 : Int32) e2) (1 : Int32) e1) (2 : Int32) ss) (0 : Int32))), .unset, .unset, .unset, .unset, .unset] [(.int (2 : Int32)), (.ref b83)])) _
        refine X104.iaload hx (j := (2 : Int32)) (v := (.int ((own_upd (own_upd (own_upd (own_upd (own_upd (own_upd (fun _ => (0 : Int32)) (0 : Int32) (-1 : Int32)) (1 : Int32) (-1 : Int32)) (2 : Int32) (-1 : Int32)) (0 : Int32) e2) (1 : Int32) e1) (2 : Int32) ss) (2 : Int32)))) (by rw [e104]; exact Ar118.1) (State.isArrayOf_alike hZ.alike Ar118.2.1) Ar118.2.2 hin118 (Ge118 _ (by decide) (by decide)) (g := (mkF m 204 #[.val (.int p1), .val (.int p2), .val (.int p3), .val (.int p4), .val (.int p5), .val (.int (3 : Int32)), .val (.int (1 : Int32)), .val (.int ss), .val (.int ll), .val (.int ss), .val (.int e1), .val (.int e2), .val (.ref b7), .val (.ref b83), .val (.int ((own_upd (own_upd (own_upd (own_upd (own_upd (own_upd (fun _ => (0 : Int32)) (0 : Int32) (-1 : Int32)) (1 : Int32) (-1 : Int32)) (2 : Int32) (-1 : Int32)) (0 : Int32) e2) (1 : Int32) e1) (2 : Int32) ss) (1 : Int32))), .val (.int ((own_upd (own_upd (own_upd (own_upd (own_upd (own_upd (fun _ => (0 : Int32)) (0 : Int32) (-1 : Int32)) (1 : Int32) (-1 : Int32)) (2 : Int32) (-1 : Int32)) (0 : Int32) e2) (1 : Int32) e1) (2 : Int32) ss) (0 : Int32))), .unset, .unset, .unset, .unset, .unset] [(.int (2 : Int32)), (.ref b83)])) rfl rfl (hb hby at_204) _ ?_
        show Steps p.tables e below (T104.setTop (mkF m 205 #[.val (.int p1), .val (.int p2), .val (.int p3), .val (.int p4), .val (.int p5), .val (.int (3 : Int32)), .val (.int (1 : Int32)), .val (.int ss), .val (.int ll), .val (.int ss), .val (.int e1), .val (.int e2), .val (.ref b7), .val (.ref b83), .val (.int ((own_upd (own_upd (own_upd (own_upd (own_upd (own_upd (fun _ => (0 : Int32)) (0 : Int32) (-1 : Int32)) (1 : Int32) (-1 : Int32)) (2 : Int32) (-1 : Int32)) (0 : Int32) e2) (1 : Int32) e1) (2 : Int32) ss) (1 : Int32))), .val (.int ((own_upd (own_upd (own_upd (own_upd (own_upd (own_upd (fun _ => (0 : Int32)) (0 : Int32) (-1 : Int32)) (1 : Int32) (-1 : Int32)) (2 : Int32) (-1 : Int32)) (0 : Int32) e2) (1 : Int32) e1) (2 : Int32) ss) (0 : Int32))), .unset, .unset, .unset, .unset, .unset] [(.int ((own_upd (own_upd (own_upd (own_upd (own_upd (own_upd (fun _ => (0 : Int32)) (0 : Int32) (-1 : Int32)) (1 : Int32) (-1 : Int32)) (2 : Int32) (-1 : Int32)) (0 : Int32) e2) (1 : Int32) e1) (2 : Int32) ss) (2 : Int32)))])) _
        refine XS.goto X104.here hx rfl (pc0 := 205) (pc' := 212) rfl (hb hby at_205) (by decide) (by decide) ?_
        show Steps p.tables e below (T104.setTop (mkF m 212 #[.val (.int p1), .val (.int p2), .val (.int p3), .val (.int p4), .val (.int p5), .val (.int (3 : Int32)), .val (.int (1 : Int32)), .val (.int ss), .val (.int ll), .val (.int ss), .val (.int e1), .val (.int e2), .val (.ref b7), .val (.ref b83), .val (.int ((own_upd (own_upd (own_upd (own_upd (own_upd (own_upd (fun _ => (0 : Int32)) (0 : Int32) (-1 : Int32)) (1 : Int32) (-1 : Int32)) (2 : Int32) (-1 : Int32)) (0 : Int32) e2) (1 : Int32) e1) (2 : Int32) ss) (1 : Int32))), .val (.int ((own_upd (own_upd (own_upd (own_upd (own_upd (own_upd (fun _ => (0 : Int32)) (0 : Int32) (-1 : Int32)) (1 : Int32) (-1 : Int32)) (2 : Int32) (-1 : Int32)) (0 : Int32) e2) (1 : Int32) e1) (2 : Int32) ss) (0 : Int32))), .unset, .unset, .unset, .unset, .unset] [(.int ((own_upd (own_upd (own_upd (own_upd (own_upd (own_upd (fun _ => (0 : Int32)) (0 : Int32) (-1 : Int32)) (1 : Int32) (-1 : Int32)) (2 : Int32) (-1 : Int32)) (0 : Int32) e2) (1 : Int32) e1) (2 : Int32) ss) (2 : Int32)))])) _
        refine XS.istore X104.here hx rfl (hb hby at_212) rfl (l' := #[.val (.int p1), .val (.int p2), .val (.int p3), .val (.int p4), .val (.int p5), .val (.int (3 : Int32)), .val (.int (1 : Int32)), .val (.int ss), .val (.int ll), .val (.int ss), .val (.int e1), .val (.int e2), .val (.ref b7), .val (.ref b83), .val (.int ((own_upd (own_upd (own_upd (own_upd (own_upd (own_upd (fun _ => (0 : Int32)) (0 : Int32) (-1 : Int32)) (1 : Int32) (-1 : Int32)) (2 : Int32) (-1 : Int32)) (0 : Int32) e2) (1 : Int32) e1) (2 : Int32) ss) (1 : Int32))), .val (.int ((own_upd (own_upd (own_upd (own_upd (own_upd (own_upd (fun _ => (0 : Int32)) (0 : Int32) (-1 : Int32)) (1 : Int32) (-1 : Int32)) (2 : Int32) (-1 : Int32)) (0 : Int32) e2) (1 : Int32) e1) (2 : Int32) ss) (0 : Int32))), .val (.int ((own_upd (own_upd (own_upd (own_upd (own_upd (own_upd (fun _ => (0 : Int32)) (0 : Int32) (-1 : Int32)) (1 : Int32) (-1 : Int32)) (2 : Int32) (-1 : Int32)) (0 : Int32) e2) (1 : Int32) e1) (2 : Int32) ss) (2 : Int32))), .unset, .unset, .unset, .unset]) rfl ?_
        exact kt)
      have hG : own_Good S81 ll (3 : Int32) ((own_upd (own_upd (own_upd (own_upd (own_upd (own_upd (fun _ => (0 : Int32)) (0 : Int32) (-1 : Int32)) (1 : Int32) (-1 : Int32)) (2 : Int32) (-1 : Int32)) (0 : Int32) e2) (1 : Int32) e1) (2 : Int32) ss) (1 : Int32)) ((own_upd (own_upd (own_upd (own_upd (own_upd (own_upd (fun _ => (0 : Int32)) (0 : Int32) (-1 : Int32)) (1 : Int32) (-1 : Int32)) (2 : Int32) (-1 : Int32)) (0 : Int32) e2) (1 : Int32) e1) (2 : Int32) ss) (0 : Int32)) ((own_upd (own_upd (own_upd (own_upd (own_upd (own_upd (fun _ => (0 : Int32)) (0 : Int32) (-1 : Int32)) (1 : Int32) (-1 : Int32)) (2 : Int32) (-1 : Int32)) (0 : Int32) e2) (1 : Int32) e1) (2 : Int32) ss) (2 : Int32)) := by subst h_e1 h_e2; rw [hS81, hS78, hS10]; exact own_good5 ss ll hs hl
      obtain ⟨Te, Ls, lc, Xe, Ne, ste⟩ := own_tail p1 p2 p3 p4 p5 (3 : Int32) (1 : Int32) ss ll ss e1 e2 b7 b83 ((own_upd (own_upd (own_upd (own_upd (own_upd (own_upd (fun _ => (0 : Int32)) (0 : Int32) (-1 : Int32)) (1 : Int32) (-1 : Int32)) (2 : Int32) (-1 : Int32)) (0 : Int32) e2) (1 : Int32) e1) (2 : Int32) ss) (1 : Int32)) ((own_upd (own_upd (own_upd (own_upd (own_upd (own_upd (fun _ => (0 : Int32)) (0 : Int32) (-1 : Int32)) (1 : Int32) (-1 : Int32)) (2 : Int32) (-1 : Int32)) (0 : Int32) e2) (1 : Int32) e1) (2 : Int32) ss) (0 : Int32)) ((own_upd (own_upd (own_upd (own_upd (own_upd (own_upd (fun _ => (0 : Int32)) (0 : Int32) (-1 : Int32)) (1 : Int32) (-1 : Int32)) (2 : Int32) (-1 : Int32)) (0 : Int32) e2) (1 : Int32) e1) (2 : Int32) ss) (2 : Int32)) aF8 aS8 aN8 aP8 S81 X104 hx hZ hw hby hml hown e104 N104 Zs104 c106 (own_two2 hl) hG
      obtain ⟨fs, hr, hrun, hended, hW, hsame⟩ := Xe.leave (v := some (.int (1 : Int32))) (fun h => by rw [Bd.returns] at h; cases h)
      refine ⟨_, _, P119 _ (ste _ ?_), hrun, hended, _, _, rfl, ?_, ⟨_, rfl⟩, hW, hsame.mono (by decide) (by decide)⟩
      · exact retN Xe hx (t := .boolean) Bd.returns (by simp) (hb hby at_454) hr
      · exact ⟨rfl, Ne⟩
    · skip
      obtain ⟨cl120, Ar120, Sz120, Nn120, Ge120⟩ := id Aw104
      have hin120 := inb_of Sz120 (j := (2 : Int32)) ⟨(by decide), (by decide)⟩
      have hc179_121 : ¬ ((2 : Int32) = (0 : Int32)) := by decide
      obtain ⟨cl122, Ar122, Sz122, Nn122, Ge122⟩ := id Aw104
      have hin122 := inb_of Sz122 (j := (0 : Int32)) ⟨(by decide), (by decide)⟩
      have hc198_123 : (1 : Int32) < (2 : Int32) := by decide
      obtain ⟨cl124, Ar124, Sz124, Nn124, Ge124⟩ := id Aw104
      have hin124 := inb_of Sz124 (j := (1 : Int32)) ⟨(by decide), (by decide)⟩
      have P125 : ∀ t, Steps p.tables e below (T104.setTop (mkF m 214 #[.val (.int p1), .val (.int p2), .val (.int p3), .val (.int p4), .val (.int p5), .val (.int (3 : Int32)), .val (.int (2 : Int32)), .val (.int ss), .val (.int ll), .val (.int ss), .val (.int e1), .val (.int e2), .val (.ref b7), .val (.ref b83), .val (.int ((own_upd (own_upd (own_upd (own_upd (own_upd (own_upd (fun _ => (0 : Int32)) (0 : Int32) (-1 : Int32)) (1 : Int32) (-1 : Int32)) (2 : Int32) (-1 : Int32)) (0 : Int32) e2) (1 : Int32) e1) (2 : Int32) ss) (2 : Int32))), .val (.int ((own_upd (own_upd (own_upd (own_upd (own_upd (own_upd (fun _ => (0 : Int32)) (0 : Int32) (-1 : Int32)) (1 : Int32) (-1 : Int32)) (2 : Int32) (-1 : Int32)) (0 : Int32) e2) (1 : Int32) e1) (2 : Int32) ss) (0 : Int32))), .val (.int ((own_upd (own_upd (own_upd (own_upd (own_upd (own_upd (fun _ => (0 : Int32)) (0 : Int32) (-1 : Int32)) (1 : Int32) (-1 : Int32)) (2 : Int32) (-1 : Int32)) (0 : Int32) e2) (1 : Int32) e1) (2 : Int32) ss) (1 : Int32))), .unset, .unset, .unset, .unset] [])) t → Steps p.tables e below (s₁.setTop (entryFrame m #[(.int p1), (.int p2), (.int p3), (.int p4), (.int p5)] maxLocals)) t := fun t kt => P107 t (by
        show Steps p.tables e below (T104.setTop (mkF m 170 #[.val (.int p1), .val (.int p2), .val (.int p3), .val (.int p4), .val (.int p5), .val (.int (3 : Int32)), .val (.int (2 : Int32)), .val (.int ss), .val (.int ll), .val (.int ss), .val (.int e1), .val (.int e2), .val (.ref b7), .val (.ref b83), .unset, .unset, .unset, .unset, .unset, .unset, .unset] [])) _
        refine XS.aload X104.here hx rfl (hb hby at_170) rfl rfl ?_
        show Steps p.tables e below (T104.setTop (mkF m 172 #[.val (.int p1), .val (.int p2), .val (.int p3), .val (.int p4), .val (.int p5), .val (.int (3 : Int32)), .val (.int (2 : Int32)), .val (.int ss), .val (.int ll), .val (.int ss), .val (.int e1), .val (.int e2), .val (.ref b7), .val (.ref b83), .unset, .unset, .unset, .unset, .unset, .unset, .unset] [(.ref b83)])) _
        refine XS.iload X104.here hx rfl (hb hby at_172) rfl ?_
        show Steps p.tables e below (T104.setTop (mkF m 174 #[.val (.int p1), .val (.int p2), .val (.int p3), .val (.int p4), .val (.int p5), .val (.int (3 : Int32)), .val (.int (2 : Int32)), .val (.int ss), .val (.int ll), .val (.int ss), .val (.int e1), .val (.int e2), .val (.ref b7), .val (.ref b83), .unset, .unset, .unset, .unset, .unset, .unset, .unset] [(.int (2 : Int32)), (.ref b83)])) _
        refine X104.iaload hx (j := (2 : Int32)) (v := (.int ((own_upd (own_upd (own_upd (own_upd (own_upd (own_upd (fun _ => (0 : Int32)) (0 : Int32) (-1 : Int32)) (1 : Int32) (-1 : Int32)) (2 : Int32) (-1 : Int32)) (0 : Int32) e2) (1 : Int32) e1) (2 : Int32) ss) (2 : Int32)))) (by rw [e104]; exact Ar120.1) (State.isArrayOf_alike hZ.alike Ar120.2.1) Ar120.2.2 hin120 (Ge120 _ (by decide) (by decide)) (g := (mkF m 174 #[.val (.int p1), .val (.int p2), .val (.int p3), .val (.int p4), .val (.int p5), .val (.int (3 : Int32)), .val (.int (2 : Int32)), .val (.int ss), .val (.int ll), .val (.int ss), .val (.int e1), .val (.int e2), .val (.ref b7), .val (.ref b83), .unset, .unset, .unset, .unset, .unset, .unset, .unset] [(.int (2 : Int32)), (.ref b83)])) rfl rfl (hb hby at_174) _ ?_
        show Steps p.tables e below (T104.setTop (mkF m 175 #[.val (.int p1), .val (.int p2), .val (.int p3), .val (.int p4), .val (.int p5), .val (.int (3 : Int32)), .val (.int (2 : Int32)), .val (.int ss), .val (.int ll), .val (.int ss), .val (.int e1), .val (.int e2), .val (.ref b7), .val (.ref b83), .unset, .unset, .unset, .unset, .unset, .unset, .unset] [(.int ((own_upd (own_upd (own_upd (own_upd (own_upd (own_upd (fun _ => (0 : Int32)) (0 : Int32) (-1 : Int32)) (1 : Int32) (-1 : Int32)) (2 : Int32) (-1 : Int32)) (0 : Int32) e2) (1 : Int32) e1) (2 : Int32) ss) (2 : Int32)))])) _
        refine XS.istore X104.here hx rfl (hb hby at_175) rfl (l' := #[.val (.int p1), .val (.int p2), .val (.int p3), .val (.int p4), .val (.int p5), .val (.int (3 : Int32)), .val (.int (2 : Int32)), .val (.int ss), .val (.int ll), .val (.int ss), .val (.int e1), .val (.int e2), .val (.ref b7), .val (.ref b83), .val (.int ((own_upd (own_upd (own_upd (own_upd (own_upd (own_upd (fun _ => (0 : Int32)) (0 : Int32) (-1 : Int32)) (1 : Int32) (-1 : Int32)) (2 : Int32) (-1 : Int32)) (0 : Int32) e2) (1 : Int32) e1) (2 : Int32) ss) (2 : Int32))), .unset, .unset, .unset, .unset, .unset, .unset]) rfl ?_
        show Steps p.tables e below (T104.setTop (mkF m 177 #[.val (.int p1), .val (.int p2), .val (.int p3), .val (.int p4), .val (.int p5), .val (.int (3 : Int32)), .val (.int (2 : Int32)), .val (.int ss), .val (.int ll), .val (.int ss), .val (.int e1), .val (.int e2), .val (.ref b7), .val (.ref b83), .val (.int ((own_upd (own_upd (own_upd (own_upd (own_upd (own_upd (fun _ => (0 : Int32)) (0 : Int32) (-1 : Int32)) (1 : Int32) (-1 : Int32)) (2 : Int32) (-1 : Int32)) (0 : Int32) e2) (1 : Int32) e1) (2 : Int32) ss) (2 : Int32))), .unset, .unset, .unset, .unset, .unset, .unset] [])) _
        refine XS.iload X104.here hx rfl (hb hby at_177) rfl ?_
        show Steps p.tables e below (T104.setTop (mkF m 179 #[.val (.int p1), .val (.int p2), .val (.int p3), .val (.int p4), .val (.int p5), .val (.int (3 : Int32)), .val (.int (2 : Int32)), .val (.int ss), .val (.int ll), .val (.int ss), .val (.int e1), .val (.int e2), .val (.ref b7), .val (.ref b83), .val (.int ((own_upd (own_upd (own_upd (own_upd (own_upd (own_upd (fun _ => (0 : Int32)) (0 : Int32) (-1 : Int32)) (1 : Int32) (-1 : Int32)) (2 : Int32) (-1 : Int32)) (0 : Int32) e2) (1 : Int32) e1) (2 : Int32) ss) (2 : Int32))), .unset, .unset, .unset, .unset, .unset, .unset] [(.int (2 : Int32))])) _
        refine XS.ifYes X104.here hx rfl (pc0 := 179) (pc' := 189) rfl (hb hby at_179) rfl (XT.i0_ne_t hc179_121) (by decide) (by decide) ?_
        show Steps p.tables e below (T104.setTop (mkF m 189 #[.val (.int p1), .val (.int p2), .val (.int p3), .val (.int p4), .val (.int p5), .val (.int (3 : Int32)), .val (.int (2 : Int32)), .val (.int ss), .val (.int ll), .val (.int ss), .val (.int e1), .val (.int e2), .val (.ref b7), .val (.ref b83), .val (.int ((own_upd (own_upd (own_upd (own_upd (own_upd (own_upd (fun _ => (0 : Int32)) (0 : Int32) (-1 : Int32)) (1 : Int32) (-1 : Int32)) (2 : Int32) (-1 : Int32)) (0 : Int32) e2) (1 : Int32) e1) (2 : Int32) ss) (2 : Int32))), .unset, .unset, .unset, .unset, .unset, .unset] [])) _
        refine XS.aload X104.here hx rfl (hb hby at_189) rfl rfl ?_
        show Steps p.tables e below (T104.setTop (mkF m 191 #[.val (.int p1), .val (.int p2), .val (.int p3), .val (.int p4), .val (.int p5), .val (.int (3 : Int32)), .val (.int (2 : Int32)), .val (.int ss), .val (.int ll), .val (.int ss), .val (.int e1), .val (.int e2), .val (.ref b7), .val (.ref b83), .val (.int ((own_upd (own_upd (own_upd (own_upd (own_upd (own_upd (fun _ => (0 : Int32)) (0 : Int32) (-1 : Int32)) (1 : Int32) (-1 : Int32)) (2 : Int32) (-1 : Int32)) (0 : Int32) e2) (1 : Int32) e1) (2 : Int32) ss) (2 : Int32))), .unset, .unset, .unset, .unset, .unset, .unset] [(.ref b83)])) _
        refine XS.iconst X104.here hx rfl (hb hby at_191) ?_
        show Steps p.tables e below (T104.setTop (mkF m 192 #[.val (.int p1), .val (.int p2), .val (.int p3), .val (.int p4), .val (.int p5), .val (.int (3 : Int32)), .val (.int (2 : Int32)), .val (.int ss), .val (.int ll), .val (.int ss), .val (.int e1), .val (.int e2), .val (.ref b7), .val (.ref b83), .val (.int ((own_upd (own_upd (own_upd (own_upd (own_upd (own_upd (fun _ => (0 : Int32)) (0 : Int32) (-1 : Int32)) (1 : Int32) (-1 : Int32)) (2 : Int32) (-1 : Int32)) (0 : Int32) e2) (1 : Int32) e1) (2 : Int32) ss) (2 : Int32))), .unset, .unset, .unset, .unset, .unset, .unset] [(.int (0 : Int32)), (.ref b83)])) _
        refine X104.iaload hx (j := (0 : Int32)) (v := (.int ((own_upd (own_upd (own_upd (own_upd (own_upd (own_upd (fun _ => (0 : Int32)) (0 : Int32) (-1 : Int32)) (1 : Int32) (-1 : Int32)) (2 : Int32) (-1 : Int32)) (0 : Int32) e2) (1 : Int32) e1) (2 : Int32) ss) (0 : Int32)))) (by rw [e104]; exact Ar122.1) (State.isArrayOf_alike hZ.alike Ar122.2.1) Ar122.2.2 hin122 (Ge122 _ (by decide) (by decide)) (g := (mkF m 192 #[.val (.int p1), .val (.int p2), .val (.int p3), .val (.int p4), .val (.int p5), .val (.int (3 : Int32)), .val (.int (2 : Int32)), .val (.int ss), .val (.int ll), .val (.int ss), .val (.int e1), .val (.int e2), .val (.ref b7), .val (.ref b83), .val (.int ((own_upd (own_upd (own_upd (own_upd (own_upd (own_upd (fun _ => (0 : Int32)) (0 : Int32) (-1 : Int32)) (1 : Int32) (-1 : Int32)) (2 : Int32) (-1 : Int32)) (0 : Int32) e2) (1 : Int32) e1) (2 : Int32) ss) (2 : Int32))), .unset, .unset, .unset, .unset, .unset, .unset] [(.int (0 : Int32)), (.ref b83)])) rfl rfl (hb hby at_192) _ ?_
        show Steps p.tables e below (T104.setTop (mkF m 193 #[.val (.int p1), .val (.int p2), .val (.int p3), .val (.int p4), .val (.int p5), .val (.int (3 : Int32)), .val (.int (2 : Int32)), .val (.int ss), .val (.int ll), .val (.int ss), .val (.int e1), .val (.int e2), .val (.ref b7), .val (.ref b83), .val (.int ((own_upd (own_upd (own_upd (own_upd (own_upd (own_upd (fun _ => (0 : Int32)) (0 : Int32) (-1 : Int32)) (1 : Int32) (-1 : Int32)) (2 : Int32) (-1 : Int32)) (0 : Int32) e2) (1 : Int32) e1) (2 : Int32) ss) (2 : Int32))), .unset, .unset, .unset, .unset, .unset, .unset] [(.int ((own_upd (own_upd (own_upd (own_upd (own_upd (own_upd (fun _ => (0 : Int32)) (0 : Int32) (-1 : Int32)) (1 : Int32) (-1 : Int32)) (2 : Int32) (-1 : Int32)) (0 : Int32) e2) (1 : Int32) e1) (2 : Int32) ss) (0 : Int32)))])) _
        refine XS.istore X104.here hx rfl (hb hby at_193) rfl (l' := #[.val (.int p1), .val (.int p2), .val (.int p3), .val (.int p4), .val (.int p5), .val (.int (3 : Int32)), .val (.int (2 : Int32)), .val (.int ss), .val (.int ll), .val (.int ss), .val (.int e1), .val (.int e2), .val (.ref b7), .val (.ref b83), .val (.int ((own_upd (own_upd (own_upd (own_upd (own_upd (own_upd (fun _ => (0 : Int32)) (0 : Int32) (-1 : Int32)) (1 : Int32) (-1 : Int32)) (2 : Int32) (-1 : Int32)) (0 : Int32) e2) (1 : Int32) e1) (2 : Int32) ss) (2 : Int32))), .val (.int ((own_upd (own_upd (own_upd (own_upd (own_upd (own_upd (fun _ => (0 : Int32)) (0 : Int32) (-1 : Int32)) (1 : Int32) (-1 : Int32)) (2 : Int32) (-1 : Int32)) (0 : Int32) e2) (1 : Int32) e1) (2 : Int32) ss) (0 : Int32))), .unset, .unset, .unset, .unset, .unset]) rfl ?_
        show Steps p.tables e below (T104.setTop (mkF m 195 #[.val (.int p1), .val (.int p2), .val (.int p3), .val (.int p4), .val (.int p5), .val (.int (3 : Int32)), .val (.int (2 : Int32)), .val (.int ss), .val (.int ll), .val (.int ss), .val (.int e1), .val (.int e2), .val (.ref b7), .val (.ref b83), .val (.int ((own_upd (own_upd (own_upd (own_upd (own_upd (own_upd (fun _ => (0 : Int32)) (0 : Int32) (-1 : Int32)) (1 : Int32) (-1 : Int32)) (2 : Int32) (-1 : Int32)) (0 : Int32) e2) (1 : Int32) e1) (2 : Int32) ss) (2 : Int32))), .val (.int ((own_upd (own_upd (own_upd (own_upd (own_upd (own_upd (fun _ => (0 : Int32)) (0 : Int32) (-1 : Int32)) (1 : Int32) (-1 : Int32)) (2 : Int32) (-1 : Int32)) (0 : Int32) e2) (1 : Int32) e1) (2 : Int32) ss) (0 : Int32))), .unset, .unset, .unset, .unset, .unset] [])) _
        refine XS.iload X104.here hx rfl (hb hby at_195) rfl ?_
        show Steps p.tables e below (T104.setTop (mkF m 197 #[.val (.int p1), .val (.int p2), .val (.int p3), .val (.int p4), .val (.int p5), .val (.int (3 : Int32)), .val (.int (2 : Int32)), .val (.int ss), .val (.int ll), .val (.int ss), .val (.int e1), .val (.int e2), .val (.ref b7), .val (.ref b83), .val (.int ((own_upd (own_upd (own_upd (own_upd (own_upd (own_upd (fun _ => (0 : Int32)) (0 : Int32) (-1 : Int32)) (1 : Int32) (-1 : Int32)) (2 : Int32) (-1 : Int32)) (0 : Int32) e2) (1 : Int32) e1) (2 : Int32) ss) (2 : Int32))), .val (.int ((own_upd (own_upd (own_upd (own_upd (own_upd (own_upd (fun _ => (0 : Int32)) (0 : Int32) (-1 : Int32)) (1 : Int32) (-1 : Int32)) (2 : Int32) (-1 : Int32)) (0 : Int32) e2) (1 : Int32) e1) (2 : Int32) ss) (0 : Int32))), .unset, .unset, .unset, .unset, .unset] [(.int (2 : Int32))])) _
        refine XS.iconst X104.here hx rfl (hb hby at_197) ?_
        show Steps p.tables e below (T104.setTop (mkF m 198 #[.val (.int p1), .val (.int p2), .val (.int p3), .val (.int p4), .val (.int p5), .val (.int (3 : Int32)), .val (.int (2 : Int32)), .val (.int ss), .val (.int ll), .val (.int ss), .val (.int e1), .val (.int e2), .val (.ref b7), .val (.ref b83), .val (.int ((own_upd (own_upd (own_upd (own_upd (own_upd (own_upd (fun _ => (0 : Int32)) (0 : Int32) (-1 : Int32)) (1 : Int32) (-1 : Int32)) (2 : Int32) (-1 : Int32)) (0 : Int32) e2) (1 : Int32) e1) (2 : Int32) ss) (2 : Int32))), .val (.int ((own_upd (own_upd (own_upd (own_upd (own_upd (own_upd (fun _ => (0 : Int32)) (0 : Int32) (-1 : Int32)) (1 : Int32) (-1 : Int32)) (2 : Int32) (-1 : Int32)) (0 : Int32) e2) (1 : Int32) e1) (2 : Int32) ss) (0 : Int32))), .unset, .unset, .unset, .unset, .unset] [(.int (1 : Int32)), (.int (2 : Int32))])) _
        refine XS.icmpYes X104.here hx rfl (pc0 := 198) (pc' := 208) rfl (hb hby at_198) rfl (XT.ii_gt_t hc198_123) (by decide) (by decide) ?_
        show Steps p.tables e below (T104.setTop (mkF m 208 #[.val (.int p1), .val (.int p2), .val (.int p3), .val (.int p4), .val (.int p5), .val (.int (3 : Int32)), .val (.int (2 : Int32)), .val (.int ss), .val (.int ll), .val (.int ss), .val (.int e1), .val (.int e2), .val (.ref b7), .val (.ref b83), .val (.int ((own_upd (own_upd (own_upd (own_upd (own_upd (own_upd (fun _ => (0 : Int32)) (0 : Int32) (-1 : Int32)) (1 : Int32) (-1 : Int32)) (2 : Int32) (-1 : Int32)) (0 : Int32) e2) (1 : Int32) e1) (2 : Int32) ss) (2 : Int32))), .val (.int ((own_upd (own_upd (own_upd (own_upd (own_upd (own_upd (fun _ => (0 : Int32)) (0 : Int32) (-1 : Int32)) (1 : Int32) (-1 : Int32)) (2 : Int32) (-1 : Int32)) (0 : Int32) e2) (1 : Int32) e1) (2 : Int32) ss) (0 : Int32))), .unset, .unset, .unset, .unset, .unset] [])) _
        refine XS.aload X104.here hx rfl (hb hby at_208) rfl rfl ?_
        show Steps p.tables e below (T104.setTop (mkF m 210 #[.val (.int p1), .val (.int p2), .val (.int p3), .val (.int p4), .val (.int p5), .val (.int (3 : Int32)), .val (.int (2 : Int32)), .val (.int ss), .val (.int ll), .val (.int ss), .val (.int e1), .val (.int e2), .val (.ref b7), .val (.ref b83), .val (.int ((own_upd (own_upd (own_upd (own_upd (own_upd (own_upd (fun _ => (0 : Int32)) (0 : Int32) (-1 : Int32)) (1 : Int32) (-1 : Int32)) (2 : Int32) (-1 : Int32)) (0 : Int32) e2) (1 : Int32) e1) (2 : Int32) ss) (2 : Int32))), .val (.int ((own_upd (own_upd (own_upd (own_upd (own_upd (own_upd (fun _ => (0 : Int32)) (0 : Int32) (-1 : Int32)) (1 : Int32) (-1 : Int32)) (2 : Int32) (-1 : Int32)) (0 : Int32) e2) (1 : Int32) e1) (2 : Int32) ss) (0 : Int32))), .unset, .unset, .unset, .unset, .unset] [(.ref b83)])) _
        refine XS.iconst X104.here hx rfl (hb hby at_210) ?_
        show Steps p.tables e below (T104.setTop (mkF m 211 #[.val (.int p1), .val (.int p2), .val (.int p3), .val (.int p4), .val (.int p5), .val (.int (3 : Int32)), .val (.int (2 : Int32)), .val (.int ss), .val (.int ll), .val (.int ss), .val (.int e1), .val (.int e2), .val (.ref b7), .val (.ref b83), .val (.int ((own_upd (own_upd (own_upd (own_upd (own_upd (own_upd (fun _ => (0 : Int32)) (0 : Int32) (-1 : Int32)) (1 : Int32) (-1 : Int32)) (2 : Int32) (-1 : Int32)) (0 : Int32) e2) (1 : Int32) e1) (2 : Int32) ss) (2 : Int32))), .val (.int ((own_upd (own_upd (own_upd (own_upd (own_upd (own_upd (fun _ => (0 : Int32)) (0 : Int32) (-1 : Int32)) (1 : Int32) (-1 : Int32)) (2 : Int32) (-1 : Int32)) (0 : Int32) e2) (1 : Int32) e1) (2 : Int32) ss) (0 : Int32))), .unset, .unset, .unset, .unset, .unset] [(.int (1 : Int32)), (.ref b83)])) _
        refine X104.iaload hx (j := (1 : Int32)) (v := (.int ((own_upd (own_upd (own_upd (own_upd (own_upd (own_upd (fun _ => (0 : Int32)) (0 : Int32) (-1 : Int32)) (1 : Int32) (-1 : Int32)) (2 : Int32) (-1 : Int32)) (0 : Int32) e2) (1 : Int32) e1) (2 : Int32) ss) (1 : Int32)))) (by rw [e104]; exact Ar124.1) (State.isArrayOf_alike hZ.alike Ar124.2.1) Ar124.2.2 hin124 (Ge124 _ (by decide) (by decide)) (g := (mkF m 211 #[.val (.int p1), .val (.int p2), .val (.int p3), .val (.int p4), .val (.int p5), .val (.int (3 : Int32)), .val (.int (2 : Int32)), .val (.int ss), .val (.int ll), .val (.int ss), .val (.int e1), .val (.int e2), .val (.ref b7), .val (.ref b83), .val (.int ((own_upd (own_upd (own_upd (own_upd (own_upd (own_upd (fun _ => (0 : Int32)) (0 : Int32) (-1 : Int32)) (1 : Int32) (-1 : Int32)) (2 : Int32) (-1 : Int32)) (0 : Int32) e2) (1 : Int32) e1) (2 : Int32) ss) (2 : Int32))), .val (.int ((own_upd (own_upd (own_upd (own_upd (own_upd (own_upd (fun _ => (0 : Int32)) (0 : Int32) (-1 : Int32)) (1 : Int32) (-1 : Int32)) (2 : Int32) (-1 : Int32)) (0 : Int32) e2) (1 : Int32) e1) (2 : Int32) ss) (0 : Int32))), .unset, .unset, .unset, .unset, .unset] [(.int (1 : Int32)), (.ref b83)])) rfl rfl (hb hby at_211) _ ?_
        show Steps p.tables e below (T104.setTop (mkF m 212 #[.val (.int p1), .val (.int p2), .val (.int p3), .val (.int p4), .val (.int p5), .val (.int (3 : Int32)), .val (.int (2 : Int32)), .val (.int ss), .val (.int ll), .val (.int ss), .val (.int e1), .val (.int e2), .val (.ref b7), .val (.ref b83), .val (.int ((own_upd (own_upd (own_upd (own_upd (own_upd (own_upd (fun _ => (0 : Int32)) (0 : Int32) (-1 : Int32)) (1 : Int32) (-1 : Int32)) (2 : Int32) (-1 : Int32)) (0 : Int32) e2) (1 : Int32) e1) (2 : Int32) ss) (2 : Int32))), .val (.int ((own_upd (own_upd (own_upd (own_upd (own_upd (own_upd (fun _ => (0 : Int32)) (0 : Int32) (-1 : Int32)) (1 : Int32) (-1 : Int32)) (2 : Int32) (-1 : Int32)) (0 : Int32) e2) (1 : Int32) e1) (2 : Int32) ss) (0 : Int32))), .unset, .unset, .unset, .unset, .unset] [(.int ((own_upd (own_upd (own_upd (own_upd (own_upd (own_upd (fun _ => (0 : Int32)) (0 : Int32) (-1 : Int32)) (1 : Int32) (-1 : Int32)) (2 : Int32) (-1 : Int32)) (0 : Int32) e2) (1 : Int32) e1) (2 : Int32) ss) (1 : Int32)))])) _
        refine XS.istore X104.here hx rfl (hb hby at_212) rfl (l' := #[.val (.int p1), .val (.int p2), .val (.int p3), .val (.int p4), .val (.int p5), .val (.int (3 : Int32)), .val (.int (2 : Int32)), .val (.int ss), .val (.int ll), .val (.int ss), .val (.int e1), .val (.int e2), .val (.ref b7), .val (.ref b83), .val (.int ((own_upd (own_upd (own_upd (own_upd (own_upd (own_upd (fun _ => (0 : Int32)) (0 : Int32) (-1 : Int32)) (1 : Int32) (-1 : Int32)) (2 : Int32) (-1 : Int32)) (0 : Int32) e2) (1 : Int32) e1) (2 : Int32) ss) (2 : Int32))), .val (.int ((own_upd (own_upd (own_upd (own_upd (own_upd (own_upd (fun _ => (0 : Int32)) (0 : Int32) (-1 : Int32)) (1 : Int32) (-1 : Int32)) (2 : Int32) (-1 : Int32)) (0 : Int32) e2) (1 : Int32) e1) (2 : Int32) ss) (0 : Int32))), .val (.int ((own_upd (own_upd (own_upd (own_upd (own_upd (own_upd (fun _ => (0 : Int32)) (0 : Int32) (-1 : Int32)) (1 : Int32) (-1 : Int32)) (2 : Int32) (-1 : Int32)) (0 : Int32) e2) (1 : Int32) e1) (2 : Int32) ss) (1 : Int32))), .unset, .unset, .unset, .unset]) rfl ?_
        exact kt)
      have hG : own_Good S81 ll (3 : Int32) ((own_upd (own_upd (own_upd (own_upd (own_upd (own_upd (fun _ => (0 : Int32)) (0 : Int32) (-1 : Int32)) (1 : Int32) (-1 : Int32)) (2 : Int32) (-1 : Int32)) (0 : Int32) e2) (1 : Int32) e1) (2 : Int32) ss) (2 : Int32)) ((own_upd (own_upd (own_upd (own_upd (own_upd (own_upd (fun _ => (0 : Int32)) (0 : Int32) (-1 : Int32)) (1 : Int32) (-1 : Int32)) (2 : Int32) (-1 : Int32)) (0 : Int32) e2) (1 : Int32) e1) (2 : Int32) ss) (0 : Int32)) ((own_upd (own_upd (own_upd (own_upd (own_upd (own_upd (fun _ => (0 : Int32)) (0 : Int32) (-1 : Int32)) (1 : Int32) (-1 : Int32)) (2 : Int32) (-1 : Int32)) (0 : Int32) e2) (1 : Int32) e1) (2 : Int32) ss) (1 : Int32)) := by subst h_e1 h_e2; rw [hS81, hS78, hS10]; exact own_good6 ss ll hs hl
      obtain ⟨Te, Ls, lc, Xe, Ne, ste⟩ := own_tail p1 p2 p3 p4 p5 (3 : Int32) (2 : Int32) ss ll ss e1 e2 b7 b83 ((own_upd (own_upd (own_upd (own_upd (own_upd (own_upd (fun _ => (0 : Int32)) (0 : Int32) (-1 : Int32)) (1 : Int32) (-1 : Int32)) (2 : Int32) (-1 : Int32)) (0 : Int32) e2) (1 : Int32) e1) (2 : Int32) ss) (2 : Int32)) ((own_upd (own_upd (own_upd (own_upd (own_upd (own_upd (fun _ => (0 : Int32)) (0 : Int32) (-1 : Int32)) (1 : Int32) (-1 : Int32)) (2 : Int32) (-1 : Int32)) (0 : Int32) e2) (1 : Int32) e1) (2 : Int32) ss) (0 : Int32)) ((own_upd (own_upd (own_upd (own_upd (own_upd (own_upd (fun _ => (0 : Int32)) (0 : Int32) (-1 : Int32)) (1 : Int32) (-1 : Int32)) (2 : Int32) (-1 : Int32)) (0 : Int32) e2) (1 : Int32) e1) (2 : Int32) ss) (1 : Int32)) aF8 aS8 aN8 aP8 S81 X104 hx hZ hw hby hml hown e104 N104 Zs104 c106 (own_two2 hl) hG
      obtain ⟨fs, hr, hrun, hended, hW, hsame⟩ := Xe.leave (v := some (.int (1 : Int32))) (fun h => by rw [Bd.returns] at h; cases h)
      refine ⟨_, _, P125 _ (ste _ ?_), hrun, hended, _, _, rfl, ?_, ⟨_, rfl⟩, hW, hsame.mono (by decide) (by decide)⟩
      · exact retN Xe hx (t := .boolean) Bd.returns (by simp) (hb hby at_454) hr
      · exact ⟨rfl, Ne⟩
set_option maxRecDepth 65536 in
set_option maxHeartbeats 40000000 in
theorem comes_1 {Post : Tables → Env → Array Value → State → Outcome → State → Prop} (hpost : ∀ tb e args s v u, (limb_1_1.after args s (.returned v) u = true ∧ limb_1_2.after args s (.returned v) u = true ∧ True) → FrameEnd s (.returned v) u (Jvm.fieldLocs frame_1_writes args s ++ Jvm.arrayLocs frame_1_arrays args s ++ Jvm.staticLocs frame_1_statics s) 24 128 → Post tb e args s (.returned v) u) :
    ArmFor flags0 classFile x code maxLocals ret World_1 tables_1 room_1 Calls_1 rest_1 Pre_1 Post := by
  intro l hfl _ _ p e ha hc hk s m args below hf hA hF happ hP
  obtain ⟨hcalls, hrest, hpre⟩ := hP
  obtain ⟨-, -, -, hnamed, -, -, -, hat⟩ := (Spec.applies_iff hf).mp happ
  obtain ⟨hg, hn⟩ := and_e (Cond.before_iff.mp (show (Jvm.Cond.and given_1 narrow_1).before args s = true from hpre))
  obtain ⟨g1, g2⟩ := and_e hg
  obtain ⟨g3, g4⟩ := and_e g2
  obtain ⟨g5, g6⟩ := and_e g4
  obtain ⟨g7, g8⟩ := and_e g6
  obtain ⟨g9, g10⟩ := and_e g8
  obtain ⟨w0, w1, w2, w3, w4, rfl⟩ : ∃ w0 w1 w2 w3 w4 : Value, args = #[w0, w1, w2, w3, w4] := by
    have hs : args.size = 5 := by simpa [Cond.value, given_1] using g1
    obtain ⟨L⟩ := args
    match L, hs with
    | [w0, w1, w2, w3, w4], _ => exact ⟨w0, w1, w2, w3, w4, rfl⟩
  have hw := fun d (hd : d ∈ tables_1) => atoms_spec (ws := Jvm.Cond.code x code maxLocals ret :: tables_1) hat d (List.mem_cons_of_mem _ hd)
  obtain ⟨i0, ei0⟩ := is_v g3
  obtain rfl : w0 = (.int i0) := Option.some.inj ei0
  obtain ⟨i1, ei1⟩ := is_v g5
  obtain rfl : w1 = (.int i1) := Option.some.inj ei1
  obtain ⟨i2, ei2⟩ := is_v g7
  obtain rfl : w2 = (.int i2) := Option.some.inj ei2
  obtain ⟨i3, ei3⟩ := is_v g9
  obtain rfl : w3 = (.int i3) := Option.some.inj ei3
  obtain ⟨i4, ei4⟩ := is_v g10
  obtain rfl : w4 = (.int i4) := Option.some.inj ei4
  obtain ⟨n, o, h1, h2, h3, _, L, rfl, ⟨rfl, N⟩, hq⟩ := rm0 l s _ hw tables_1 i0 i1 i2 i3 i4 s.heap s.heap.size (Nat.le_refl _) p e ha hc hk s m _ below hf ((Spec.applies_iff_loose hf).mp happ).1 ⟨rfl, State.Warmed39.refl s, rfl⟩ trivial
  refine ⟨n, _, h1, h2, h3, hpost _ _ _ _ _ _ ⟨Cond.after_iff.mpr rfl, Cond.after_iff.mpr (eq_i res_at (Term.int_eval (1)) rfl), trivial⟩ ⟨hq.1, hq.2.1, (hq.2.2.sift fun y hy => Or.inr (N y hy)).mono (by decide) (by decide)⟩⟩
theorem main_1_1 : Claimed_1_1 := comes_1 fun _ _ _ _ _ _ h hF => ⟨h.1, hF⟩
theorem main_1_2 : Claimed_1_2 := comes_1 fun _ _ _ _ _ _ h hF => ⟨h.2.1, hF⟩
end Jvm.Pilot.@@N@@
namespace Jvm.Pilot.@@N@@
open Jvm Jvm.ClassFile Sem Op Lib Jvm.Free Jvm.Stand Jvm.Pilot.@@N@@.Jvm.D
/-! MADE BY PROGRAM (witnessworld.py) out of the Statement's table words and the real class files: 10 classes; the members and pool entries that the words name. The judged class is class 1, her method 1. -/
namespace start1
open Jvm.ClassFile
def u (s : String) : CpInfo := .utf8 (stringToUtf16 s)
/-- a pool by its gaps: so many unusable entries, then the entry; so many at the end -/
def gap : Nat → List CpInfo → List CpInfo
  | 0, r => r
  | n + 1, r => .unusable :: gap n r
def poolList (es : List (Nat × CpInfo)) (last : Nat) : List CpInfo := es.foldr (fun e r => gap e.1 (e.2 :: r)) (gap last [])
def pool (es : List (Nat × CpInfo)) (last : Nat) : Array CpInfo := ⟨poolList es last⟩
def fileOf (pool : Array CpInfo) (this : Nat) (attrs : Array Attribute := #[]) (ms : Array MethodInfo := #[]) (fl : Nat := 33) (sup : Nat := 0) (ifs : Array Nat := #[]) (fds : Array FieldInfo := #[]) : ClassFile where
  minorVersion := 0
  majorVersion := 65
  constantPool := pool
  accessFlags := fl
  thisClass := this
  superClass := sup
  interfaces := ifs
  fields := fds
  methods := ms
  attributes := attrs
def plain (name : String) (sup : Option ClassId) : Class where
  name := name
  kind := .ordinary
  loader := none
  accessFlags := 33
  super := sup
  interfaces := #[]
  cf := none
  fields := #[]
  methods := #[]
  instanceTypes := #[]
  staticTypes := #[]
  resolved := #[]
  callSites := []
  init := .initialized
  statics := none
  mirror := none

def pool0 : Array CpInfo := pool [(5, u "<init>"), (0, u "()V"), (1, .class_ 10), (1, u "java/lang/Object")] 113

def k0c0 : Code := { maxStack := 0, maxLocals := 1, code := object_method_1_code, exceptionTable := #[], attributes := #[] }
def k0m0 : Method := { name := "<init>", desc := "()V", sig := { parameters := [], returnType := none }, accessFlags := 1, code := some k0c0 }
/-- java/lang/Object -/
def k0 : Class := { plain "java/lang/Object" none with
  accessFlags := 33
  interfaces := #[]
  cf := some (fileOf pool0 8 #[] #[{ accessFlags := 1, nameIndex := 5, descriptorIndex := 6, attributes := #[] }] 33 0 #[] #[])
  fields := #[]
  methods := #[k0m0]
  instanceTypes := #[]
  staticTypes := #[]
  resolved := Array.replicate 124 none
  statics := none }

def pool1 : Array CpInfo := pool [(2, .class_ 4), (1, u "java/lang/Object"), (0, u "<init>"), (0, u "()V"), (0, .integer 2147483647), (0, .class_ 9), (0, u "com/example/exact_equiv/exactequiv/equivalence/IntLists"), (0, .methodref 8 11), (0, .nameAndType 5 12), (0, u "(II)V"), (0, .methodref 8 14), (0, .nameAndType 15 12), (0, u "add"), (0, .methodref 8 17), (0, .nameAndType 18 12), (0, u "remove"), (0, .methodref 8 20), (0, .nameAndType 21 22), (0, u "size"), (0, u "(I)I"), (0, .methodref 8 24), (0, .nameAndType 25 22), (0, u "first"), (0, .methodref 8 27), (0, .nameAndType 28 22), (0, u "next"), (0, .class_ 30), (0, u "com/example/exact_equiv/exactequiv/equivalence/IntListsRemovePinLaw"), (2, u "law"), (0, u "(IIIII)Z")] 5

def k1m0 : Method := { name := "<init>", desc := "()V", sig := { parameters := [], returnType := none }, accessFlags := 1, code := none }
def k1c1 : Code := { maxStack := 4, maxLocals := 21, code := code, exceptionTable := #[], attributes := #[] }
def k1m1 : Method := { name := "law", desc := "(IIIII)Z", sig := { parameters := [.int, .int, .int, .int, .int], returnType := some .boolean }, accessFlags := 9, code := some k1c1 }
/-- com/example/exact_equiv/exactequiv/equivalence/IntListsRemovePinLaw -/
def k1 : Class := { plain "com/example/exact_equiv/exactequiv/equivalence/IntListsRemovePinLaw" (some 0) with
  accessFlags := 49
  interfaces := #[]
  cf := some (fileOf pool1 29 #[] #[{ accessFlags := 1, nameIndex := 5, descriptorIndex := 6, attributes := #[] }, { accessFlags := 9, nameIndex := 33, descriptorIndex := 34, attributes := #[] }] 49 2 #[] #[])
  fields := #[]
  methods := #[k1m0, k1m1]
  instanceTypes := #[]
  staticTypes := #[]
  resolved := Array.replicate 40 none
  statics := none }

def pool2 : Array CpInfo := pool [(1, .methodref 2 3), (0, .class_ 4), (0, .nameAndType 5 6), (0, u "java/lang/Object"), (0, u "<init>"), (0, u "()V"), (0, .fieldref 8 9), (0, .class_ 10), (0, .nameAndType 11 12), (0, u "com/example/exact_equiv/exactequiv/equivalence/IntLists"), (0, u "firsts"), (0, u "[I"), (0, .methodref 14 15), (0, .class_ 16), (0, .nameAndType 17 18), (0, u "java/util/Arrays"), (0, u "fill"), (0, u "([II)V"), (0, .fieldref 8 20), (0, .nameAndType 21 12), (0, u "sizes"), (0, .fieldref 8 23), (0, .nameAndType 24 12), (0, u "nexts"), (0, .fieldref 8 26), (0, .nameAndType 27 12), (0, u "previouses"), (10, u "(II)V"), (2, u "first"), (0, u "(I)I"), (0, u "next"), (0, u "size"), (0, u "add"), (1, u "remove")] 5

def k2c0 : Code := { maxStack := 2, maxLocals := 3, code := prog_42_method_1_code, exceptionTable := #[], attributes := #[] }
def k2m0 : Method := { name := "<init>", desc := "(II)V", sig := { parameters := [.int, .int], returnType := none }, accessFlags := 0, code := some k2c0 }
def k2c1 : Code := { maxStack := 2, maxLocals := 2, code := prog_42_method_2_code, exceptionTable := #[], attributes := #[] }
def k2m1 : Method := { name := "first", desc := "(I)I", sig := { parameters := [.int], returnType := some .int }, accessFlags := 0, code := some k2c1 }
def k2c2 : Code := { maxStack := 2, maxLocals := 2, code := prog_42_method_3_code, exceptionTable := #[], attributes := #[] }
def k2m2 : Method := { name := "next", desc := "(I)I", sig := { parameters := [.int], returnType := some .int }, accessFlags := 0, code := some k2c2 }
def k2c3 : Code := { maxStack := 2, maxLocals := 2, code := prog_42_method_4_code, exceptionTable := #[], attributes := #[] }
def k2m3 : Method := { name := "size", desc := "(I)I", sig := { parameters := [.int], returnType := some .int }, accessFlags := 0, code := some k2c3 }
def k2c4 : Code := { maxStack := 4, maxLocals := 3, code := prog_42_method_5_code, exceptionTable := #[], attributes := #[] }
def k2m4 : Method := { name := "add", desc := "(II)V", sig := { parameters := [.int, .int], returnType := none }, accessFlags := 0, code := some k2c4 }
def k2c5 : Code := { maxStack := 4, maxLocals := 3, code := prog_42_method_6_code, exceptionTable := #[], attributes := #[] }
def k2m5 : Method := { name := "remove", desc := "(II)V", sig := { parameters := [.int, .int], returnType := none }, accessFlags := 0, code := some k2c5 }
/-- com/example/exact_equiv/exactequiv/equivalence/IntLists -/
def k2 : Class := { plain "com/example/exact_equiv/exactequiv/equivalence/IntLists" (some 0) with
  accessFlags := 48
  interfaces := #[]
  cf := some (fileOf pool2 8 #[] #[{ accessFlags := 0, nameIndex := 5, descriptorIndex := 38, attributes := #[] }, { accessFlags := 0, nameIndex := 41, descriptorIndex := 42, attributes := #[] }, { accessFlags := 0, nameIndex := 43, descriptorIndex := 42, attributes := #[] }, { accessFlags := 0, nameIndex := 44, descriptorIndex := 42, attributes := #[] }, { accessFlags := 0, nameIndex := 45, descriptorIndex := 38, attributes := #[] }, { accessFlags := 0, nameIndex := 47, descriptorIndex := 38, attributes := #[] }] 48 2 #[] #[{ accessFlags := 18, nameIndex := 11, descriptorIndex := 12, attributes := #[] }, { accessFlags := 18, nameIndex := 21, descriptorIndex := 12, attributes := #[] }, { accessFlags := 2, nameIndex := 24, descriptorIndex := 12, attributes := #[] }, { accessFlags := 2, nameIndex := 27, descriptorIndex := 12, attributes := #[] }])
  fields := #[{ name := "firsts", type := (.array .int), accessFlags := 18, slot := 0, constantValue := 0 }, { name := "sizes", type := (.array .int), accessFlags := 18, slot := 1, constantValue := 0 }, { name := "nexts", type := (.array .int), accessFlags := 2, slot := 2, constantValue := 0 }, { name := "previouses", type := (.array .int), accessFlags := 2, slot := 3, constantValue := 0 }]
  methods := #[k2m0, k2m1, k2m2, k2m3, k2m4, k2m5]
  instanceTypes := #[(.array .int), (.array .int), (.array .int), (.array .int)]
  staticTypes := #[]
  resolved := Array.replicate 53 none
  statics := none }

def pool3 : Array CpInfo := pool [(2, .class_ 4), (1, u "java/lang/Object"), (0, u "<init>"), (0, u "()V"), (7, .class_ 16), (1, u "java/util/Arrays"), (57, .class_ 76), (1, u "java/util/Arrays$NaturalOrder"), (36, .class_ 115), (1, u "java/util/Arrays$LegacyMergeSort"), (1, u "Z"), (257, .class_ 376), (0, u "java/util/Arrays$ArrayList"), (68, u "$assertionsDisabled"), (269, u "MIN_ARRAY_SORT_GRAN"), (0, u "I"), (2, u "INSERTIONSORT_THRESHOLD"), (120, u "fill"), (4, u "([II)V"), (129, .class_ 976), (0, u "java/util/Arrays$ArrayItr")] 52

def k3m0 : Method := { name := "<init>", desc := "()V", sig := { parameters := [], returnType := none }, accessFlags := 2, code := none }
def k3c1 : Code := { maxStack := 3, maxLocals := 4, code := jdk_65_method_103_code, exceptionTable := #[], attributes := #[] }
def k3m1 : Method := { name := "fill", desc := "([II)V", sig := { parameters := [(.array .int), .int], returnType := none }, accessFlags := 9, code := some k3c1 }
/-- java/util/Arrays -/
def k3 : Class := { plain "java/util/Arrays" (some 0) with
  accessFlags := 49
  interfaces := #[]
  cf := some (fileOf pool3 14 #[.nestMembers #[975, 375, 113, 74]] #[{ accessFlags := 2, nameIndex := 5, descriptorIndex := 6, attributes := #[] }, { accessFlags := 9, nameIndex := 840, descriptorIndex := 845, attributes := #[] }] 49 2 #[] #[{ accessFlags := 26, nameIndex := 715, descriptorIndex := 716, attributes := #[] }, { accessFlags := 26, nameIndex := 719, descriptorIndex := 716, attributes := #[] }, { accessFlags := 4120, nameIndex := 445, descriptorIndex := 117, attributes := #[] }])
  fields := #[{ name := "MIN_ARRAY_SORT_GRAN", type := .int, accessFlags := 26, slot := 0, constantValue := 0 }, { name := "INSERTIONSORT_THRESHOLD", type := .int, accessFlags := 26, slot := 1, constantValue := 0 }, { name := "$assertionsDisabled", type := .boolean, accessFlags := 4120, slot := 2, constantValue := 0 }]
  methods := #[k3m0, k3m1]
  instanceTypes := #[]
  staticTypes := #[.int, .int, .boolean]
  resolved := Array.replicate 1029 none
  statics := none }

def pool4 : Array CpInfo := pool [(1, u "java/lang/Cloneable"), (0, .class_ 1), (0, u "java/lang/Object"), (0, .class_ 3)] 3

/-- java/lang/Cloneable -/
def k4 : Class := { plain "java/lang/Cloneable" (some 0) with
  accessFlags := 1537
  interfaces := #[]
  cf := some (fileOf pool4 2 #[] #[] 1537 4 #[] #[])
  fields := #[]
  methods := #[]
  instanceTypes := #[]
  staticTypes := #[]
  resolved := Array.replicate 8 none
  statics := none }

def pool5 : Array CpInfo := pool [(1, u "java/io/Serializable"), (0, .class_ 1), (0, u "java/lang/Object"), (0, .class_ 3)] 3

/-- java/io/Serializable -/
def k5 : Class := { plain "java/io/Serializable" (some 0) with
  accessFlags := 1537
  interfaces := #[]
  cf := some (fileOf pool5 2 #[] #[] 1537 4 #[] #[])
  fields := #[]
  methods := #[]
  instanceTypes := #[]
  staticTypes := #[]
  resolved := Array.replicate 8 none
  statics := none }

/-- the primitive byte -/
def k6 : Class := { plain "byte" none with kind := .primitive 'B', accessFlags := 0x411 }
/-- [B -/
def k7 : Class := { plain "[B" (some 0) with kind := .array 6 .byte, interfaces := #[4, 5], accessFlags := 1041 }

/-- the primitive int -/
def k8 : Class := { plain "int" none with kind := .primitive 'I', accessFlags := 0x411 }
/-- [I -/
def k9 : Class := { plain "[I" (some 0) with kind := .array 8 .int, interfaces := #[4, 5], accessFlags := 1041 }

def heap : Heap := #[]
def classes : Array Class := #[k0, k1, k2, k3, k4, k5, k6, k7, k8, k9]
def interned : List (Array UInt16 × Addr) := []
def slotsUsed : Nat := 0
def theMethod : MethodId := ⟨1, 1⟩
def args0 : Array Value := #[.int 5, .int 7, .int 5, .int 7, .int 1]
def aboutOver (below : List Frame) : State where
  vm := { classes := classes, interned := interned.toArray }
  heap := heap
  slotsUsed := slotsUsed
  threads := #[{ frames := .invoking theMethod args0 :: below }]
def below0 : List Frame := [.native { method := ⟨0, 0⟩, args := #[] }]
def about1 : State := aboutOver below0
def p0 : Program := .bare "" "" ""
def e0 : Env := launch0.env 0 0 0
theorem w_frames : about1.frames = Frame.invoking theMethod args0 :: below0 := rfl
set_option maxRecDepth 65536 in
theorem w_args : argsFit about1.vm theMethod args0 = true := by decide +kernel
set_option maxRecDepth 65536 in
theorem w_heap : heapFits about1 = true := by decide +kernel
set_option maxRecDepth 65536 in
theorem w_runnable : about1.curStatus? = some .runnable := by decide +kernel
set_option maxRecDepth 65536 in
theorem w_alone : about1.alone = true := by decide +kernel
set_option maxRecDepth 65536 in
theorem w_named : about1.methodNamed? x = some theMethod := by decide +kernel
set_option maxRecDepth 65536 in
theorem w_hears : about1.hears theMethod below0 = true := by decide +kernel
set_option maxRecDepth 65536 in
theorem w_ripe : about1.ripe theMethod args0 below0 = true := by decide +kernel
theorem w_running : about1.status = .running := rfl
set_option maxRecDepth 65536 in
theorem w_room : about1.hasRoom e0.platform room_1 = true :=
  launch0.hasRoom_least _ room_1 (by decide +kernel) (by decide +kernel) (by decide +kernel) (by decide +kernel) (by decide +kernel) (by decide +kernel)
theorem allAtoms_all (ts : List Jvm.Cond) (a : Array Jvm.Value) (st : Jvm.State) : (allAtoms ts).before a st = ts.all (fun c => c.before a st) := by
  induction ts with
  | nil => rfl
  | cons c t ih =>
    show (Jvm.Cond.and c (allAtoms t)).before a st = _
    rw [Jvm.Cond.before_and, ih, List.all_cons]
def words1 : List Jvm.Cond := Jvm.Cond.code x code maxLocals ret :: tables_1
/-- a 'code' word, met by the world's own term for the bytes: nothing is compared byte by byte -/
theorem code_word {y : MethodName} {bytes : ByteArray} {mx : Nat} {rt : Option FieldType} {a : Array Value} {s : State} {m : MethodId} {meth : Method} {c : Code} (h1 : s.methodNamed? y = some m) (h2 : s.vm.method? m = some meth) (h3 : meth.code = some c) (h4 : c.code = bytes)
    (h5 : (c.maxLocals == mx && c.exceptionTable.isEmpty && decide (c.maxStack ≤ mostOperands) && decide (meth.sig.returnType = rt) && !meth.locks && decide (parseMethodDescriptor y.desc = some meth.sig)) = true) : (Jvm.Cond.code y bytes mx rt).before a s = true := by
  simp only [Bool.and_eq_true, beq_iff_eq, Bool.not_eq_true', decide_eq_true_eq] at h5
  obtain ⟨⟨⟨⟨⟨g1, g2⟩, g3⟩, g4⟩, g5⟩, g6⟩ := h5
  simp [Cond.before, Cond.holds, Cond.value, h1, h2, h3, h4, g1, g2, g3, g4, g5, g6]
def isCode : Jvm.Cond → Bool
  | .code _ _ _ _ => true
  | _ => false
theorem all_split {L : List Jvm.Cond} {P : Jvm.Cond → Bool} (h1 : L.all (fun c => isCode c || P c) = true) (h2 : ∀ c ∈ L.filter isCode, P c = true) : L.all P = true := by
  refine List.all_eq_true.mpr fun c hc => ?_
  have h := List.all_eq_true.mp h1 c hc
  rcases Bool.eq_false_or_eq_true (isCode c) with hi | hi
  · exact h2 c (List.mem_filter.mpr ⟨hc, hi⟩)
  · simpa [hi] using h
set_option maxRecDepth 65536 in
theorem w_c0 : (Jvm.Cond.code x code maxLocals ret).before args0 about1 = true := code_word (m := ⟨1, 1⟩) (meth := k1m1) (c := k1c1) (by decide +kernel) rfl rfl rfl (by decide +kernel)
set_option maxRecDepth 65536 in
theorem w_c1 : (Jvm.Cond.code ({ cls := "com/example/exact_equiv/exactequiv/equivalence/IntLists", name := "<init>", desc := "(II)V" } : Jvm.MethodName) prog_42_method_1_code (3 : Nat) (Option.none : Option Jvm.ClassFile.FieldType)).before args0 about1 = true := code_word (m := ⟨2, 0⟩) (meth := k2m0) (c := k2c0) (by decide +kernel) rfl rfl rfl (by decide +kernel)
set_option maxRecDepth 65536 in
theorem w_c2 : (Jvm.Cond.code ({ cls := "java/lang/Object", name := "<init>", desc := "()V" } : Jvm.MethodName) object_method_1_code (1 : Nat) (Option.none : Option Jvm.ClassFile.FieldType)).before args0 about1 = true := code_word (m := ⟨0, 0⟩) (meth := k0m0) (c := k0c0) (by decide +kernel) rfl rfl rfl (by decide +kernel)
set_option maxRecDepth 65536 in
theorem w_c3 : (Jvm.Cond.code ({ cls := "java/util/Arrays", name := "fill", desc := "([II)V" } : Jvm.MethodName) jdk_65_method_103_code (4 : Nat) (Option.none : Option Jvm.ClassFile.FieldType)).before args0 about1 = true := code_word (m := ⟨3, 1⟩) (meth := k3m1) (c := k3c1) (by decide +kernel) rfl rfl rfl (by decide +kernel)
set_option maxRecDepth 65536 in
theorem w_c4 : (Jvm.Cond.code ({ cls := "com/example/exact_equiv/exactequiv/equivalence/IntLists", name := "add", desc := "(II)V" } : Jvm.MethodName) prog_42_method_5_code (3 : Nat) (Option.none : Option Jvm.ClassFile.FieldType)).before args0 about1 = true := code_word (m := ⟨2, 4⟩) (meth := k2m4) (c := k2c4) (by decide +kernel) rfl rfl rfl (by decide +kernel)
set_option maxRecDepth 65536 in
theorem w_c5 : (Jvm.Cond.code ({ cls := "com/example/exact_equiv/exactequiv/equivalence/IntLists", name := "remove", desc := "(II)V" } : Jvm.MethodName) prog_42_method_6_code (3 : Nat) (Option.none : Option Jvm.ClassFile.FieldType)).before args0 about1 = true := code_word (m := ⟨2, 5⟩) (meth := k2m5) (c := k2c5) (by decide +kernel) rfl rfl rfl (by decide +kernel)
set_option maxRecDepth 65536 in
theorem w_c6 : (Jvm.Cond.code ({ cls := "com/example/exact_equiv/exactequiv/equivalence/IntLists", name := "size", desc := "(I)I" } : Jvm.MethodName) prog_42_method_4_code (2 : Nat) (Option.some Jvm.ClassFile.FieldType.int)).before args0 about1 = true := code_word (m := ⟨2, 3⟩) (meth := k2m3) (c := k2c3) (by decide +kernel) rfl rfl rfl (by decide +kernel)
set_option maxRecDepth 65536 in
theorem w_c7 : (Jvm.Cond.code ({ cls := "com/example/exact_equiv/exactequiv/equivalence/IntLists", name := "first", desc := "(I)I" } : Jvm.MethodName) prog_42_method_2_code (2 : Nat) (Option.some Jvm.ClassFile.FieldType.int)).before args0 about1 = true := code_word (m := ⟨2, 1⟩) (meth := k2m1) (c := k2c1) (by decide +kernel) rfl rfl rfl (by decide +kernel)
set_option maxRecDepth 65536 in
theorem w_c8 : (Jvm.Cond.code ({ cls := "com/example/exact_equiv/exactequiv/equivalence/IntLists", name := "next", desc := "(I)I" } : Jvm.MethodName) prog_42_method_3_code (2 : Nat) (Option.some Jvm.ClassFile.FieldType.int)).before args0 about1 = true := code_word (m := ⟨2, 2⟩) (meth := k2m2) (c := k2c2) (by decide +kernel) rfl rfl rfl (by decide +kernel)
def codes1 : List Jvm.Cond := [Jvm.Cond.code x code maxLocals ret, Jvm.Cond.code ({ cls := "com/example/exact_equiv/exactequiv/equivalence/IntLists", name := "<init>", desc := "(II)V" } : Jvm.MethodName) prog_42_method_1_code (3 : Nat) (Option.none : Option Jvm.ClassFile.FieldType), Jvm.Cond.code ({ cls := "java/lang/Object", name := "<init>", desc := "()V" } : Jvm.MethodName) object_method_1_code (1 : Nat) (Option.none : Option Jvm.ClassFile.FieldType), Jvm.Cond.code ({ cls := "java/util/Arrays", name := "fill", desc := "([II)V" } : Jvm.MethodName) jdk_65_method_103_code (4 : Nat) (Option.none : Option Jvm.ClassFile.FieldType), Jvm.Cond.code ({ cls := "com/example/exact_equiv/exactequiv/equivalence/IntLists", name := "add", desc := "(II)V" } : Jvm.MethodName) prog_42_method_5_code (3 : Nat) (Option.none : Option Jvm.ClassFile.FieldType), Jvm.Cond.code ({ cls := "com/example/exact_equiv/exactequiv/equivalence/IntLists", name := "remove", desc := "(II)V" } : Jvm.MethodName) prog_42_method_6_code (3 : Nat) (Option.none : Option Jvm.ClassFile.FieldType), Jvm.Cond.code ({ cls := "com/example/exact_equiv/exactequiv/equivalence/IntLists", name := "size", desc := "(I)I" } : Jvm.MethodName) prog_42_method_4_code (2 : Nat) (Option.some Jvm.ClassFile.FieldType.int), Jvm.Cond.code ({ cls := "com/example/exact_equiv/exactequiv/equivalence/IntLists", name := "first", desc := "(I)I" } : Jvm.MethodName) prog_42_method_2_code (2 : Nat) (Option.some Jvm.ClassFile.FieldType.int), Jvm.Cond.code ({ cls := "com/example/exact_equiv/exactequiv/equivalence/IntLists", name := "next", desc := "(I)I" } : Jvm.MethodName) prog_42_method_3_code (2 : Nat) (Option.some Jvm.ClassFile.FieldType.int)]
set_option maxRecDepth 65536 in
theorem codes_eq : words1.filter isCode = codes1 := rfl
theorem w_codes : ∀ c ∈ words1.filter isCode, c.before args0 about1 = true := by
  rw [codes_eq]
  intro c hc
  simp only [codes1, List.mem_cons, List.not_mem_nil, or_false] at hc
  rcases hc with rfl | rfl | rfl | rfl | rfl | rfl | rfl | rfl | rfl
  · exact w_c0
  · exact w_c1
  · exact w_c2
  · exact w_c3
  · exact w_c4
  · exact w_c5
  · exact w_c6
  · exact w_c7
  · exact w_c8
set_option maxRecDepth 65536 in
theorem w_t1 : (words1.take 24).all (fun c => isCode c || c.before args0 about1) = true := by decide +kernel
set_option maxRecDepth 65536 in
theorem w_t2 : ((words1.drop 24).take 24).all (fun c => isCode c || c.before args0 about1) = true := by decide +kernel
set_option maxRecDepth 65536 in
theorem w_t3 : ((words1.drop 24).drop 24).all (fun c => isCode c || c.before args0 about1) = true := by decide +kernel
theorem w_tables : (allAtoms (Jvm.Cond.code x code maxLocals ret :: tables_1)).before args0 about1 = true := by
  rw [allAtoms_all]
  show words1.all (fun c => c.before args0 about1) = true
  refine all_split ?_ w_codes
  rw [← List.take_append_drop 24 words1, List.all_append, w_t1, ← List.take_append_drop 24 (words1.drop 24), List.all_append, w_t2, w_t3]
  rfl
set_option maxRecDepth 65536 in
theorem w_case : (Jvm.Cond.and given_1 narrow_1).before args0 about1 = true := by decide +kernel
theorem w_applies : (headSpec (Jvm.Cond.code x code maxLocals ret :: tables_1) room_1).applies x e0.platform about1 = true :=
  (Spec.applies_iff w_frames).mpr ⟨w_running, w_runnable, w_alone, w_named, w_hears, w_ripe, w_room, w_tables⟩
theorem atStart : AtStart classFile x code maxLocals ret World_1 tables_1 room_1 Calls_1 rest_1 Pre_1 launch0 p0 e0 about1 theMethod args0 below0 :=
  ⟨lists_1, trivial, launch0.admits_env _ _ _, launch0.least_env, fairChoices_fair.cas, fairChoices_fair.clock, w_frames, w_args, w_heap, w_applies, trivial, trivial, w_case⟩
end start1
theorem witness_1 : WitnessClaimed_1 := ⟨start1.p0, start1.e0, start1.about1, start1.theMethod, start1.args0, start1.below0, start1.atStart⟩
end Jvm.Pilot.@@N@@
