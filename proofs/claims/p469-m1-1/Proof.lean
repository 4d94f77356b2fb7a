import JvmDerived
import JvmDerived.Pilot.@@N@@Statement
import JvmDerived.Pilot.@@N@@Code
set_option linter.unusedVariables false
set_option linter.unusedSimpArgs false
namespace Jvm.RoadKit
open Sem ClassFile Op Lib Jvm.Stand Jvm.Free Jvm.LawKit
section New
variable {p : Program} {l : Launch} {e : Env} {R : Room} {s : State} {m : MethodId} {args : Array Value} {below : List Frame} {meth : Method} {c : Code} {T : State} {locs : List Loc} {cells slots : Nat}
theorem retI (X : Stand p l e R s m args below meth c T locs cells slots) (hx : p.tables.exec = Jvm.exec) {pc : Nat} {Ls : Array Slot} {z : Int32} {rest : List Value} (hret : meth.sig.returnType = some .int) (hd : decode c.code pc = .ok (.ireturn, 1)) {fs : List Frame}
    (hl : ∀ (f : JFrame) (acts : List Action), f.method = m → f.locked = none → f.entered = [] → (doReturn e (T.setTop f) acts (some (.int z))).1 = T.setFrames fs) : Steps p.tables e below (T.setTop (mkF m pc Ls (.int z :: rest))) (T.setFrames fs) := by
  have hm' : T.vm.method? m = some meth := X.method'
  have hn : narrow .int (.int z) = .int z := rfl
  show Steps p.tables e below (T.setTop { method := m, pc := pc, locals := Ls, stack := _ :: rest, locked := none }) _
  jvm_step X.here [X.here.top, hx, hd, hm', hret, hn]
  first | (intro acts; rw [hl _ acts rfl rfl rfl]) | rw [hl _ _ rfl rfl rfl]
  exact Steps.refl _
/-- from A the run ends as K says -/
abbrev own_Fin (p : Program) (e : Env) (below : List Frame) (K : Outcome → State → Prop) (A : State) : Prop := ∃ s₂ o, Steps p.tables e below A s₂ ∧ s₂.status = .running ∧ Ended s₂ below o ∧ K o s₂
theorem own_go {K : Outcome → State → Prop} {A B : State} (h : ∀ t, Steps p.tables e below B t → Steps p.tables e below A t) (k : own_Fin p e below K B) : own_Fin p e below K A := by
  obtain ⟨s₂, o, hs, r⟩ := k
  exact ⟨s₂, o, h _ hs, r⟩
end New
end Jvm.RoadKit

namespace Jvm.Pilot.@@N@@
open Jvm Jvm.ClassFile Sem Op Lib Jvm.Free Jvm.Stand Jvm.LawKit Jvm.RoadKit Bundle Jvm.Pilot.@@N@@.Jvm.D
theorem own_wS {Z : State} {a0 : Array Value} (hw : ∀ d ∈ tables_1, d.before a0 Z = true) : ∀ d ∈ Bundle.stringAtoms, d.before a0 Z = true := by
  intro d hd
  refine hw d ?_
  simp only [Bundle.stringAtoms, List.mem_cons, List.not_mem_nil, or_false] at hd
  rcases hd with rfl | rfl | rfl | rfl | rfl | rfl | rfl <;> first | exact List.mem_of_getElem? (i := 27) rfl | exact List.mem_of_getElem? (i := 28) rfl | exact List.mem_of_getElem? (i := 29) rfl | exact List.mem_of_getElem? (i := 30) rfl | exact List.mem_of_getElem? (i := 31) rfl | exact List.mem_of_getElem? (i := 32) rfl | exact List.mem_of_getElem? (i := 33) rfl
theorem own_l (a : Int32) {x : Int32} (h : x = ((1 : Int32) + ((a &&& (2147483647 : Int32)) % (1000000 : Int32)))) : ¬ x < (1 : Int32) ∧ ¬ (1000000 : Int32) < x := by
  subst h
  have h1 := c_mask a 2147483647 31 (by decide) (by decide)
  have h2 := (c_irem (a &&& 2147483647) 1000000 1000000 (by decide)).1
  have h3 := c_iadd 1 ((a &&& (2147483647 : Int32)) % (1000000 : Int32))
  have h4 := rng32 ((1 : Int32) + ((a &&& (2147483647 : Int32)) % (1000000 : Int32)))
  have h5 : (1 : Int32).toInt = 1 := by decide
  have h7 : (1000000 : Int32).toInt = 1000000 := by decide
  have h6 := rng32 a
  simp only [Int32.lt_iff_toInt_lt]
  omega
theorem own_k {P : Prop} [Decidable P] (a : Int32) {x : Int32} (h : x = (if P then ((a &&& (2147483647 : Int32)) % (1000001 : Int32)) else (0 : Int32))) : ¬ x < (0 : Int32) ∧ ¬ (1000000 : Int32) < x := by
  have h7 : (1000000 : Int32).toInt = 1000000 := by decide
  have h8 : (0 : Int32).toInt = 0 := by decide
  subst h
  split
  · have h1 := c_mask a 2147483647 31 (by decide) (by decide)
    have h2 := (c_irem (a &&& 2147483647) 1000001 1000001 (by decide)).1
    have h6 := rng32 a
    simp only [Int32.lt_iff_toInt_lt]
    omega
  · decide
theorem own_m (a : Int32) {x : Int32} (h : x = (a &&& (2147483647 : Int32))) : ¬ x < (0 : Int32) := by
  subst h
  have h1 := c_mask a 2147483647 31 (by decide) (by decide)
  have h8 : (0 : Int32).toInt = 0 := by decide
  have h6 := rng32 a
  simp only [Int32.lt_iff_toInt_lt]
  omega
theorem own_age (a : Int32) {x : Int32} (h : x = ((a.toUInt32 >>> ((3 : Int32) &&& 31).toUInt32).toInt32)) : ¬ x < (0 : Int32) := by
  subst h
  have h1 := c_iushr a 3 3 (by decide) (by decide)
  have h8 : (0 : Int32).toInt = 0 := by decide
  have h6 := rng32 a
  simp only [Int32.lt_iff_toInt_lt]
  omega
theorem own_same {k v m : Int32} {r x : Int32} (hk : ¬ k < (0 : Int32) ∧ ¬ (1000000 : Int32) < k) (hv : ¬ v < (0 : Int32) ∧ ¬ (1000000 : Int32) < v) (hm : ¬ m < (0 : Int32) ∧ ¬ (1000000 : Int32) < m)
    (hr : r = (if (0 : Int32) < k then (1 : Int32) else (if (0 : Int32) < v then (1 : Int32) else (if (0 : Int32) < m then (1 : Int32) else (0 : Int32)))))
    (hx : x = (if (((k.toInt64) + (v.toInt64)) + (m.toInt64)) = (0 : Int64) then (0 : Int32) else (1 : Int32))) : r = x := by
  have h7 : (1000000 : Int32).toInt = 1000000 := by decide
  have h8 : (0 : Int32).toInt = 0 := by decide
  have h9 : (0 : Int64).toInt = 0 := by decide
  simp only [Int32.lt_iff_toInt_lt] at hk hv hm hr
  have e1 := c_ladd k.toInt64 v.toInt64
  have e2 := c_ladd (k.toInt64 + v.toInt64) m.toInt64
  have e3 := rng64 (k.toInt64 + v.toInt64)
  have e4 := rng64 ((k.toInt64 + v.toInt64) + m.toInt64)
  rw [c_i2l, c_i2l] at e1
  rw [c_i2l] at e2
  subst hr hx
  by_cases q : (((k.toInt64) + (v.toInt64)) + (m.toInt64)) = (0 : Int64)
  · have q' := congrArg Int64.toInt q
    rw [if_pos q, if_neg (by omega), if_neg (by omega), if_neg (by omega)]
  · have q' : (((k.toInt64) + (v.toInt64)) + (m.toInt64)).toInt ≠ 0 := fun z => q (Int64.toInt_inj.mp (z.trans h9.symm))
    rw [if_neg q]
    by_cases a1 : (0 : Int32).toInt < k.toInt
    · rw [if_pos a1]
    · rw [if_neg a1]
      by_cases a2 : (0 : Int32).toInt < v.toInt
      · rw [if_pos a2]
      · rw [if_neg a2, if_pos (by omega)]
theorem d3_0 : decode jdk_30_method_1_code 0 = .ok (.aload_n 0, 1) := by decide +kernel
theorem d3_1 : decode jdk_30_method_1_code 1 = .ok (.invokespecial 1, 3) := by decide +kernel
theorem d3_4 : decode jdk_30_method_1_code 4 = .ok (.return_, 1) := by decide +kernel
theorem pn_rm3 : plainName "java/lang/Record" = true := by first | (simp [plainName, overriddenIn]; done) | decide +kernel
theorem ef_rm3 (m : MethodId) (x0 : Addr) : entryFrame m #[(.ref x0)] 1 = mkF m 0 #[.val (.ref x0)] [] := by first | (simp [entryFrame, mkF, argsToLocals, Value.category]; done) | rfl
def Q3 (Z : State) (a1 : Addr) (h0 : Heap) (n0 : Nat) (v : Option Value) (h : Heap) (L : List Loc) : Prop := v = none ∧ Fr n0 L ∧ h = h0
set_option maxRecDepth 65536 in
set_option maxHeartbeats 40000000 in
theorem rm3 (l : Launch) (Z : State) (a0 : Array Value) (hw : ∀ d ∈ tables_1, d.before a0 Z = true) (ws : List Jvm.Cond) (a1 : Addr) (h0 : Heap) (n0 : Nat) (Z0 : n0 ≤ h0.size) :
    MetFree l (⟨"java/lang/Record", "<init>", "()V"⟩ : MethodName) (head1 (Jvm.Cond.code (⟨"java/lang/Record", "<init>", "()V"⟩ : MethodName) jdk_30_method_1_code 1 none :: ws) ({ frames := 1, cells := 0, slots := 0, locals := 12 } : Room)) (fun a U => a = #[(.ref a1)] ∧ Z.Warmed39 U.vm ∧ U.heap = h0) (fun _ _ _ _ _ => True) (fun _ U o U' => ∃ v L, o = .returned v ∧ Q3 Z a1 h0 n0 v U'.heap L ∧ FrameEnd U o U' L ({ frames := 1, cells := 0, slots := 0, locals := 12 } : Room).cells ({ frames := 1, cells := 0, slots := 0, locals := 12 } : Room).slots) := by
  refine MetFree.of_bodySF (plainFor_of_name pn_rm3) hisR ?_
  intro p e s m args below meth c s₁ Bd hml0 hP hK
  obtain ⟨rfl, hZ, hh⟩ := hP
  have hx := Bd.exec
  have hby := Bd.bytes
  have hml : c.maxLocals = 1 := hml0
  have hown : s.vm.findClass "java/lang/Record" = some m.cls := findClass_of_methodNamed Bd.named
  have hnm := (name_of_methodNamed Bd.named Bd.method).1
  have X0 : Stand p l e ({ frames := 1, cells := 0, slots := 0, locals := 12 } : Room) s m #[(.ref a1)] below meth c s₁ [] 0 0 := Stand.of_body Bd
  have e0 : s₁.heap = h0 := by rw [← hh, Bd.state]; rfl
  have N0 := Fr.nil n0
  have pre0 : ∀ t, Steps p.tables e below (s₁.setTop (mkF m 0 #[.val (.ref a1)] [])) t → Steps p.tables e below (s₁.setTop (entryFrame m #[(.ref a1)] 1)) t := fun t k => castTop (ef_rm3 m a1) k
  show own_Fin p e below _ _
  refine own_go pre0 ?_
  refine own_go (B := s₁.setTop (mkF m 1 #[.val (.ref a1)] [(.ref a1)])) (fun t k => ?_) ?_
  · show Steps p.tables e below (s₁.setTop (mkF m 0 #[.val (.ref a1)] [])) t
    refine XS.aloadN X0.here hx rfl (hb hby d3_0) rfl rfl ?_
    exact k
  obtain ⟨T1, X1, e1, st1⟩ := initO X0 hx hZ hown (hw _ (List.mem_of_getElem? (i := 23) rfl)) (hw _ (List.mem_of_getElem? (i := 24) rfl)) (hw _ (List.mem_of_getElem? (i := 25) rfl)) e0 (g := (mkF m 1 #[.val (.ref a1)] [(.ref a1)])) rfl (by rw [hml]; rfl) rfl (hb hby d3_1) (by decide) (W := 0) (by show 2 * 0 + _ ≤ _; exact Nat.le_of_eq rfl) (by decide)
  refine own_go (fun t k => st1 t k) ?_
  obtain ⟨fs, hr, hrun, hended, hW, hsame⟩ := X1.leave (v := none) (fun _ => rfl)
  refine ⟨_, _, ?_, hrun, hended, _, _, rfl, ?_, ⟨_, rfl⟩, hW, hsame.mono (by decide) (by decide)⟩
  · show Steps p.tables e below (T1.setTop (mkF m 4 #[.val (.ref a1)] [])) _
    exact X1.returnOut hx Bd.returns (hb hby d3_4) hr
  · show Q3 Z a1 h0 n0 _ T1.heap _
    rw [e1]
    exact ⟨rfl, N0, rfl⟩
theorem d5_0 : decode jdk_31_method_11_code 0 = .ok (.aload_n 0, 1) := by decide +kernel
theorem d5_1 : decode jdk_31_method_11_code 1 = .ok (.ifnonnull 12, 3) := by decide +kernel
theorem d5_13 : decode jdk_31_method_11_code 13 = .ok (.aload_n 0, 1) := by decide +kernel
theorem d5_14 : decode jdk_31_method_11_code 14 = .ok (.areturn, 1) := by decide +kernel
theorem pn_rm5 : plainName "java/util/Objects" = true := by first | (simp [plainName, overriddenIn]; done) | decide +kernel
theorem ef_rm5 (m : MethodId) (x0 : Addr) (x1 : Addr) : entryFrame m #[(.ref x0), (.ref x1)] 2 = mkF m 0 #[.val (.ref x0), .val (.ref x1)] [] := by first | (simp [entryFrame, mkF, argsToLocals, Value.category]; done) | rfl
def Q5 (Z : State) (a1 : Addr) (a2 : Addr) (h0 : Heap) (n0 : Nat) (v : Option Value) (h : Heap) (L : List Loc) : Prop := v = some (.ref a1) ∧ Fr n0 L ∧ h = h0
set_option maxRecDepth 65536 in
set_option maxHeartbeats 40000000 in
theorem rm5 (l : Launch) (Z : State) (a0 : Array Value) (hw : ∀ d ∈ tables_1, d.before a0 Z = true) (ws : List Jvm.Cond) (a1 : Addr) (a2 : Addr) (h0 : Heap) (n0 : Nat) (Z0 : n0 ≤ h0.size) :
    MetFree l (⟨"java/util/Objects", "requireNonNull", "(Ljava/lang/Object;Ljava/lang/String;)Ljava/lang/Object;"⟩ : MethodName) (head1 (Jvm.Cond.code (⟨"java/util/Objects", "requireNonNull", "(Ljava/lang/Object;Ljava/lang/String;)Ljava/lang/Object;"⟩ : MethodName) jdk_31_method_11_code 2 (some (.object "java/lang/Object")) :: ws) ({ frames := 0, cells := 0, slots := 0, locals := 0 } : Room)) (fun a U => a = #[(.ref a1), (.ref a2)] ∧ Z.Warmed39 U.vm ∧ U.heap = h0) (fun _ _ _ _ _ => True) (fun _ U o U' => ∃ v L, o = .returned v ∧ Q5 Z a1 a2 h0 n0 v U'.heap L ∧ FrameEnd U o U' L ({ frames := 0, cells := 0, slots := 0, locals := 0 } : Room).cells ({ frames := 0, cells := 0, slots := 0, locals := 0 } : Room).slots) := by
  refine MetFree.of_bodySF (plainFor_of_name pn_rm5) hisR ?_
  intro p e s m args below meth c s₁ Bd hml0 hP hK
  obtain ⟨rfl, hZ, hh⟩ := hP
  have hx := Bd.exec
  have hby := Bd.bytes
  have hml : c.maxLocals = 2 := hml0
  have hown : s.vm.findClass "java/util/Objects" = some m.cls := findClass_of_methodNamed Bd.named
  have hnm := (name_of_methodNamed Bd.named Bd.method).1
  have X0 : Stand p l e ({ frames := 0, cells := 0, slots := 0, locals := 0 } : Room) s m #[(.ref a1), (.ref a2)] below meth c s₁ [] 0 0 := Stand.of_body Bd
  have e0 : s₁.heap = h0 := by rw [← hh, Bd.state]; rfl
  have N0 := Fr.nil n0
  have pre0 : ∀ t, Steps p.tables e below (s₁.setTop (mkF m 0 #[.val (.ref a1), .val (.ref a2)] [])) t → Steps p.tables e below (s₁.setTop (entryFrame m #[(.ref a1), (.ref a2)] 2)) t := fun t k => castTop (ef_rm5 m a1 a2) k
  show own_Fin p e below _ _
  refine own_go pre0 ?_
  refine own_go (B := s₁.setTop (mkF m 14 #[.val (.ref a1), .val (.ref a2)] [(.ref a1)])) (fun t k => ?_) ?_
  · show Steps p.tables e below (s₁.setTop (mkF m 0 #[.val (.ref a1), .val (.ref a2)] [])) t
    refine XS.aloadN X0.here hx rfl (hb hby d5_0) rfl rfl ?_
    show Steps p.tables e below (s₁.setTop (mkF m 1 #[.val (.ref a1), .val (.ref a2)] [(.ref a1)])) t
    refine XS.ifnonnullYes X0.here hx rfl (pc0 := 1) (pc' := 13) rfl (hb hby d5_1) rfl (by decide) (by decide) ?_
    show Steps p.tables e below (s₁.setTop (mkF m 13 #[.val (.ref a1), .val (.ref a2)] [])) t
    refine XS.aloadN X0.here hx rfl (hb hby d5_13) rfl rfl ?_
    exact k
  obtain ⟨fs, hr, hrun, hended, hW, hsame⟩ := X0.leave (v := some (.ref a1)) (fun h => by rw [Bd.returns] at h; cases h)
  refine ⟨_, _, ?_, hrun, hended, _, _, rfl, ?_, ⟨_, rfl⟩, hW, hsame.mono (by decide) (by decide)⟩
  · show Steps p.tables e below (s₁.setTop (mkF m 14 #[.val (.ref a1), .val (.ref a2)] [(.ref a1)])) _
    jvm_step X0.here [X0.here.top, hx, (hb hby d5_14), X0.method', Bd.returns, Value.isRef, FieldType.isReference]
    first | (intro acts; rw [hr _ acts rfl rfl rfl]) | rw [hr _ _ rfl rfl rfl]
    exact Steps.refl _
  · show Q5 Z a1 a2 h0 n0 _ s₁.heap _
    rw [e0]
    exact ⟨rfl, N0, rfl⟩
theorem d2_0 : decode prog_161_method_1_code 0 = .ok (.aload_n 0, 1) := by decide +kernel
theorem d2_1 : decode prog_161_method_1_code 1 = .ok (.invokespecial 1, 3) := by decide +kernel
theorem d2_4 : decode prog_161_method_1_code 4 = .ok (.aload 7, 2) := by decide +kernel
theorem d2_6 : decode prog_161_method_1_code 6 = .ok (.ldc 7, 2) := by decide +kernel
theorem d2_8 : decode prog_161_method_1_code 8 = .ok (.invokestatic 9, 3) := by decide +kernel
theorem d2_11 : decode prog_161_method_1_code 11 = .ok (.pop, 1) := by decide +kernel
theorem d2_12 : decode prog_161_method_1_code 12 = .ok (.aload 8, 2) := by decide +kernel
theorem d2_14 : decode prog_161_method_1_code 14 = .ok (.ldc 15, 2) := by decide +kernel
theorem d2_16 : decode prog_161_method_1_code 16 = .ok (.invokestatic 9, 3) := by decide +kernel
theorem d2_19 : decode prog_161_method_1_code 19 = .ok (.pop, 1) := by decide +kernel
theorem d2_20 : decode prog_161_method_1_code 20 = .ok (.iload_n 1, 1) := by decide +kernel
theorem d2_21 : decode prog_161_method_1_code 21 = .ok (.iconst 1, 1) := by decide +kernel
theorem d2_22 : decode prog_161_method_1_code 22 = .ok (.if_icmp .lt 52, 3) := by decide +kernel
theorem d2_25 : decode prog_161_method_1_code 25 = .ok (.iload_n 2, 1) := by decide +kernel
theorem d2_26 : decode prog_161_method_1_code 26 = .ok (.ifCond .lt 48, 3) := by decide +kernel
theorem d2_29 : decode prog_161_method_1_code 29 = .ok (.iload_n 3, 1) := by decide +kernel
theorem d2_30 : decode prog_161_method_1_code 30 = .ok (.ifCond .lt 44, 3) := by decide +kernel
theorem d2_33 : decode prog_161_method_1_code 33 = .ok (.iload 4, 2) := by decide +kernel
theorem d2_35 : decode prog_161_method_1_code 35 = .ok (.ifCond .lt 39, 3) := by decide +kernel
theorem d2_38 : decode prog_161_method_1_code 38 = .ok (.iload 5, 2) := by decide +kernel
theorem d2_40 : decode prog_161_method_1_code 40 = .ok (.ifCond .lt 34, 3) := by decide +kernel
theorem d2_43 : decode prog_161_method_1_code 43 = .ok (.iload 6, 2) := by decide +kernel
theorem d2_45 : decode prog_161_method_1_code 45 = .ok (.ifCond .lt 29, 3) := by decide +kernel
theorem d2_48 : decode prog_161_method_1_code 48 = .ok (.iload_n 1, 1) := by decide +kernel
theorem d2_49 : decode prog_161_method_1_code 49 = .ok (.ldc 19, 2) := by decide +kernel
theorem d2_51 : decode prog_161_method_1_code 51 = .ok (.if_icmp .gt 23, 3) := by decide +kernel
theorem d2_54 : decode prog_161_method_1_code 54 = .ok (.iload_n 2, 1) := by decide +kernel
theorem d2_55 : decode prog_161_method_1_code 55 = .ok (.ldc 19, 2) := by decide +kernel
theorem d2_57 : decode prog_161_method_1_code 57 = .ok (.if_icmp .gt 17, 3) := by decide +kernel
theorem d2_60 : decode prog_161_method_1_code 60 = .ok (.iload 5, 2) := by decide +kernel
theorem d2_62 : decode prog_161_method_1_code 62 = .ok (.ldc 19, 2) := by decide +kernel
theorem d2_64 : decode prog_161_method_1_code 64 = .ok (.if_icmp .gt 10, 3) := by decide +kernel
theorem d2_67 : decode prog_161_method_1_code 67 = .ok (.iload 6, 2) := by decide +kernel
theorem d2_69 : decode prog_161_method_1_code 69 = .ok (.ldc 19, 2) := by decide +kernel
theorem d2_71 : decode prog_161_method_1_code 71 = .ok (.if_icmp .le 49, 3) := by decide +kernel
theorem d2_120 : decode prog_161_method_1_code 120 = .ok (.aload 7, 2) := by decide +kernel
theorem d2_122 : decode prog_161_method_1_code 122 = .ok (.getstatic 46, 3) := by decide +kernel
theorem d2_125 : decode prog_161_method_1_code 125 = .ok (.if_acmp .eq 23, 3) := by decide +kernel
theorem d2_148 : decode prog_161_method_1_code 148 = .ok (.aload_n 0, 1) := by decide +kernel
theorem d2_149 : decode prog_161_method_1_code 149 = .ok (.iload_n 1, 1) := by decide +kernel
theorem d2_150 : decode prog_161_method_1_code 150 = .ok (.putfield 54, 3) := by decide +kernel
theorem d2_153 : decode prog_161_method_1_code 153 = .ok (.aload_n 0, 1) := by decide +kernel
theorem d2_154 : decode prog_161_method_1_code 154 = .ok (.iload_n 2, 1) := by decide +kernel
theorem d2_155 : decode prog_161_method_1_code 155 = .ok (.putfield 58, 3) := by decide +kernel
theorem d2_158 : decode prog_161_method_1_code 158 = .ok (.aload_n 0, 1) := by decide +kernel
theorem d2_159 : decode prog_161_method_1_code 159 = .ok (.iload_n 3, 1) := by decide +kernel
theorem d2_160 : decode prog_161_method_1_code 160 = .ok (.putfield 61, 3) := by decide +kernel
theorem d2_163 : decode prog_161_method_1_code 163 = .ok (.aload_n 0, 1) := by decide +kernel
theorem d2_164 : decode prog_161_method_1_code 164 = .ok (.iload 4, 2) := by decide +kernel
theorem d2_166 : decode prog_161_method_1_code 166 = .ok (.putfield 64, 3) := by decide +kernel
theorem d2_169 : decode prog_161_method_1_code 169 = .ok (.aload_n 0, 1) := by decide +kernel
theorem d2_170 : decode prog_161_method_1_code 170 = .ok (.iload 5, 2) := by decide +kernel
theorem d2_172 : decode prog_161_method_1_code 172 = .ok (.putfield 67, 3) := by decide +kernel
theorem d2_175 : decode prog_161_method_1_code 175 = .ok (.aload_n 0, 1) := by decide +kernel
theorem d2_176 : decode prog_161_method_1_code 176 = .ok (.iload 6, 2) := by decide +kernel
theorem d2_178 : decode prog_161_method_1_code 178 = .ok (.putfield 70, 3) := by decide +kernel
theorem d2_181 : decode prog_161_method_1_code 181 = .ok (.aload_n 0, 1) := by decide +kernel
theorem d2_182 : decode prog_161_method_1_code 182 = .ok (.aload 7, 2) := by decide +kernel
theorem d2_184 : decode prog_161_method_1_code 184 = .ok (.putfield 73, 3) := by decide +kernel
theorem d2_187 : decode prog_161_method_1_code 187 = .ok (.aload_n 0, 1) := by decide +kernel
theorem d2_188 : decode prog_161_method_1_code 188 = .ok (.aload 8, 2) := by decide +kernel
theorem d2_190 : decode prog_161_method_1_code 190 = .ok (.putfield 76, 3) := by decide +kernel
theorem d2_193 : decode prog_161_method_1_code 193 = .ok (.return_, 1) := by decide +kernel
theorem pn_rm2 : plainName "com/example/xorlane/xorlane/sim/Workload" = true := by first | (simp [plainName, overriddenIn]; done) | decide +kernel
theorem pd_rm2_0 : parseMethodDescriptor "()V" = some ⟨[], none⟩ := by decide +kernel
theorem pd_rm2_1 : parseMethodDescriptor "(Ljava/lang/Object;Ljava/lang/String;)Ljava/lang/Object;" = some ⟨[(.object "java/lang/Object"), (.object "java/lang/String")], some (.object "java/lang/Object")⟩ := by decide +kernel
theorem ef_rm2 (m : MethodId) (x0 : Addr) (x1 : Int32) (x2 : Int32) (x3 : Int32) (x4 : Int32) (x5 : Int32) (x6 : Int32) (x7 : Addr) (x8 : Addr) : entryFrame m #[(.ref x0), (.int x1), (.int x2), (.int x3), (.int x4), (.int x5), (.int x6), (.ref x7), (.ref x8)] 9 = mkF m 0 #[.val (.ref x0), .val (.int x1), .val (.int x2), .val (.int x3), .val (.int x4), .val (.int x5), .val (.int x6), .val (.ref x7), .val (.ref x8)] [] := by first | (simp [entryFrame, mkF, argsToLocals, Value.category]; done) | rfl
def Q2 (Z : State) (a1 : Addr) (p2 : Int32) (p3 : Int32) (p4 : Int32) (p5 : Int32) (p6 : Int32) (p7 : Int32) (a8 : Addr) (a9 : Addr) (u0 : Value) (u1 : Value) (u2 : Value) (u3 : Value) (u4 : Value) (u5 : Value) (u6 : Value) (u7 : Value) (h0 : Heap) (n0 : Nat) (v : Option Value) (h : Heap) (L : List Loc) : Prop := v = none ∧ Fr n0 L ∧ Keep h0 h [a1] ∧ Exa Z h a1 "com/example/xorlane/xorlane/sim/Workload" ∧ Fld Z h a1 "com/example/xorlane/xorlane/sim/Workload" "keys" "I" (.int p3) ∧ Fld Z h a1 "com/example/xorlane/xorlane/sim/Workload" "values" "I" (.int p6) ∧ Fld Z h a1 "com/example/xorlane/xorlane/sim/Workload" "mutable" "I" (.int p7)
set_option maxRecDepth 65536 in
set_option maxHeartbeats 40000000 in
theorem rm2 (l : Launch) (Z : State) (a0 : Array Value) (hw : ∀ d ∈ tables_1, d.before a0 Z = true) (ws : List Jvm.Cond) (a1 : Addr) (p2 : Int32) (p3 : Int32) (p4 : Int32) (p5 : Int32) (p6 : Int32) (p7 : Int32) (a8 : Addr) (a9 : Addr) (u0 : Value) (u1 : Value) (u2 : Value) (u3 : Value) (u4 : Value) (u5 : Value) (u6 : Value) (u7 : Value) (h0 : Heap) (n0 : Nat) (Z0 : n0 ≤ h0.size) (E_a1 : Exa Z h0 a1 "com/example/xorlane/xorlane/sim/Workload") (F0 : Fld Z h0 a1 "com/example/xorlane/xorlane/sim/Workload" "lookups" "I" u0) (F1 : Fld Z h0 a1 "com/example/xorlane/xorlane/sim/Workload" "keys" "I" u1) (F2 : Fld Z h0 a1 "com/example/xorlane/xorlane/sim/Workload" "settleMinutes" "I" u2) (F3 : Fld Z h0 a1 "com/example/xorlane/xorlane/sim/Workload" "ageMinutes" "I" u3) (F4 : Fld Z h0 a1 "com/example/xorlane/xorlane/sim/Workload" "values" "I" u4) (F5 : Fld Z h0 a1 "com/example/xorlane/xorlane/sim/Workload" "mutable" "I" u5) (F6 : Fld Z h0 a1 "com/example/xorlane/xorlane/sim/Workload" "itemPuts" "Lcom/example/xorlane/xorlane/sim/ItemPuts;" u6) (F7 : Fld Z h0 a1 "com/example/xorlane/xorlane/sim/Workload" "failures" "Lcom/example/xorlane/xorlane/sim/Failures;" u7) (g_a1 : n0 ≤ a1) (c1 : ¬ p2 < (1 : Int32)) (c2 : ¬ p3 < (0 : Int32)) (c3 : ¬ p4 < (0 : Int32)) (c4 : ¬ p5 < (0 : Int32)) (c5 : ¬ p6 < (0 : Int32)) (c6 : ¬ p7 < (0 : Int32)) (c7 : ¬ (1000000 : Int32) < p2) (c8 : ¬ (1000000 : Int32) < p3) (c9 : ¬ (1000000 : Int32) < p6) (c10 : ¬ (1000000 : Int32) < p7) (SL : Sta Z h0 "com/example/xorlane/xorlane/sim/ItemPuts" "LAST" "Lcom/example/xorlane/xorlane/sim/ItemPuts;" (.ref a8)) :
    MetFree l (⟨"com/example/xorlane/xorlane/sim/Workload", "<init>", "(IIIIIILcom/example/xorlane/xorlane/sim/ItemPuts;Lcom/example/xorlane/xorlane/sim/Failures;)V"⟩ : MethodName) (head1 (Jvm.Cond.code (⟨"com/example/xorlane/xorlane/sim/Workload", "<init>", "(IIIIIILcom/example/xorlane/xorlane/sim/ItemPuts;Lcom/example/xorlane/xorlane/sim/Failures;)V"⟩ : MethodName) prog_161_method_1_code 9 none :: ws) ({ frames := 2, cells := 4, slots := 192, locals := 24 } : Room)) (fun a U => a = #[(.ref a1), (.int p2), (.int p3), (.int p4), (.int p5), (.int p6), (.int p7), (.ref a8), (.ref a9)] ∧ Z.Warmed39 U.vm ∧ U.heap = h0) (fun _ _ _ _ _ => True) (fun _ U o U' => ∃ v L, o = .returned v ∧ Q2 Z a1 p2 p3 p4 p5 p6 p7 a8 a9 u0 u1 u2 u3 u4 u5 u6 u7 h0 n0 v U'.heap L ∧ ReturnedEndW U o U' L ({ frames := 2, cells := 4, slots := 192, locals := 24 } : Room).cells ({ frames := 2, cells := 4, slots := 192, locals := 24 } : Room).slots) := by
  refine MetFree.of_bodySF (plainFor_of_name pn_rm2) hisR ?_
  intro p e s m args below meth c s₁ Bd hml0 hP hK
  obtain ⟨rfl, hZ, hh⟩ := hP
  have hx := Bd.exec
  have hby := Bd.bytes
  have hml : c.maxLocals = 9 := hml0
  have hown : s.vm.findClass "com/example/xorlane/xorlane/sim/Workload" = some m.cls := findClass_of_methodNamed Bd.named
  have hnm := (name_of_methodNamed Bd.named Bd.method).1
  have X0 : Stand p l e ({ frames := 2, cells := 4, slots := 192, locals := 24 } : Room) s m #[(.ref a1), (.int p2), (.int p3), (.int p4), (.int p5), (.int p6), (.int p7), (.ref a8), (.ref a9)] below meth c s₁ [] 0 0 := Stand.of_body Bd
  have e0 : s₁.heap = h0 := by rw [← hh, Bd.state]; rfl
  have N0 := Fr.nil n0
  have pre0 : ∀ t, Steps p.tables e below (s₁.setTop (mkF m 0 #[.val (.ref a1), .val (.int p2), .val (.int p3), .val (.int p4), .val (.int p5), .val (.int p6), .val (.int p7), .val (.ref a8), .val (.ref a9)] [])) t → Steps p.tables e below (s₁.setTop (entryFrame m #[(.ref a1), (.int p2), (.int p3), (.int p4), (.int p5), (.int p6), (.int p7), (.ref a8), (.ref a9)] 9)) t := fun t k => castTop (ef_rm2 m a1 p2 p3 p4 p5 p6 p7 a8 a9) k
  show own_Fin p e below _ _
  refine own_go pre0 ?_
  have own_wS := own_wS hw
  refine own_go (B := s₁.setTop (mkF m 1 #[.val (.ref a1), .val (.int p2), .val (.int p3), .val (.int p4), .val (.int p5), .val (.int p6), .val (.int p7), .val (.ref a8), .val (.ref a9)] [(.ref a1)])) (fun t k => ?_) ?_
  · show Steps p.tables e below (s₁.setTop (mkF m 0 #[.val (.ref a1), .val (.int p2), .val (.int p3), .val (.int p4), .val (.int p5), .val (.int p6), .val (.int p7), .val (.ref a8), .val (.ref a9)] [])) t
    refine XS.aloadN X0.here hx rfl (hb hby d2_0) rfl rfl ?_
    exact k
  obtain ⟨_, _, ⟨T1, L1, k1, n1⟩, -, X1, ⟨Lc1, hQ1, l1, y1, z1⟩, st1⟩ := X0.specialBack hx (y := (⟨"java/lang/Record", "<init>", "()V"⟩ : MethodName)) rfl hown (mvT hZ (hw _ (List.mem_of_getElem? (i := 18) rfl))) (mvT hZ (hw _ (List.mem_of_getElem? (i := 19) rfl))) (mvT hZ (hw _ (List.mem_of_getElem? (i := 22) rfl))) (by decide) (backOf (W := 0) (rm3 l Z a0 hw [] a1 h0 n0 Z0) hZ (hw _ (List.mem_of_getElem? (i := 22) rfl)) (hw _ (List.mem_of_getElem? (i := 21) rfl)) (by decide) (by decide)) (g := (mkF m 1 #[.val (.ref a1), .val (.int p2), .val (.int p3), .val (.int p4), .val (.int p5), .val (.int p6), .val (.int p7), .val (.ref a8), .val (.ref a9)] [(.ref a1)])) rfl (by rw [hml]; rfl) (Steps.refl _) (a := a1) (argsL := []) (rest := []) (lenOf pd_rm2_0 rfl) rfl (by show 2 * 0 + _ ≤ _; exact Nat.le_of_eq rfl) (hb hby d2_1) (fun _ _ => ⟨rfl, e0, (by decide : 0 + 0 ≤ _), (by decide : 0 + 0 ≤ _)⟩)
  dsimp only [Pt.U, Pt.locs, Pt.cells, Pt.slots] at X1 l1 y1 z1 st1 hQ1
  subst l1 y1 z1
  obtain ⟨rfl, N1q, hh1⟩ := hQ1
  have N1 := Fr.app N0 N1q
  refine own_go (fun t k => st1.trans k) ?_
  refine own_go (B := T1.setTop (mkF m 6 #[.val (.ref a1), .val (.int p2), .val (.int p3), .val (.int p4), .val (.int p5), .val (.int p6), .val (.int p7), .val (.ref a8), .val (.ref a9)] [(.ref a8)])) (fun t k => ?_) ?_
  · show Steps p.tables e below (T1.setTop (mkF m 4 #[.val (.ref a1), .val (.int p2), .val (.int p3), .val (.int p4), .val (.int p5), .val (.int p6), .val (.int p7), .val (.ref a8), .val (.ref a9)] [])) t
    refine XS.aload X1.here hx rfl (hb hby d2_4) rfl rfl ?_
    exact k
  have hS0_2 : s.Since s.vm 0 := State.WarmedH.since (State.WarmedH.refl s) 0
  obtain ⟨sa2, T2, h2, kk2, X2, e2, E2, hS2, hk2, hZ2, hown2, st2⟩ := ldcS (s := s) (vm0 := s.vm) X1 hx hZ hown (hw _ (List.mem_of_getElem? (i := 26) rfl)) own_wS hh1 hS0_2 (Nat.zero_le _) (g := (mkF m 6 #[.val (.ref a1), .val (.int p2), .val (.int p3), .val (.int p4), .val (.int p5), .val (.int p6), .val (.int p7), .val (.ref a8), .val (.ref a9)] [(.ref a8)])) rfl (hb hby d2_6) (n := 92) (by decide) (by decide) (by decide) (by decide)
  refine own_go (fun t k => st2 t k) ?_
  have K2 : Keep h0 h2 [a1] := (Keep.refl h0 [a1]).ext E2
  have f2_0 := E_a1.ext E2
  have f2_1 := F0.ext E2
  have f2_2 := F1.ext E2
  have f2_3 := F2.ext E2
  have f2_4 := F3.ext E2
  have f2_5 := F4.ext E2
  have f2_6 := F5.ext E2
  have f2_7 := F6.ext E2
  have f2_8 := F7.ext E2
  have f2_9 := SL.ext E2
  obtain ⟨_, _, ⟨T3, L3, k3, n3⟩, -, X3, ⟨Lc3, hQ3, l3, y3, z3⟩, st3⟩ := Jvm.LawKit.callS X2 hx (y := (⟨"java/util/Objects", "requireNonNull", "(Ljava/lang/Object;Ljava/lang/String;)Ljava/lang/Object;"⟩ : MethodName)) hown2 (mvT hZ2 (hw _ (List.mem_of_getElem? (i := 34) rfl))) (mvT hZ2 (hw _ (List.mem_of_getElem? (i := 35) rfl))) (mvT hZ2 (hw _ (List.mem_of_getElem? (i := 36) rfl))) (mvT hZ2 (hw _ (List.mem_of_getElem? (i := 37) rfl))) (by decide) (backOf (W := 0) (rm5 l Z a0 hw [] a8 sa2 h2 n0 (Nat.le_trans Z0 E2.1)) hZ2 (hw _ (List.mem_of_getElem? (i := 37) rfl)) (hw _ (List.mem_of_getElem? (i := 36) rfl)) (by decide) (by decide)) (g := (mkF m 8 #[.val (.ref a1), .val (.int p2), .val (.int p3), .val (.int p4), .val (.int p5), .val (.int p6), .val (.int p7), .val (.ref a8), .val (.ref a9)] [(.ref sa2), (.ref a8)])) rfl (by rw [hml]; rfl) (argsL := [(.ref a8), (.ref sa2)]) (rest := []) (lenOf pd_rm2_1 rfl) rfl (by show 2 * 0 + _ ≤ _; exact Nat.le_of_eq rfl) (hb hby d2_8) (fun _ _ => ⟨rfl, e2, (by decide : 2 + 0 ≤ _), (by decide : 96 + 0 ≤ _)⟩)
  dsimp only [Pt.U, Pt.locs, Pt.cells, Pt.slots] at X3 l3 y3 z3 st3 hQ3
  subst l3 y3 z3
  obtain ⟨rfl, N3q, hh3⟩ := hQ3
  have N3 := Fr.app N1 N3q
  refine own_go (fun t k => st3 t k) ?_
  refine own_go (B := T3.setTop (mkF m 14 #[.val (.ref a1), .val (.int p2), .val (.int p3), .val (.int p4), .val (.int p5), .val (.int p6), .val (.int p7), .val (.ref a8), .val (.ref a9)] [(.ref a9)])) (fun t k => ?_) ?_
  · show Steps p.tables e below (T3.setTop (mkF m 11 #[.val (.ref a1), .val (.int p2), .val (.int p3), .val (.int p4), .val (.int p5), .val (.int p6), .val (.int p7), .val (.ref a8), .val (.ref a9)] [(.ref a8)])) t
    refine XS.pop X3.here hx rfl (hb hby d2_11) rfl rfl ?_
    show Steps p.tables e below (T3.setTop (mkF m 12 #[.val (.ref a1), .val (.int p2), .val (.int p3), .val (.int p4), .val (.int p5), .val (.int p6), .val (.int p7), .val (.ref a8), .val (.ref a9)] [])) t
    refine XS.aload X3.here hx rfl (hb hby d2_12) rfl rfl ?_
    exact k
  obtain ⟨sa4, T4, h4, kk4, X4, e4, E4, hS4, hk4, hZ4, hown4, st4⟩ := ldcS X3 hx hZ2 hown2 (hw _ (List.mem_of_getElem? (i := 38) rfl)) own_wS hh3 hS2 hk2 (g := (mkF m 14 #[.val (.ref a1), .val (.int p2), .val (.int p3), .val (.int p4), .val (.int p5), .val (.int p6), .val (.int p7), .val (.ref a8), .val (.ref a9)] [(.ref a9)])) rfl (hb hby d2_14) (n := 92) (by decide) (by decide) (by decide) (by decide)
  refine own_go (fun t k => st4 t k) ?_
  have K4 : Keep h0 h4 [a1] := K2.ext E4
  have f4_0 := f2_0.ext E4
  have f4_1 := f2_1.ext E4
  have f4_2 := f2_2.ext E4
  have f4_3 := f2_3.ext E4
  have f4_4 := f2_4.ext E4
  have f4_5 := f2_5.ext E4
  have f4_6 := f2_6.ext E4
  have f4_7 := f2_7.ext E4
  have f4_8 := f2_8.ext E4
  have f4_9 := f2_9.ext E4
  obtain ⟨_, _, ⟨T5, L5, k5, n5⟩, -, X5, ⟨Lc5, hQ5, l5, y5, z5⟩, st5⟩ := Jvm.LawKit.callS X4 hx (y := (⟨"java/util/Objects", "requireNonNull", "(Ljava/lang/Object;Ljava/lang/String;)Ljava/lang/Object;"⟩ : MethodName)) hown4 (mvT hZ4 (hw _ (List.mem_of_getElem? (i := 34) rfl))) (mvT hZ4 (hw _ (List.mem_of_getElem? (i := 35) rfl))) (mvT hZ4 (hw _ (List.mem_of_getElem? (i := 36) rfl))) (mvT hZ4 (hw _ (List.mem_of_getElem? (i := 37) rfl))) (by decide) (backOf (W := 0) (rm5 l Z a0 hw [] a9 sa4 h4 n0 (Nat.le_trans (Nat.le_trans Z0 E2.1) E4.1)) hZ4 (hw _ (List.mem_of_getElem? (i := 37) rfl)) (hw _ (List.mem_of_getElem? (i := 36) rfl)) (by decide) (by decide)) (g := (mkF m 16 #[.val (.ref a1), .val (.int p2), .val (.int p3), .val (.int p4), .val (.int p5), .val (.int p6), .val (.int p7), .val (.ref a8), .val (.ref a9)] [(.ref sa4), (.ref a9)])) rfl (by rw [hml]; rfl) (argsL := [(.ref a9), (.ref sa4)]) (rest := []) (lenOf pd_rm2_1 rfl) rfl (by show 2 * 0 + _ ≤ _; exact Nat.le_of_eq rfl) (hb hby d2_16) (fun _ _ => ⟨rfl, e4, (by decide : 4 + 0 ≤ _), (by decide : 192 + 0 ≤ _)⟩)
  dsimp only [Pt.U, Pt.locs, Pt.cells, Pt.slots] at X5 l5 y5 z5 st5 hQ5
  subst l5 y5 z5
  obtain ⟨rfl, N5q, hh5⟩ := hQ5
  have N5 := Fr.app N3 N5q
  refine own_go (fun t k => st5 t k) ?_
  refine own_go (B := T5.setTop (mkF m 122 #[.val (.ref a1), .val (.int p2), .val (.int p3), .val (.int p4), .val (.int p5), .val (.int p6), .val (.int p7), .val (.ref a8), .val (.ref a9)] [(.ref a8)])) (fun t k => ?_) ?_
  · show Steps p.tables e below (T5.setTop (mkF m 19 #[.val (.ref a1), .val (.int p2), .val (.int p3), .val (.int p4), .val (.int p5), .val (.int p6), .val (.int p7), .val (.ref a8), .val (.ref a9)] [(.ref a9)])) t
    refine XS.pop X5.here hx rfl (hb hby d2_19) rfl rfl ?_
    show Steps p.tables e below (T5.setTop (mkF m 20 #[.val (.ref a1), .val (.int p2), .val (.int p3), .val (.int p4), .val (.int p5), .val (.int p6), .val (.int p7), .val (.ref a8), .val (.ref a9)] [])) t
    refine XS.iloadN X5.here hx rfl (hb hby d2_20) rfl ?_
    show Steps p.tables e below (T5.setTop (mkF m 21 #[.val (.ref a1), .val (.int p2), .val (.int p3), .val (.int p4), .val (.int p5), .val (.int p6), .val (.int p7), .val (.ref a8), .val (.ref a9)] [(.int p2)])) t
    refine XS.iconst X5.here hx rfl (hb hby d2_21) ?_
    show Steps p.tables e below (T5.setTop (mkF m 22 #[.val (.ref a1), .val (.int p2), .val (.int p3), .val (.int p4), .val (.int p5), .val (.int p6), .val (.int p7), .val (.ref a8), .val (.ref a9)] [(.int (1 : Int32)), (.int p2)])) t
    refine XS.icmpNo X5.here hx rfl (hb hby d2_22) rfl (flt (c1 : ¬ (p2 < (1 : Int32)))).1 ?_
    show Steps p.tables e below (T5.setTop (mkF m 25 #[.val (.ref a1), .val (.int p2), .val (.int p3), .val (.int p4), .val (.int p5), .val (.int p6), .val (.int p7), .val (.ref a8), .val (.ref a9)] [])) t
    refine XS.iloadN X5.here hx rfl (hb hby d2_25) rfl ?_
    show Steps p.tables e below (T5.setTop (mkF m 26 #[.val (.ref a1), .val (.int p2), .val (.int p3), .val (.int p4), .val (.int p5), .val (.int p6), .val (.int p7), .val (.ref a8), .val (.ref a9)] [(.int p3)])) t
    refine XS.ifNo X5.here hx rfl (hb hby d2_26) rfl ((if0 _ _).trans (flt (c2 : ¬ (p3 < (0 : Int32)))).1) ?_
    show Steps p.tables e below (T5.setTop (mkF m 29 #[.val (.ref a1), .val (.int p2), .val (.int p3), .val (.int p4), .val (.int p5), .val (.int p6), .val (.int p7), .val (.ref a8), .val (.ref a9)] [])) t
    refine XS.iloadN X5.here hx rfl (hb hby d2_29) rfl ?_
    show Steps p.tables e below (T5.setTop (mkF m 30 #[.val (.ref a1), .val (.int p2), .val (.int p3), .val (.int p4), .val (.int p5), .val (.int p6), .val (.int p7), .val (.ref a8), .val (.ref a9)] [(.int p4)])) t
    refine XS.ifNo X5.here hx rfl (hb hby d2_30) rfl ((if0 _ _).trans (flt (c3 : ¬ (p4 < (0 : Int32)))).1) ?_
    show Steps p.tables e below (T5.setTop (mkF m 33 #[.val (.ref a1), .val (.int p2), .val (.int p3), .val (.int p4), .val (.int p5), .val (.int p6), .val (.int p7), .val (.ref a8), .val (.ref a9)] [])) t
    refine XS.iload X5.here hx rfl (hb hby d2_33) rfl ?_
    show Steps p.tables e below (T5.setTop (mkF m 35 #[.val (.ref a1), .val (.int p2), .val (.int p3), .val (.int p4), .val (.int p5), .val (.int p6), .val (.int p7), .val (.ref a8), .val (.ref a9)] [(.int p5)])) t
    refine XS.ifNo X5.here hx rfl (hb hby d2_35) rfl ((if0 _ _).trans (flt (c4 : ¬ (p5 < (0 : Int32)))).1) ?_
    show Steps p.tables e below (T5.setTop (mkF m 38 #[.val (.ref a1), .val (.int p2), .val (.int p3), .val (.int p4), .val (.int p5), .val (.int p6), .val (.int p7), .val (.ref a8), .val (.ref a9)] [])) t
    refine XS.iload X5.here hx rfl (hb hby d2_38) rfl ?_
    show Steps p.tables e below (T5.setTop (mkF m 40 #[.val (.ref a1), .val (.int p2), .val (.int p3), .val (.int p4), .val (.int p5), .val (.int p6), .val (.int p7), .val (.ref a8), .val (.ref a9)] [(.int p6)])) t
    refine XS.ifNo X5.here hx rfl (hb hby d2_40) rfl ((if0 _ _).trans (flt (c5 : ¬ (p6 < (0 : Int32)))).1) ?_
    show Steps p.tables e below (T5.setTop (mkF m 43 #[.val (.ref a1), .val (.int p2), .val (.int p3), .val (.int p4), .val (.int p5), .val (.int p6), .val (.int p7), .val (.ref a8), .val (.ref a9)] [])) t
    refine XS.iload X5.here hx rfl (hb hby d2_43) rfl ?_
    show Steps p.tables e below (T5.setTop (mkF m 45 #[.val (.ref a1), .val (.int p2), .val (.int p3), .val (.int p4), .val (.int p5), .val (.int p6), .val (.int p7), .val (.ref a8), .val (.ref a9)] [(.int p7)])) t
    refine XS.ifNo X5.here hx rfl (hb hby d2_45) rfl ((if0 _ _).trans (flt (c6 : ¬ (p7 < (0 : Int32)))).1) ?_
    show Steps p.tables e below (T5.setTop (mkF m 48 #[.val (.ref a1), .val (.int p2), .val (.int p3), .val (.int p4), .val (.int p5), .val (.int p6), .val (.int p7), .val (.ref a8), .val (.ref a9)] [])) t
    refine XS.iloadN X5.here hx rfl (hb hby d2_48) rfl ?_
    show Steps p.tables e below (T5.setTop (mkF m 49 #[.val (.ref a1), .val (.int p2), .val (.int p3), .val (.int p4), .val (.int p5), .val (.int p6), .val (.int p7), .val (.ref a8), .val (.ref a9)] [(.int p2)])) t
    refine X5.ldcInt hx hown4 (mvT hZ4 (hw _ (List.mem_of_getElem? (i := 39) rfl))) (g := (mkF m 49 #[.val (.ref a1), .val (.int p2), .val (.int p3), .val (.int p4), .val (.int p5), .val (.int p6), .val (.int p7), .val (.ref a8), .val (.ref a9)] [(.int p2)])) rfl (hb hby d2_49) _ ?_
    show Steps p.tables e below (T5.setTop (mkF m 51 #[.val (.ref a1), .val (.int p2), .val (.int p3), .val (.int p4), .val (.int p5), .val (.int p6), .val (.int p7), .val (.ref a8), .val (.ref a9)] [(.int (1000000 : Int32)), (.int p2)])) t
    refine XS.icmpNo X5.here hx rfl (hb hby d2_51) rfl (flt (c7 : ¬ ((1000000 : Int32) < p2))).2.2.1 ?_
    show Steps p.tables e below (T5.setTop (mkF m 54 #[.val (.ref a1), .val (.int p2), .val (.int p3), .val (.int p4), .val (.int p5), .val (.int p6), .val (.int p7), .val (.ref a8), .val (.ref a9)] [])) t
    refine XS.iloadN X5.here hx rfl (hb hby d2_54) rfl ?_
    show Steps p.tables e below (T5.setTop (mkF m 55 #[.val (.ref a1), .val (.int p2), .val (.int p3), .val (.int p4), .val (.int p5), .val (.int p6), .val (.int p7), .val (.ref a8), .val (.ref a9)] [(.int p3)])) t
    refine X5.ldcInt hx hown4 (mvT hZ4 (hw _ (List.mem_of_getElem? (i := 39) rfl))) (g := (mkF m 55 #[.val (.ref a1), .val (.int p2), .val (.int p3), .val (.int p4), .val (.int p5), .val (.int p6), .val (.int p7), .val (.ref a8), .val (.ref a9)] [(.int p3)])) rfl (hb hby d2_55) _ ?_
    show Steps p.tables e below (T5.setTop (mkF m 57 #[.val (.ref a1), .val (.int p2), .val (.int p3), .val (.int p4), .val (.int p5), .val (.int p6), .val (.int p7), .val (.ref a8), .val (.ref a9)] [(.int (1000000 : Int32)), (.int p3)])) t
    refine XS.icmpNo X5.here hx rfl (hb hby d2_57) rfl (flt (c8 : ¬ ((1000000 : Int32) < p3))).2.2.1 ?_
    show Steps p.tables e below (T5.setTop (mkF m 60 #[.val (.ref a1), .val (.int p2), .val (.int p3), .val (.int p4), .val (.int p5), .val (.int p6), .val (.int p7), .val (.ref a8), .val (.ref a9)] [])) t
    refine XS.iload X5.here hx rfl (hb hby d2_60) rfl ?_
    show Steps p.tables e below (T5.setTop (mkF m 62 #[.val (.ref a1), .val (.int p2), .val (.int p3), .val (.int p4), .val (.int p5), .val (.int p6), .val (.int p7), .val (.ref a8), .val (.ref a9)] [(.int p6)])) t
    refine X5.ldcInt hx hown4 (mvT hZ4 (hw _ (List.mem_of_getElem? (i := 39) rfl))) (g := (mkF m 62 #[.val (.ref a1), .val (.int p2), .val (.int p3), .val (.int p4), .val (.int p5), .val (.int p6), .val (.int p7), .val (.ref a8), .val (.ref a9)] [(.int p6)])) rfl (hb hby d2_62) _ ?_
    show Steps p.tables e below (T5.setTop (mkF m 64 #[.val (.ref a1), .val (.int p2), .val (.int p3), .val (.int p4), .val (.int p5), .val (.int p6), .val (.int p7), .val (.ref a8), .val (.ref a9)] [(.int (1000000 : Int32)), (.int p6)])) t
    refine XS.icmpNo X5.here hx rfl (hb hby d2_64) rfl (flt (c9 : ¬ ((1000000 : Int32) < p6))).2.2.1 ?_
    show Steps p.tables e below (T5.setTop (mkF m 67 #[.val (.ref a1), .val (.int p2), .val (.int p3), .val (.int p4), .val (.int p5), .val (.int p6), .val (.int p7), .val (.ref a8), .val (.ref a9)] [])) t
    refine XS.iload X5.here hx rfl (hb hby d2_67) rfl ?_
    show Steps p.tables e below (T5.setTop (mkF m 69 #[.val (.ref a1), .val (.int p2), .val (.int p3), .val (.int p4), .val (.int p5), .val (.int p6), .val (.int p7), .val (.ref a8), .val (.ref a9)] [(.int p7)])) t
    refine X5.ldcInt hx hown4 (mvT hZ4 (hw _ (List.mem_of_getElem? (i := 39) rfl))) (g := (mkF m 69 #[.val (.ref a1), .val (.int p2), .val (.int p3), .val (.int p4), .val (.int p5), .val (.int p6), .val (.int p7), .val (.ref a8), .val (.ref a9)] [(.int p7)])) rfl (hb hby d2_69) _ ?_
    show Steps p.tables e below (T5.setTop (mkF m 71 #[.val (.ref a1), .val (.int p2), .val (.int p3), .val (.int p4), .val (.int p5), .val (.int p6), .val (.int p7), .val (.ref a8), .val (.ref a9)] [(.int (1000000 : Int32)), (.int p7)])) t
    refine XS.icmpYes X5.here hx rfl (pc0 := 71) (pc' := 120) rfl (hb hby d2_71) rfl (flt (c10 : ¬ ((1000000 : Int32) < p7))).2.2.2 (by decide) (by decide) ?_
    show Steps p.tables e below (T5.setTop (mkF m 120 #[.val (.ref a1), .val (.int p2), .val (.int p3), .val (.int p4), .val (.int p5), .val (.int p6), .val (.int p7), .val (.ref a8), .val (.ref a9)] [])) t
    refine XS.aload X5.here hx rfl (hb hby d2_120) rfl rfl ?_
    exact k
  obtain ⟨T6, X6, e6, st6⟩ := getS2 X5 hx hZ4 hown4 (host := "") (Or.inl (hw _ (List.mem_of_getElem? (i := 9) rfl))) Via.refl hh5 f4_9 (g := (mkF m 122 #[.val (.ref a1), .val (.int p2), .val (.int p3), .val (.int p4), .val (.int p5), .val (.int p6), .val (.int p7), .val (.ref a8), .val (.ref a9)] [(.ref a8)])) rfl (hb hby d2_122)
  refine own_go (fun t k => st6 t k) ?_
  refine own_go (B := T6.setTop (mkF m 150 #[.val (.ref a1), .val (.int p2), .val (.int p3), .val (.int p4), .val (.int p5), .val (.int p6), .val (.int p7), .val (.ref a8), .val (.ref a9)] [(.int p2), (.ref a1)])) (fun t k => ?_) ?_
  · show Steps p.tables e below (T6.setTop (mkF m 125 #[.val (.ref a1), .val (.int p2), .val (.int p3), .val (.int p4), .val (.int p5), .val (.int p6), .val (.int p7), .val (.ref a8), .val (.ref a9)] [(.ref a8), (.ref a8)])) t
    refine Jvm.RoadKit.acmp (g := (mkF m 125 #[.val (.ref a1), .val (.int p2), .val (.int p3), .val (.int p4), .val (.int p5), .val (.int p6), .val (.int p7), .val (.ref a8), .val (.ref a9)] [(.ref a8), (.ref a8)])) X6 hx rfl rfl rfl (pc0 := 125) (pc' := 148) (same := true) rfl (hb hby d2_125) rfl (decide_eq_true rfl) (by decide) (by decide) ?_
    show Steps p.tables e below (T6.setTop (mkF m 148 #[.val (.ref a1), .val (.int p2), .val (.int p3), .val (.int p4), .val (.int p5), .val (.int p6), .val (.int p7), .val (.ref a8), .val (.ref a9)] [])) t
    refine XS.aloadN X6.here hx rfl (hb hby d2_148) rfl rfl ?_
    show Steps p.tables e below (T6.setTop (mkF m 149 #[.val (.ref a1), .val (.int p2), .val (.int p3), .val (.int p4), .val (.int p5), .val (.int p6), .val (.int p7), .val (.ref a8), .val (.ref a9)] [(.ref a1)])) t
    refine XS.iloadN X6.here hx rfl (hb hby d2_149) rfl ?_
    exact k
  obtain ⟨T7, h7, X7, e7, W7, st7⟩ := putF X6 hx hZ4 hown4 (host := "") (Or.inl (hw _ (List.mem_of_getElem? (i := 40) rfl))) Via.refl e6 f4_1 f4_0 (Or.inr ⟨(hw _ (List.mem_of_getElem? (i := 41) rfl)), rfl, hnm⟩) (hw _ (List.mem_of_getElem? (i := 4) rfl)) (ty := .int) (by decide) rfl rfl (g := (mkF m 150 #[.val (.ref a1), .val (.int p2), .val (.int p3), .val (.int p4), .val (.int p5), .val (.int p6), .val (.int p7), .val (.ref a8), .val (.ref a9)] [(.int p2), (.ref a1)])) rfl rfl (hb hby d2_150)
  refine own_go (fun t k => st7 t k) ?_
  have N7 := Fr.snoc X7 N5 g_a1
  have K7 : Keep h0 h7 [a1] := K4.wr W7 (Or.inl (List.mem_of_getElem? (i := 0) rfl))
  have f7_0 := f4_0.wr W7
  have f7_1 := f4_1.same W7
  have f7_2 := f4_2.other W7 (Or.inr (slot_ne (Or.inr (hw _ (List.mem_of_getElem? (i := 43) rfl))) (Or.inr (hw _ (List.mem_of_getElem? (i := 41) rfl))) (by decide) (t := .int) (t' := .int) (by decide) (by decide)))
  have f7_3 := f4_3.other W7 (Or.inr (slot_ne (Or.inr (hw _ (List.mem_of_getElem? (i := 45) rfl))) (Or.inr (hw _ (List.mem_of_getElem? (i := 41) rfl))) (by decide) (t := .int) (t' := .int) (by decide) (by decide)))
  have f7_4 := f4_4.other W7 (Or.inr (slot_ne (Or.inr (hw _ (List.mem_of_getElem? (i := 47) rfl))) (Or.inr (hw _ (List.mem_of_getElem? (i := 41) rfl))) (by decide) (t := .int) (t' := .int) (by decide) (by decide)))
  have f7_5 := f4_5.other W7 (Or.inr (slot_ne (Or.inr (hw _ (List.mem_of_getElem? (i := 49) rfl))) (Or.inr (hw _ (List.mem_of_getElem? (i := 41) rfl))) (by decide) (t := .int) (t' := .int) (by decide) (by decide)))
  have f7_6 := f4_6.other W7 (Or.inr (slot_ne (Or.inr (hw _ (List.mem_of_getElem? (i := 51) rfl))) (Or.inr (hw _ (List.mem_of_getElem? (i := 41) rfl))) (by decide) (t := .int) (t' := .int) (by decide) (by decide)))
  have f7_7 := f4_7.other W7 (Or.inr (slot_ne (Or.inr (hw _ (List.mem_of_getElem? (i := 53) rfl))) (Or.inr (hw _ (List.mem_of_getElem? (i := 41) rfl))) (by decide) (t := (.object "com/example/xorlane/xorlane/sim/ItemPuts")) (t' := .int) (by decide) (by decide)))
  have f7_8 := f4_8.other W7 (Or.inr (slot_ne (Or.inr (hw _ (List.mem_of_getElem? (i := 55) rfl))) (Or.inr (hw _ (List.mem_of_getElem? (i := 41) rfl))) (by decide) (t := (.object "com/example/xorlane/xorlane/sim/Failures")) (t' := .int) (by decide) (by decide)))
  have f7_9 := f4_9.wr W7
  refine own_go (B := T7.setTop (mkF m 155 #[.val (.ref a1), .val (.int p2), .val (.int p3), .val (.int p4), .val (.int p5), .val (.int p6), .val (.int p7), .val (.ref a8), .val (.ref a9)] [(.int p3), (.ref a1)])) (fun t k => ?_) ?_
  · show Steps p.tables e below (T7.setTop (mkF m 153 #[.val (.ref a1), .val (.int p2), .val (.int p3), .val (.int p4), .val (.int p5), .val (.int p6), .val (.int p7), .val (.ref a8), .val (.ref a9)] [])) t
    refine XS.aloadN X7.here hx rfl (hb hby d2_153) rfl rfl ?_
    show Steps p.tables e below (T7.setTop (mkF m 154 #[.val (.ref a1), .val (.int p2), .val (.int p3), .val (.int p4), .val (.int p5), .val (.int p6), .val (.int p7), .val (.ref a8), .val (.ref a9)] [(.ref a1)])) t
    refine XS.iloadN X7.here hx rfl (hb hby d2_154) rfl ?_
    exact k
  obtain ⟨T8, h8, X8, e8, W8, st8⟩ := putF X7 hx hZ4 hown4 (host := "") (Or.inl (hw _ (List.mem_of_getElem? (i := 42) rfl))) Via.refl e7 f7_2 f7_0 (Or.inr ⟨(hw _ (List.mem_of_getElem? (i := 43) rfl)), rfl, hnm⟩) (hw _ (List.mem_of_getElem? (i := 4) rfl)) (ty := .int) (by decide) rfl rfl (g := (mkF m 155 #[.val (.ref a1), .val (.int p2), .val (.int p3), .val (.int p4), .val (.int p5), .val (.int p6), .val (.int p7), .val (.ref a8), .val (.ref a9)] [(.int p3), (.ref a1)])) rfl rfl (hb hby d2_155)
  refine own_go (fun t k => st8 t k) ?_
  have N8 := Fr.snoc X8 N7 g_a1
  have K8 : Keep h0 h8 [a1] := K7.wr W8 (Or.inl (List.mem_of_getElem? (i := 0) rfl))
  have f8_0 := f7_0.wr W8
  have f8_1 := f7_1.other W8 (Or.inr (slot_ne (Or.inr (hw _ (List.mem_of_getElem? (i := 41) rfl))) (Or.inr (hw _ (List.mem_of_getElem? (i := 43) rfl))) (by decide) (t := .int) (t' := .int) (by decide) (by decide)))
  have f8_2 := f7_2.same W8
  have f8_3 := f7_3.other W8 (Or.inr (slot_ne (Or.inr (hw _ (List.mem_of_getElem? (i := 45) rfl))) (Or.inr (hw _ (List.mem_of_getElem? (i := 43) rfl))) (by decide) (t := .int) (t' := .int) (by decide) (by decide)))
  have f8_4 := f7_4.other W8 (Or.inr (slot_ne (Or.inr (hw _ (List.mem_of_getElem? (i := 47) rfl))) (Or.inr (hw _ (List.mem_of_getElem? (i := 43) rfl))) (by decide) (t := .int) (t' := .int) (by decide) (by decide)))
  have f8_5 := f7_5.other W8 (Or.inr (slot_ne (Or.inr (hw _ (List.mem_of_getElem? (i := 49) rfl))) (Or.inr (hw _ (List.mem_of_getElem? (i := 43) rfl))) (by decide) (t := .int) (t' := .int) (by decide) (by decide)))
  have f8_6 := f7_6.other W8 (Or.inr (slot_ne (Or.inr (hw _ (List.mem_of_getElem? (i := 51) rfl))) (Or.inr (hw _ (List.mem_of_getElem? (i := 43) rfl))) (by decide) (t := .int) (t' := .int) (by decide) (by decide)))
  have f8_7 := f7_7.other W8 (Or.inr (slot_ne (Or.inr (hw _ (List.mem_of_getElem? (i := 53) rfl))) (Or.inr (hw _ (List.mem_of_getElem? (i := 43) rfl))) (by decide) (t := (.object "com/example/xorlane/xorlane/sim/ItemPuts")) (t' := .int) (by decide) (by decide)))
  have f8_8 := f7_8.other W8 (Or.inr (slot_ne (Or.inr (hw _ (List.mem_of_getElem? (i := 55) rfl))) (Or.inr (hw _ (List.mem_of_getElem? (i := 43) rfl))) (by decide) (t := (.object "com/example/xorlane/xorlane/sim/Failures")) (t' := .int) (by decide) (by decide)))
  have f8_9 := f7_9.wr W8
  refine own_go (B := T8.setTop (mkF m 160 #[.val (.ref a1), .val (.int p2), .val (.int p3), .val (.int p4), .val (.int p5), .val (.int p6), .val (.int p7), .val (.ref a8), .val (.ref a9)] [(.int p4), (.ref a1)])) (fun t k => ?_) ?_
  · show Steps p.tables e below (T8.setTop (mkF m 158 #[.val (.ref a1), .val (.int p2), .val (.int p3), .val (.int p4), .val (.int p5), .val (.int p6), .val (.int p7), .val (.ref a8), .val (.ref a9)] [])) t
    refine XS.aloadN X8.here hx rfl (hb hby d2_158) rfl rfl ?_
    show Steps p.tables e below (T8.setTop (mkF m 159 #[.val (.ref a1), .val (.int p2), .val (.int p3), .val (.int p4), .val (.int p5), .val (.int p6), .val (.int p7), .val (.ref a8), .val (.ref a9)] [(.ref a1)])) t
    refine XS.iloadN X8.here hx rfl (hb hby d2_159) rfl ?_
    exact k
  obtain ⟨T9, h9, X9, e9, W9, st9⟩ := putF X8 hx hZ4 hown4 (host := "") (Or.inl (hw _ (List.mem_of_getElem? (i := 44) rfl))) Via.refl e8 f8_3 f8_0 (Or.inr ⟨(hw _ (List.mem_of_getElem? (i := 45) rfl)), rfl, hnm⟩) (hw _ (List.mem_of_getElem? (i := 4) rfl)) (ty := .int) (by decide) rfl rfl (g := (mkF m 160 #[.val (.ref a1), .val (.int p2), .val (.int p3), .val (.int p4), .val (.int p5), .val (.int p6), .val (.int p7), .val (.ref a8), .val (.ref a9)] [(.int p4), (.ref a1)])) rfl rfl (hb hby d2_160)
  refine own_go (fun t k => st9 t k) ?_
  have N9 := Fr.snoc X9 N8 g_a1
  have K9 : Keep h0 h9 [a1] := K8.wr W9 (Or.inl (List.mem_of_getElem? (i := 0) rfl))
  have f9_0 := f8_0.wr W9
  have f9_1 := f8_1.other W9 (Or.inr (slot_ne (Or.inr (hw _ (List.mem_of_getElem? (i := 41) rfl))) (Or.inr (hw _ (List.mem_of_getElem? (i := 45) rfl))) (by decide) (t := .int) (t' := .int) (by decide) (by decide)))
  have f9_2 := f8_2.other W9 (Or.inr (slot_ne (Or.inr (hw _ (List.mem_of_getElem? (i := 43) rfl))) (Or.inr (hw _ (List.mem_of_getElem? (i := 45) rfl))) (by decide) (t := .int) (t' := .int) (by decide) (by decide)))
  have f9_3 := f8_3.same W9
  have f9_4 := f8_4.other W9 (Or.inr (slot_ne (Or.inr (hw _ (List.mem_of_getElem? (i := 47) rfl))) (Or.inr (hw _ (List.mem_of_getElem? (i := 45) rfl))) (by decide) (t := .int) (t' := .int) (by decide) (by decide)))
  have f9_5 := f8_5.other W9 (Or.inr (slot_ne (Or.inr (hw _ (List.mem_of_getElem? (i := 49) rfl))) (Or.inr (hw _ (List.mem_of_getElem? (i := 45) rfl))) (by decide) (t := .int) (t' := .int) (by decide) (by decide)))
  have f9_6 := f8_6.other W9 (Or.inr (slot_ne (Or.inr (hw _ (List.mem_of_getElem? (i := 51) rfl))) (Or.inr (hw _ (List.mem_of_getElem? (i := 45) rfl))) (by decide) (t := .int) (t' := .int) (by decide) (by decide)))
  have f9_7 := f8_7.other W9 (Or.inr (slot_ne (Or.inr (hw _ (List.mem_of_getElem? (i := 53) rfl))) (Or.inr (hw _ (List.mem_of_getElem? (i := 45) rfl))) (by decide) (t := (.object "com/example/xorlane/xorlane/sim/ItemPuts")) (t' := .int) (by decide) (by decide)))
  have f9_8 := f8_8.other W9 (Or.inr (slot_ne (Or.inr (hw _ (List.mem_of_getElem? (i := 55) rfl))) (Or.inr (hw _ (List.mem_of_getElem? (i := 45) rfl))) (by decide) (t := (.object "com/example/xorlane/xorlane/sim/Failures")) (t' := .int) (by decide) (by decide)))
  have f9_9 := f8_9.wr W9
  refine own_go (B := T9.setTop (mkF m 166 #[.val (.ref a1), .val (.int p2), .val (.int p3), .val (.int p4), .val (.int p5), .val (.int p6), .val (.int p7), .val (.ref a8), .val (.ref a9)] [(.int p5), (.ref a1)])) (fun t k => ?_) ?_
  · show Steps p.tables e below (T9.setTop (mkF m 163 #[.val (.ref a1), .val (.int p2), .val (.int p3), .val (.int p4), .val (.int p5), .val (.int p6), .val (.int p7), .val (.ref a8), .val (.ref a9)] [])) t
    refine XS.aloadN X9.here hx rfl (hb hby d2_163) rfl rfl ?_
    show Steps p.tables e below (T9.setTop (mkF m 164 #[.val (.ref a1), .val (.int p2), .val (.int p3), .val (.int p4), .val (.int p5), .val (.int p6), .val (.int p7), .val (.ref a8), .val (.ref a9)] [(.ref a1)])) t
    refine XS.iload X9.here hx rfl (hb hby d2_164) rfl ?_
    exact k
  obtain ⟨T10, h10, X10, e10, W10, st10⟩ := putF X9 hx hZ4 hown4 (host := "") (Or.inl (hw _ (List.mem_of_getElem? (i := 46) rfl))) Via.refl e9 f9_4 f9_0 (Or.inr ⟨(hw _ (List.mem_of_getElem? (i := 47) rfl)), rfl, hnm⟩) (hw _ (List.mem_of_getElem? (i := 4) rfl)) (ty := .int) (by decide) rfl rfl (g := (mkF m 166 #[.val (.ref a1), .val (.int p2), .val (.int p3), .val (.int p4), .val (.int p5), .val (.int p6), .val (.int p7), .val (.ref a8), .val (.ref a9)] [(.int p5), (.ref a1)])) rfl rfl (hb hby d2_166)
  refine own_go (fun t k => st10 t k) ?_
  have N10 := Fr.snoc X10 N9 g_a1
  have K10 : Keep h0 h10 [a1] := K9.wr W10 (Or.inl (List.mem_of_getElem? (i := 0) rfl))
  have f10_0 := f9_0.wr W10
  have f10_1 := f9_1.other W10 (Or.inr (slot_ne (Or.inr (hw _ (List.mem_of_getElem? (i := 41) rfl))) (Or.inr (hw _ (List.mem_of_getElem? (i := 47) rfl))) (by decide) (t := .int) (t' := .int) (by decide) (by decide)))
  have f10_2 := f9_2.other W10 (Or.inr (slot_ne (Or.inr (hw _ (List.mem_of_getElem? (i := 43) rfl))) (Or.inr (hw _ (List.mem_of_getElem? (i := 47) rfl))) (by decide) (t := .int) (t' := .int) (by decide) (by decide)))
  have f10_3 := f9_3.other W10 (Or.inr (slot_ne (Or.inr (hw _ (List.mem_of_getElem? (i := 45) rfl))) (Or.inr (hw _ (List.mem_of_getElem? (i := 47) rfl))) (by decide) (t := .int) (t' := .int) (by decide) (by decide)))
  have f10_4 := f9_4.same W10
  have f10_5 := f9_5.other W10 (Or.inr (slot_ne (Or.inr (hw _ (List.mem_of_getElem? (i := 49) rfl))) (Or.inr (hw _ (List.mem_of_getElem? (i := 47) rfl))) (by decide) (t := .int) (t' := .int) (by decide) (by decide)))
  have f10_6 := f9_6.other W10 (Or.inr (slot_ne (Or.inr (hw _ (List.mem_of_getElem? (i := 51) rfl))) (Or.inr (hw _ (List.mem_of_getElem? (i := 47) rfl))) (by decide) (t := .int) (t' := .int) (by decide) (by decide)))
  have f10_7 := f9_7.other W10 (Or.inr (slot_ne (Or.inr (hw _ (List.mem_of_getElem? (i := 53) rfl))) (Or.inr (hw _ (List.mem_of_getElem? (i := 47) rfl))) (by decide) (t := (.object "com/example/xorlane/xorlane/sim/ItemPuts")) (t' := .int) (by decide) (by decide)))
  have f10_8 := f9_8.other W10 (Or.inr (slot_ne (Or.inr (hw _ (List.mem_of_getElem? (i := 55) rfl))) (Or.inr (hw _ (List.mem_of_getElem? (i := 47) rfl))) (by decide) (t := (.object "com/example/xorlane/xorlane/sim/Failures")) (t' := .int) (by decide) (by decide)))
  have f10_9 := f9_9.wr W10
  refine own_go (B := T10.setTop (mkF m 172 #[.val (.ref a1), .val (.int p2), .val (.int p3), .val (.int p4), .val (.int p5), .val (.int p6), .val (.int p7), .val (.ref a8), .val (.ref a9)] [(.int p6), (.ref a1)])) (fun t k => ?_) ?_
  · show Steps p.tables e below (T10.setTop (mkF m 169 #[.val (.ref a1), .val (.int p2), .val (.int p3), .val (.int p4), .val (.int p5), .val (.int p6), .val (.int p7), .val (.ref a8), .val (.ref a9)] [])) t
    refine XS.aloadN X10.here hx rfl (hb hby d2_169) rfl rfl ?_
    show Steps p.tables e below (T10.setTop (mkF m 170 #[.val (.ref a1), .val (.int p2), .val (.int p3), .val (.int p4), .val (.int p5), .val (.int p6), .val (.int p7), .val (.ref a8), .val (.ref a9)] [(.ref a1)])) t
    refine XS.iload X10.here hx rfl (hb hby d2_170) rfl ?_
    exact k
  obtain ⟨T11, h11, X11, e11, W11, st11⟩ := putF X10 hx hZ4 hown4 (host := "") (Or.inl (hw _ (List.mem_of_getElem? (i := 48) rfl))) Via.refl e10 f10_5 f10_0 (Or.inr ⟨(hw _ (List.mem_of_getElem? (i := 49) rfl)), rfl, hnm⟩) (hw _ (List.mem_of_getElem? (i := 4) rfl)) (ty := .int) (by decide) rfl rfl (g := (mkF m 172 #[.val (.ref a1), .val (.int p2), .val (.int p3), .val (.int p4), .val (.int p5), .val (.int p6), .val (.int p7), .val (.ref a8), .val (.ref a9)] [(.int p6), (.ref a1)])) rfl rfl (hb hby d2_172)
  refine own_go (fun t k => st11 t k) ?_
  have N11 := Fr.snoc X11 N10 g_a1
  have K11 : Keep h0 h11 [a1] := K10.wr W11 (Or.inl (List.mem_of_getElem? (i := 0) rfl))
  have f11_0 := f10_0.wr W11
  have f11_1 := f10_1.other W11 (Or.inr (slot_ne (Or.inr (hw _ (List.mem_of_getElem? (i := 41) rfl))) (Or.inr (hw _ (List.mem_of_getElem? (i := 49) rfl))) (by decide) (t := .int) (t' := .int) (by decide) (by decide)))
  have f11_2 := f10_2.other W11 (Or.inr (slot_ne (Or.inr (hw _ (List.mem_of_getElem? (i := 43) rfl))) (Or.inr (hw _ (List.mem_of_getElem? (i := 49) rfl))) (by decide) (t := .int) (t' := .int) (by decide) (by decide)))
  have f11_3 := f10_3.other W11 (Or.inr (slot_ne (Or.inr (hw _ (List.mem_of_getElem? (i := 45) rfl))) (Or.inr (hw _ (List.mem_of_getElem? (i := 49) rfl))) (by decide) (t := .int) (t' := .int) (by decide) (by decide)))
  have f11_4 := f10_4.other W11 (Or.inr (slot_ne (Or.inr (hw _ (List.mem_of_getElem? (i := 47) rfl))) (Or.inr (hw _ (List.mem_of_getElem? (i := 49) rfl))) (by decide) (t := .int) (t' := .int) (by decide) (by decide)))
  have f11_5 := f10_5.same W11
  have f11_6 := f10_6.other W11 (Or.inr (slot_ne (Or.inr (hw _ (List.mem_of_getElem? (i := 51) rfl))) (Or.inr (hw _ (List.mem_of_getElem? (i := 49) rfl))) (by decide) (t := .int) (t' := .int) (by decide) (by decide)))
  have f11_7 := f10_7.other W11 (Or.inr (slot_ne (Or.inr (hw _ (List.mem_of_getElem? (i := 53) rfl))) (Or.inr (hw _ (List.mem_of_getElem? (i := 49) rfl))) (by decide) (t := (.object "com/example/xorlane/xorlane/sim/ItemPuts")) (t' := .int) (by decide) (by decide)))
  have f11_8 := f10_8.other W11 (Or.inr (slot_ne (Or.inr (hw _ (List.mem_of_getElem? (i := 55) rfl))) (Or.inr (hw _ (List.mem_of_getElem? (i := 49) rfl))) (by decide) (t := (.object "com/example/xorlane/xorlane/sim/Failures")) (t' := .int) (by decide) (by decide)))
  have f11_9 := f10_9.wr W11
  refine own_go (B := T11.setTop (mkF m 178 #[.val (.ref a1), .val (.int p2), .val (.int p3), .val (.int p4), .val (.int p5), .val (.int p6), .val (.int p7), .val (.ref a8), .val (.ref a9)] [(.int p7), (.ref a1)])) (fun t k => ?_) ?_
  · show Steps p.tables e below (T11.setTop (mkF m 175 #[.val (.ref a1), .val (.int p2), .val (.int p3), .val (.int p4), .val (.int p5), .val (.int p6), .val (.int p7), .val (.ref a8), .val (.ref a9)] [])) t
    refine XS.aloadN X11.here hx rfl (hb hby d2_175) rfl rfl ?_
    show Steps p.tables e below (T11.setTop (mkF m 176 #[.val (.ref a1), .val (.int p2), .val (.int p3), .val (.int p4), .val (.int p5), .val (.int p6), .val (.int p7), .val (.ref a8), .val (.ref a9)] [(.ref a1)])) t
    refine XS.iload X11.here hx rfl (hb hby d2_176) rfl ?_
    exact k
  obtain ⟨T12, h12, X12, e12, W12, st12⟩ := putF X11 hx hZ4 hown4 (host := "") (Or.inl (hw _ (List.mem_of_getElem? (i := 50) rfl))) Via.refl e11 f11_6 f11_0 (Or.inr ⟨(hw _ (List.mem_of_getElem? (i := 51) rfl)), rfl, hnm⟩) (hw _ (List.mem_of_getElem? (i := 4) rfl)) (ty := .int) (by decide) rfl rfl (g := (mkF m 178 #[.val (.ref a1), .val (.int p2), .val (.int p3), .val (.int p4), .val (.int p5), .val (.int p6), .val (.int p7), .val (.ref a8), .val (.ref a9)] [(.int p7), (.ref a1)])) rfl rfl (hb hby d2_178)
  refine own_go (fun t k => st12 t k) ?_
  have N12 := Fr.snoc X12 N11 g_a1
  have K12 : Keep h0 h12 [a1] := K11.wr W12 (Or.inl (List.mem_of_getElem? (i := 0) rfl))
  have f12_0 := f11_0.wr W12
  have f12_1 := f11_1.other W12 (Or.inr (slot_ne (Or.inr (hw _ (List.mem_of_getElem? (i := 41) rfl))) (Or.inr (hw _ (List.mem_of_getElem? (i := 51) rfl))) (by decide) (t := .int) (t' := .int) (by decide) (by decide)))
  have f12_2 := f11_2.other W12 (Or.inr (slot_ne (Or.inr (hw _ (List.mem_of_getElem? (i := 43) rfl))) (Or.inr (hw _ (List.mem_of_getElem? (i := 51) rfl))) (by decide) (t := .int) (t' := .int) (by decide) (by decide)))
  have f12_3 := f11_3.other W12 (Or.inr (slot_ne (Or.inr (hw _ (List.mem_of_getElem? (i := 45) rfl))) (Or.inr (hw _ (List.mem_of_getElem? (i := 51) rfl))) (by decide) (t := .int) (t' := .int) (by decide) (by decide)))
  have f12_4 := f11_4.other W12 (Or.inr (slot_ne (Or.inr (hw _ (List.mem_of_getElem? (i := 47) rfl))) (Or.inr (hw _ (List.mem_of_getElem? (i := 51) rfl))) (by decide) (t := .int) (t' := .int) (by decide) (by decide)))
  have f12_5 := f11_5.other W12 (Or.inr (slot_ne (Or.inr (hw _ (List.mem_of_getElem? (i := 49) rfl))) (Or.inr (hw _ (List.mem_of_getElem? (i := 51) rfl))) (by decide) (t := .int) (t' := .int) (by decide) (by decide)))
  have f12_6 := f11_6.same W12
  have f12_7 := f11_7.other W12 (Or.inr (slot_ne (Or.inr (hw _ (List.mem_of_getElem? (i := 53) rfl))) (Or.inr (hw _ (List.mem_of_getElem? (i := 51) rfl))) (by decide) (t := (.object "com/example/xorlane/xorlane/sim/ItemPuts")) (t' := .int) (by decide) (by decide)))
  have f12_8 := f11_8.other W12 (Or.inr (slot_ne (Or.inr (hw _ (List.mem_of_getElem? (i := 55) rfl))) (Or.inr (hw _ (List.mem_of_getElem? (i := 51) rfl))) (by decide) (t := (.object "com/example/xorlane/xorlane/sim/Failures")) (t' := .int) (by decide) (by decide)))
  have f12_9 := f11_9.wr W12
  refine own_go (B := T12.setTop (mkF m 184 #[.val (.ref a1), .val (.int p2), .val (.int p3), .val (.int p4), .val (.int p5), .val (.int p6), .val (.int p7), .val (.ref a8), .val (.ref a9)] [(.ref a8), (.ref a1)])) (fun t k => ?_) ?_
  · show Steps p.tables e below (T12.setTop (mkF m 181 #[.val (.ref a1), .val (.int p2), .val (.int p3), .val (.int p4), .val (.int p5), .val (.int p6), .val (.int p7), .val (.ref a8), .val (.ref a9)] [])) t
    refine XS.aloadN X12.here hx rfl (hb hby d2_181) rfl rfl ?_
    show Steps p.tables e below (T12.setTop (mkF m 182 #[.val (.ref a1), .val (.int p2), .val (.int p3), .val (.int p4), .val (.int p5), .val (.int p6), .val (.int p7), .val (.ref a8), .val (.ref a9)] [(.ref a1)])) t
    refine XS.aload X12.here hx rfl (hb hby d2_182) rfl rfl ?_
    exact k
  obtain ⟨T13, h13, X13, e13, W13, st13⟩ := putF X12 hx hZ4 hown4 (host := "") (Or.inl (hw _ (List.mem_of_getElem? (i := 52) rfl))) Via.refl e12 f12_7 f12_0 (Or.inr ⟨(hw _ (List.mem_of_getElem? (i := 53) rfl)), rfl, hnm⟩) (hw _ (List.mem_of_getElem? (i := 4) rfl)) (ty := (.object "com/example/xorlane/xorlane/sim/ItemPuts")) (by decide) rfl rfl (g := (mkF m 184 #[.val (.ref a1), .val (.int p2), .val (.int p3), .val (.int p4), .val (.int p5), .val (.int p6), .val (.int p7), .val (.ref a8), .val (.ref a9)] [(.ref a8), (.ref a1)])) rfl rfl (hb hby d2_184)
  refine own_go (fun t k => st13 t k) ?_
  have N13 := Fr.snoc X13 N12 g_a1
  have K13 : Keep h0 h13 [a1] := K12.wr W13 (Or.inl (List.mem_of_getElem? (i := 0) rfl))
  have f13_0 := f12_0.wr W13
  have f13_1 := f12_1.other W13 (Or.inr (slot_ne (Or.inr (hw _ (List.mem_of_getElem? (i := 41) rfl))) (Or.inr (hw _ (List.mem_of_getElem? (i := 53) rfl))) (by decide) (t := .int) (t' := (.object "com/example/xorlane/xorlane/sim/ItemPuts")) (by decide) (by decide)))
  have f13_2 := f12_2.other W13 (Or.inr (slot_ne (Or.inr (hw _ (List.mem_of_getElem? (i := 43) rfl))) (Or.inr (hw _ (List.mem_of_getElem? (i := 53) rfl))) (by decide) (t := .int) (t' := (.object "com/example/xorlane/xorlane/sim/ItemPuts")) (by decide) (by decide)))
  have f13_3 := f12_3.other W13 (Or.inr (slot_ne (Or.inr (hw _ (List.mem_of_getElem? (i := 45) rfl))) (Or.inr (hw _ (List.mem_of_getElem? (i := 53) rfl))) (by decide) (t := .int) (t' := (.object "com/example/xorlane/xorlane/sim/ItemPuts")) (by decide) (by decide)))
  have f13_4 := f12_4.other W13 (Or.inr (slot_ne (Or.inr (hw _ (List.mem_of_getElem? (i := 47) rfl))) (Or.inr (hw _ (List.mem_of_getElem? (i := 53) rfl))) (by decide) (t := .int) (t' := (.object "com/example/xorlane/xorlane/sim/ItemPuts")) (by decide) (by decide)))
  have f13_5 := f12_5.other W13 (Or.inr (slot_ne (Or.inr (hw _ (List.mem_of_getElem? (i := 49) rfl))) (Or.inr (hw _ (List.mem_of_getElem? (i := 53) rfl))) (by decide) (t := .int) (t' := (.object "com/example/xorlane/xorlane/sim/ItemPuts")) (by decide) (by decide)))
  have f13_6 := f12_6.other W13 (Or.inr (slot_ne (Or.inr (hw _ (List.mem_of_getElem? (i := 51) rfl))) (Or.inr (hw _ (List.mem_of_getElem? (i := 53) rfl))) (by decide) (t := .int) (t' := (.object "com/example/xorlane/xorlane/sim/ItemPuts")) (by decide) (by decide)))
  have f13_7 := f12_7.same W13
  have f13_8 := f12_8.other W13 (Or.inr (slot_ne (Or.inr (hw _ (List.mem_of_getElem? (i := 55) rfl))) (Or.inr (hw _ (List.mem_of_getElem? (i := 53) rfl))) (by decide) (t := (.object "com/example/xorlane/xorlane/sim/Failures")) (t' := (.object "com/example/xorlane/xorlane/sim/ItemPuts")) (by decide) (by decide)))
  have f13_9 := f12_9.wr W13
  refine own_go (B := T13.setTop (mkF m 190 #[.val (.ref a1), .val (.int p2), .val (.int p3), .val (.int p4), .val (.int p5), .val (.int p6), .val (.int p7), .val (.ref a8), .val (.ref a9)] [(.ref a9), (.ref a1)])) (fun t k => ?_) ?_
  · show Steps p.tables e below (T13.setTop (mkF m 187 #[.val (.ref a1), .val (.int p2), .val (.int p3), .val (.int p4), .val (.int p5), .val (.int p6), .val (.int p7), .val (.ref a8), .val (.ref a9)] [])) t
    refine XS.aloadN X13.here hx rfl (hb hby d2_187) rfl rfl ?_
    show Steps p.tables e below (T13.setTop (mkF m 188 #[.val (.ref a1), .val (.int p2), .val (.int p3), .val (.int p4), .val (.int p5), .val (.int p6), .val (.int p7), .val (.ref a8), .val (.ref a9)] [(.ref a1)])) t
    refine XS.aload X13.here hx rfl (hb hby d2_188) rfl rfl ?_
    exact k
  obtain ⟨T14, h14, X14, e14, W14, st14⟩ := putF X13 hx hZ4 hown4 (host := "") (Or.inl (hw _ (List.mem_of_getElem? (i := 54) rfl))) Via.refl e13 f13_8 f13_0 (Or.inr ⟨(hw _ (List.mem_of_getElem? (i := 55) rfl)), rfl, hnm⟩) (hw _ (List.mem_of_getElem? (i := 4) rfl)) (ty := (.object "com/example/xorlane/xorlane/sim/Failures")) (by decide) rfl rfl (g := (mkF m 190 #[.val (.ref a1), .val (.int p2), .val (.int p3), .val (.int p4), .val (.int p5), .val (.int p6), .val (.int p7), .val (.ref a8), .val (.ref a9)] [(.ref a9), (.ref a1)])) rfl rfl (hb hby d2_190)
  refine own_go (fun t k => st14 t k) ?_
  have N14 := Fr.snoc X14 N13 g_a1
  have K14 : Keep h0 h14 [a1] := K13.wr W14 (Or.inl (List.mem_of_getElem? (i := 0) rfl))
  have f14_0 := f13_0.wr W14
  have f14_1 := f13_1.other W14 (Or.inr (slot_ne (Or.inr (hw _ (List.mem_of_getElem? (i := 41) rfl))) (Or.inr (hw _ (List.mem_of_getElem? (i := 55) rfl))) (by decide) (t := .int) (t' := (.object "com/example/xorlane/xorlane/sim/Failures")) (by decide) (by decide)))
  have f14_2 := f13_2.other W14 (Or.inr (slot_ne (Or.inr (hw _ (List.mem_of_getElem? (i := 43) rfl))) (Or.inr (hw _ (List.mem_of_getElem? (i := 55) rfl))) (by decide) (t := .int) (t' := (.object "com/example/xorlane/xorlane/sim/Failures")) (by decide) (by decide)))
  have f14_3 := f13_3.other W14 (Or.inr (slot_ne (Or.inr (hw _ (List.mem_of_getElem? (i := 45) rfl))) (Or.inr (hw _ (List.mem_of_getElem? (i := 55) rfl))) (by decide) (t := .int) (t' := (.object "com/example/xorlane/xorlane/sim/Failures")) (by decide) (by decide)))
  have f14_4 := f13_4.other W14 (Or.inr (slot_ne (Or.inr (hw _ (List.mem_of_getElem? (i := 47) rfl))) (Or.inr (hw _ (List.mem_of_getElem? (i := 55) rfl))) (by decide) (t := .int) (t' := (.object "com/example/xorlane/xorlane/sim/Failures")) (by decide) (by decide)))
  have f14_5 := f13_5.other W14 (Or.inr (slot_ne (Or.inr (hw _ (List.mem_of_getElem? (i := 49) rfl))) (Or.inr (hw _ (List.mem_of_getElem? (i := 55) rfl))) (by decide) (t := .int) (t' := (.object "com/example/xorlane/xorlane/sim/Failures")) (by decide) (by decide)))
  have f14_6 := f13_6.other W14 (Or.inr (slot_ne (Or.inr (hw _ (List.mem_of_getElem? (i := 51) rfl))) (Or.inr (hw _ (List.mem_of_getElem? (i := 55) rfl))) (by decide) (t := .int) (t' := (.object "com/example/xorlane/xorlane/sim/Failures")) (by decide) (by decide)))
  have f14_7 := f13_7.other W14 (Or.inr (slot_ne (Or.inr (hw _ (List.mem_of_getElem? (i := 53) rfl))) (Or.inr (hw _ (List.mem_of_getElem? (i := 55) rfl))) (by decide) (t := (.object "com/example/xorlane/xorlane/sim/ItemPuts")) (t' := (.object "com/example/xorlane/xorlane/sim/Failures")) (by decide) (by decide)))
  have f14_8 := f13_8.same W14
  have f14_9 := f13_9.wr W14
  obtain ⟨fs, hr, hrun, hended, hEnd⟩ := X14.leaveW hS4 (by rw [e14]; exact (Nat.le_trans (Nat.le_trans (Nat.le_trans (Nat.le_trans (Nat.le_trans (Nat.le_trans (Nat.le_trans (Nat.le_trans hk4 (Keep.of_wr W7).1) (Keep.of_wr W8).1) (Keep.of_wr W9).1) (Keep.of_wr W10).1) (Keep.of_wr W11).1) (Keep.of_wr W12).1) (Keep.of_wr W13).1) (Keep.of_wr W14).1)) (v := none) (fun _ => rfl)
  refine ⟨_, _, ?_, hrun, hended, _, _, rfl, ?_, hEnd.1, hEnd.2.1, hEnd.2.2.1, hEnd.2.2.2.mono (by decide) (by decide)⟩
  · show Steps p.tables e below (T14.setTop (mkF m 193 #[.val (.ref a1), .val (.int p2), .val (.int p3), .val (.int p4), .val (.int p5), .val (.int p6), .val (.int p7), .val (.ref a8), .val (.ref a9)] [])) _
    exact X14.returnOut hx Bd.returns (hb hby d2_193) hr
  · show Q2 Z a1 p2 p3 p4 p5 p6 p7 a8 a9 u0 u1 u2 u3 u4 u5 u6 u7 h0 n0 _ T14.heap _
    rw [e14]
    exact ⟨rfl, N14, K14, f14_0, f14_2, f14_5, f14_6⟩
theorem d1_0 : decode prog_161_method_3_code 0 = .ok (.aload_n 0, 1) := by decide +kernel
theorem d1_1 : decode prog_161_method_3_code 1 = .ok (.iload_n 1, 1) := by decide +kernel
theorem d1_2 : decode prog_161_method_3_code 2 = .ok (.iload_n 2, 1) := by decide +kernel
theorem d1_3 : decode prog_161_method_3_code 3 = .ok (.iload_n 3, 1) := by decide +kernel
theorem d1_4 : decode prog_161_method_3_code 4 = .ok (.iload 4, 2) := by decide +kernel
theorem d1_6 : decode prog_161_method_3_code 6 = .ok (.iload 5, 2) := by decide +kernel
theorem d1_8 : decode prog_161_method_3_code 8 = .ok (.iload 6, 2) := by decide +kernel
theorem d1_10 : decode prog_161_method_3_code 10 = .ok (.getstatic 46, 3) := by decide +kernel
theorem d1_13 : decode prog_161_method_3_code 13 = .ok (.getstatic 83, 3) := by decide +kernel
theorem d1_16 : decode prog_161_method_3_code 16 = .ok (.invokespecial 80, 3) := by decide +kernel
theorem d1_19 : decode prog_161_method_3_code 19 = .ok (.return_, 1) := by decide +kernel
theorem pn_rm1 : plainName "com/example/xorlane/xorlane/sim/Workload" = true := by first | (simp [plainName, overriddenIn]; done) | decide +kernel
theorem pd_rm1_0 : parseMethodDescriptor "(IIIIIILcom/example/xorlane/xorlane/sim/ItemPuts;Lcom/example/xorlane/xorlane/sim/Failures;)V" = some ⟨[.int, .int, .int, .int, .int, .int, (.object "com/example/xorlane/xorlane/sim/ItemPuts"), (.object "com/example/xorlane/xorlane/sim/Failures")], none⟩ := by decide +kernel
theorem ef_rm1 (m : MethodId) (x0 : Addr) (x1 : Int32) (x2 : Int32) (x3 : Int32) (x4 : Int32) (x5 : Int32) (x6 : Int32) : entryFrame m #[(.ref x0), (.int x1), (.int x2), (.int x3), (.int x4), (.int x5), (.int x6)] 7 = mkF m 0 #[.val (.ref x0), .val (.int x1), .val (.int x2), .val (.int x3), .val (.int x4), .val (.int x5), .val (.int x6)] [] := by first | (simp [entryFrame, mkF, argsToLocals, Value.category]; done) | rfl
def Q1 (Z : State) (a1 : Addr) (p2 : Int32) (p3 : Int32) (p4 : Int32) (p5 : Int32) (p6 : Int32) (p7 : Int32) (u0 : Value) (u1 : Value) (u2 : Value) (u3 : Value) (u4 : Value) (u5 : Value) (u6 : Value) (u7 : Value) (aL : Addr) (aN : Addr) (h0 : Heap) (n0 : Nat) (v : Option Value) (h : Heap) (L : List Loc) : Prop := v = none ∧ Fr n0 L ∧ Keep h0 h [a1] ∧ Exa Z h a1 "com/example/xorlane/xorlane/sim/Workload" ∧ Fld Z h a1 "com/example/xorlane/xorlane/sim/Workload" "keys" "I" (.int p3) ∧ Fld Z h a1 "com/example/xorlane/xorlane/sim/Workload" "values" "I" (.int p6) ∧ Fld Z h a1 "com/example/xorlane/xorlane/sim/Workload" "mutable" "I" (.int p7)
set_option maxRecDepth 65536 in
set_option maxHeartbeats 40000000 in
theorem rm1 (l : Launch) (Z : State) (a0 : Array Value) (hw : ∀ d ∈ tables_1, d.before a0 Z = true) (ws : List Jvm.Cond) (a1 : Addr) (p2 : Int32) (p3 : Int32) (p4 : Int32) (p5 : Int32) (p6 : Int32) (p7 : Int32) (u0 : Value) (u1 : Value) (u2 : Value) (u3 : Value) (u4 : Value) (u5 : Value) (u6 : Value) (u7 : Value) (aL : Addr) (aN : Addr) (h0 : Heap) (n0 : Nat) (Z0 : n0 ≤ h0.size) (E_a1 : Exa Z h0 a1 "com/example/xorlane/xorlane/sim/Workload") (F0 : Fld Z h0 a1 "com/example/xorlane/xorlane/sim/Workload" "lookups" "I" u0) (F1 : Fld Z h0 a1 "com/example/xorlane/xorlane/sim/Workload" "keys" "I" u1) (F2 : Fld Z h0 a1 "com/example/xorlane/xorlane/sim/Workload" "settleMinutes" "I" u2) (F3 : Fld Z h0 a1 "com/example/xorlane/xorlane/sim/Workload" "ageMinutes" "I" u3) (F4 : Fld Z h0 a1 "com/example/xorlane/xorlane/sim/Workload" "values" "I" u4) (F5 : Fld Z h0 a1 "com/example/xorlane/xorlane/sim/Workload" "mutable" "I" u5) (F6 : Fld Z h0 a1 "com/example/xorlane/xorlane/sim/Workload" "itemPuts" "Lcom/example/xorlane/xorlane/sim/ItemPuts;" u6) (F7 : Fld Z h0 a1 "com/example/xorlane/xorlane/sim/Workload" "failures" "Lcom/example/xorlane/xorlane/sim/Failures;" u7) (g_a1 : n0 ≤ a1) (c1 : ¬ p2 < (1 : Int32)) (c2 : ¬ p3 < (0 : Int32)) (c3 : ¬ p4 < (0 : Int32)) (c4 : ¬ p5 < (0 : Int32)) (c5 : ¬ p6 < (0 : Int32)) (c6 : ¬ p7 < (0 : Int32)) (c7 : ¬ (1000000 : Int32) < p2) (c8 : ¬ (1000000 : Int32) < p3) (c9 : ¬ (1000000 : Int32) < p6) (c10 : ¬ (1000000 : Int32) < p7) (SL : Sta Z h0 "com/example/xorlane/xorlane/sim/ItemPuts" "LAST" "Lcom/example/xorlane/xorlane/sim/ItemPuts;" (.ref aL)) (SN : Sta Z h0 "com/example/xorlane/xorlane/sim/Failures" "NONE" "Lcom/example/xorlane/xorlane/sim/Failures;" (.ref aN)) :
    MetFree l (⟨"com/example/xorlane/xorlane/sim/Workload", "<init>", "(IIIIII)V"⟩ : MethodName) (head1 (Jvm.Cond.code (⟨"com/example/xorlane/xorlane/sim/Workload", "<init>", "(IIIIII)V"⟩ : MethodName) prog_161_method_3_code 7 none :: ws) ({ frames := 3, cells := 4, slots := 192, locals := 44 } : Room)) (fun a U => a = #[(.ref a1), (.int p2), (.int p3), (.int p4), (.int p5), (.int p6), (.int p7)] ∧ Z.Warmed39 U.vm ∧ U.heap = h0) (fun _ _ _ _ _ => True) (fun _ U o U' => ∃ v L, o = .returned v ∧ Q1 Z a1 p2 p3 p4 p5 p6 p7 u0 u1 u2 u3 u4 u5 u6 u7 aL aN h0 n0 v U'.heap L ∧ ReturnedEndW U o U' L ({ frames := 3, cells := 4, slots := 192, locals := 44 } : Room).cells ({ frames := 3, cells := 4, slots := 192, locals := 44 } : Room).slots) := by
  refine MetFree.of_bodySF (plainFor_of_name pn_rm1) hisR ?_
  intro p e s m args below meth c s₁ Bd hml0 hP hK
  obtain ⟨rfl, hZ, hh⟩ := hP
  have hx := Bd.exec
  have hby := Bd.bytes
  have hml : c.maxLocals = 7 := hml0
  have hown : s.vm.findClass "com/example/xorlane/xorlane/sim/Workload" = some m.cls := findClass_of_methodNamed Bd.named
  have hnm := (name_of_methodNamed Bd.named Bd.method).1
  have X0 : Stand p l e ({ frames := 3, cells := 4, slots := 192, locals := 44 } : Room) s m #[(.ref a1), (.int p2), (.int p3), (.int p4), (.int p5), (.int p6), (.int p7)] below meth c s₁ [] 0 0 := Stand.of_body Bd
  have e0 : s₁.heap = h0 := by rw [← hh, Bd.state]; rfl
  have N0 := Fr.nil n0
  have pre0 : ∀ t, Steps p.tables e below (s₁.setTop (mkF m 0 #[.val (.ref a1), .val (.int p2), .val (.int p3), .val (.int p4), .val (.int p5), .val (.int p6), .val (.int p7)] [])) t → Steps p.tables e below (s₁.setTop (entryFrame m #[(.ref a1), (.int p2), (.int p3), (.int p4), (.int p5), (.int p6), (.int p7)] 7)) t := fun t k => castTop (ef_rm1 m a1 p2 p3 p4 p5 p6 p7) k
  show own_Fin p e below _ _
  refine own_go pre0 ?_
  refine own_go (B := s₁.setTop (mkF m 10 #[.val (.ref a1), .val (.int p2), .val (.int p3), .val (.int p4), .val (.int p5), .val (.int p6), .val (.int p7)] [(.int p7), (.int p6), (.int p5), (.int p4), (.int p3), (.int p2), (.ref a1)])) (fun t k => ?_) ?_
  · show Steps p.tables e below (s₁.setTop (mkF m 0 #[.val (.ref a1), .val (.int p2), .val (.int p3), .val (.int p4), .val (.int p5), .val (.int p6), .val (.int p7)] [])) t
    refine XS.aloadN X0.here hx rfl (hb hby d1_0) rfl rfl ?_
    show Steps p.tables e below (s₁.setTop (mkF m 1 #[.val (.ref a1), .val (.int p2), .val (.int p3), .val (.int p4), .val (.int p5), .val (.int p6), .val (.int p7)] [(.ref a1)])) t
    refine XS.iloadN X0.here hx rfl (hb hby d1_1) rfl ?_
    show Steps p.tables e below (s₁.setTop (mkF m 2 #[.val (.ref a1), .val (.int p2), .val (.int p3), .val (.int p4), .val (.int p5), .val (.int p6), .val (.int p7)] [(.int p2), (.ref a1)])) t
    refine XS.iloadN X0.here hx rfl (hb hby d1_2) rfl ?_
    show Steps p.tables e below (s₁.setTop (mkF m 3 #[.val (.ref a1), .val (.int p2), .val (.int p3), .val (.int p4), .val (.int p5), .val (.int p6), .val (.int p7)] [(.int p3), (.int p2), (.ref a1)])) t
    refine XS.iloadN X0.here hx rfl (hb hby d1_3) rfl ?_
    show Steps p.tables e below (s₁.setTop (mkF m 4 #[.val (.ref a1), .val (.int p2), .val (.int p3), .val (.int p4), .val (.int p5), .val (.int p6), .val (.int p7)] [(.int p4), (.int p3), (.int p2), (.ref a1)])) t
    refine XS.iload X0.here hx rfl (hb hby d1_4) rfl ?_
    show Steps p.tables e below (s₁.setTop (mkF m 6 #[.val (.ref a1), .val (.int p2), .val (.int p3), .val (.int p4), .val (.int p5), .val (.int p6), .val (.int p7)] [(.int p5), (.int p4), (.int p3), (.int p2), (.ref a1)])) t
    refine XS.iload X0.here hx rfl (hb hby d1_6) rfl ?_
    show Steps p.tables e below (s₁.setTop (mkF m 8 #[.val (.ref a1), .val (.int p2), .val (.int p3), .val (.int p4), .val (.int p5), .val (.int p6), .val (.int p7)] [(.int p6), (.int p5), (.int p4), (.int p3), (.int p2), (.ref a1)])) t
    refine XS.iload X0.here hx rfl (hb hby d1_8) rfl ?_
    exact k
  obtain ⟨T1, X1, e1, st1⟩ := getS2 X0 hx hZ hown (host := "") (Or.inl (hw _ (List.mem_of_getElem? (i := 9) rfl))) Via.refl e0 SL (g := (mkF m 10 #[.val (.ref a1), .val (.int p2), .val (.int p3), .val (.int p4), .val (.int p5), .val (.int p6), .val (.int p7)] [(.int p7), (.int p6), (.int p5), (.int p4), (.int p3), (.int p2), (.ref a1)])) rfl (hb hby d1_10)
  refine own_go (fun t k => st1 t k) ?_
  obtain ⟨T2, X2, e2, st2⟩ := getS2 X1 hx hZ hown (host := "") (Or.inl (hw _ (List.mem_of_getElem? (i := 12) rfl))) Via.refl e1 SN (g := (mkF m 13 #[.val (.ref a1), .val (.int p2), .val (.int p3), .val (.int p4), .val (.int p5), .val (.int p6), .val (.int p7)] [(.ref aL), (.int p7), (.int p6), (.int p5), (.int p4), (.int p3), (.int p2), (.ref a1)])) rfl (hb hby d1_13)
  refine own_go (fun t k => st2 t k) ?_
  obtain ⟨_, _, ⟨T3, L3, k3, n3⟩, -, X3, hS3, hgr3, ⟨Lc3, hQ3, l3, y3, z3⟩, st3⟩ := X2.specialBackS hx (y := (⟨"com/example/xorlane/xorlane/sim/Workload", "<init>", "(IIIIIILcom/example/xorlane/xorlane/sim/ItemPuts;Lcom/example/xorlane/xorlane/sim/Failures;)V"⟩ : MethodName)) rfl hown (mvT hZ (hw _ (List.mem_of_getElem? (i := 15) rfl))) (mvT hZ (hw _ (List.mem_of_getElem? (i := 16) rfl))) (mvT hZ (hw _ (List.mem_of_getElem? (i := 17) rfl))) (by decide) (backOfS (W := 0) (rm2 l Z a0 hw [] a1 p2 p3 p4 p5 p6 p7 aL aN _ _ _ _ _ _ _ _ h0 n0 Z0 E_a1 F0 F1 F2 F3 F4 F5 F6 F7 g_a1 c1 c2 c3 c4 c5 c6 c7 c8 c9 c10 SL) hZ (hw _ (List.mem_of_getElem? (i := 17) rfl)) (hw _ (List.mem_of_getElem? (i := 5) rfl)) (by decide) (by decide)) (g := (mkF m 16 #[.val (.ref a1), .val (.int p2), .val (.int p3), .val (.int p4), .val (.int p5), .val (.int p6), .val (.int p7)] [(.ref aN), (.ref aL), (.int p7), (.int p6), (.int p5), (.int p4), (.int p3), (.int p2), (.ref a1)])) rfl (by rw [hml]; rfl) (Steps.refl _) (a := a1) (argsL := [(.int p2), (.int p3), (.int p4), (.int p5), (.int p6), (.int p7), (.ref aL), (.ref aN)]) (rest := []) (lenOf pd_rm1_0 rfl) rfl (by show 2 * 0 + _ ≤ _; exact Nat.le_of_eq rfl) (hb hby d1_16) (fun _ _ => ⟨rfl, e2, (by decide : 0 + 4 ≤ _), (by decide : 0 + 192 ≤ _)⟩)
  dsimp only [Pt.U, Pt.locs, Pt.cells, Pt.slots] at X3 l3 y3 z3 st3 hQ3 hS3 hgr3
  subst l3 y3 z3
  obtain ⟨rfl, N3q, K3, -, G0_3, G1_3, G2_3⟩ := hQ3
  have N3 := Fr.app N0 N3q
  refine own_go (fun t k => st3.trans k) ?_
  have hZ3 : Z.Warmed39 (s.setVm T3.vm).vm := State.Warmed39.trans hZ hS3.1
  have hown3 : (s.setVm T3.vm).vm.findClass "com/example/xorlane/xorlane/sim/Workload" = some m.cls := (hS3.1.alike.findClass _ _).trans hown
  have hSS3 := hS3
  have KK3 : Keep h0 T3.heap [a1] := (Keep.refl h0 [a1]).trans K3 (allS (Or.inl (List.mem_of_getElem? (i := 0) rfl)) all0)
  have f3_0 := E_a1.keep K3
  obtain ⟨fs, hr, hrun, hended, hEnd⟩ := X3.leaveW hSS3 (by rw [show T3.heap = T3.heap from rfl]; exact (Nat.le_refl _)) (v := none) (fun _ => rfl)
  refine ⟨_, _, ?_, hrun, hended, _, _, rfl, ?_, hEnd.1, hEnd.2.1, hEnd.2.2.1, hEnd.2.2.2.mono (by decide) (by decide)⟩
  · show Steps p.tables e below (T3.setTop (mkF m 19 #[.val (.ref a1), .val (.int p2), .val (.int p3), .val (.int p4), .val (.int p5), .val (.int p6), .val (.int p7)] [])) _
    exact X3.returnOut hx Bd.returns (hb hby d1_19) hr
  · show Q1 Z a1 p2 p3 p4 p5 p6 p7 u0 u1 u2 u3 u4 u5 u6 u7 aL aN h0 n0 _ T3.heap _
    exact ⟨rfl, N3, KK3, f3_0, G0_3, G1_3, G2_3⟩
theorem d6_0 : decode prog_161_method_4_code 0 = .ok (.aload_n 0, 1) := by decide +kernel
theorem d6_1 : decode prog_161_method_4_code 1 = .ok (.getfield 58, 3) := by decide +kernel
theorem d6_4 : decode prog_161_method_4_code 4 = .ok (.ifCond .gt 17, 3) := by decide +kernel
theorem d6_7 : decode prog_161_method_4_code 7 = .ok (.aload_n 0, 1) := by decide +kernel
theorem d6_8 : decode prog_161_method_4_code 8 = .ok (.getfield 67, 3) := by decide +kernel
theorem d6_11 : decode prog_161_method_4_code 11 = .ok (.ifCond .gt 10, 3) := by decide +kernel
theorem d6_14 : decode prog_161_method_4_code 14 = .ok (.aload_n 0, 1) := by decide +kernel
theorem d6_15 : decode prog_161_method_4_code 15 = .ok (.getfield 70, 3) := by decide +kernel
theorem d6_18 : decode prog_161_method_4_code 18 = .ok (.ifCond .le 7, 3) := by decide +kernel
theorem d6_21 : decode prog_161_method_4_code 21 = .ok (.iconst 1, 1) := by decide +kernel
theorem d6_22 : decode prog_161_method_4_code 22 = .ok (.goto 4, 3) := by decide +kernel
theorem d6_25 : decode prog_161_method_4_code 25 = .ok (.iconst 0, 1) := by decide +kernel
theorem d6_26 : decode prog_161_method_4_code 26 = .ok (.ireturn, 1) := by decide +kernel
theorem pn_rm6 : plainName "com/example/xorlane/xorlane/sim/Workload" = true := by first | (simp [plainName, overriddenIn]; done) | decide +kernel
theorem ef_rm6 (m : MethodId) (x0 : Addr) : entryFrame m #[(.ref x0)] 1 = mkF m 0 #[.val (.ref x0)] [] := by first | (simp [entryFrame, mkF, argsToLocals, Value.category]; done) | rfl
def Q6 (Z : State) (a1 : Addr) (x1 : Int32) (x2 : Int32) (x3 : Int32) (h0 : Heap) (n0 : Nat) (v : Option Value) (h : Heap) (L : List Loc) : Prop := ∃ r : Int32, v = some (.int r) ∧ Fr n0 L ∧ h = h0 ∧ r = (if (0 : Int32) < x1 then (1 : Int32) else (if (0 : Int32) < x2 then (1 : Int32) else (if (0 : Int32) < x3 then (1 : Int32) else (0 : Int32))))
set_option maxRecDepth 65536 in
set_option maxHeartbeats 40000000 in
theorem rm6 (l : Launch) (Z : State) (a0 : Array Value) (hw : ∀ d ∈ tables_1, d.before a0 Z = true) (ws : List Jvm.Cond) (a1 : Addr) (x1 : Int32) (x2 : Int32) (x3 : Int32) (h0 : Heap) (n0 : Nat) (Z0 : n0 ≤ h0.size) (F1 : Fld Z h0 a1 "com/example/xorlane/xorlane/sim/Workload" "keys" "I" (.int x1)) (F2 : Fld Z h0 a1 "com/example/xorlane/xorlane/sim/Workload" "values" "I" (.int x2)) (F3 : Fld Z h0 a1 "com/example/xorlane/xorlane/sim/Workload" "mutable" "I" (.int x3)) :
    MetFree l (⟨"com/example/xorlane/xorlane/sim/Workload", "stores", "()Z"⟩ : MethodName) (head1 (Jvm.Cond.code (⟨"com/example/xorlane/xorlane/sim/Workload", "stores", "()Z"⟩ : MethodName) prog_161_method_4_code 1 (some .boolean) :: ws) ({ frames := 0, cells := 0, slots := 0, locals := 0 } : Room)) (fun a U => a = #[(.ref a1)] ∧ Z.Warmed39 U.vm ∧ U.heap = h0) (fun _ _ _ _ _ => True) (fun _ U o U' => ∃ v L, o = .returned v ∧ Q6 Z a1 x1 x2 x3 h0 n0 v U'.heap L ∧ FrameEnd U o U' L ({ frames := 0, cells := 0, slots := 0, locals := 0 } : Room).cells ({ frames := 0, cells := 0, slots := 0, locals := 0 } : Room).slots) := by
  refine MetFree.of_bodySF (plainFor_of_name pn_rm6) hisR ?_
  intro p e s m args below meth c s₁ Bd hml0 hP hK
  obtain ⟨rfl, hZ, hh⟩ := hP
  have hx := Bd.exec
  have hby := Bd.bytes
  have hml : c.maxLocals = 1 := hml0
  have hown : s.vm.findClass "com/example/xorlane/xorlane/sim/Workload" = some m.cls := findClass_of_methodNamed Bd.named
  have hnm := (name_of_methodNamed Bd.named Bd.method).1
  have X0 : Stand p l e ({ frames := 0, cells := 0, slots := 0, locals := 0 } : Room) s m #[(.ref a1)] below meth c s₁ [] 0 0 := Stand.of_body Bd
  have e0 : s₁.heap = h0 := by rw [← hh, Bd.state]; rfl
  have N0 := Fr.nil n0
  have pre0 : ∀ t, Steps p.tables e below (s₁.setTop (mkF m 0 #[.val (.ref a1)] [])) t → Steps p.tables e below (s₁.setTop (entryFrame m #[(.ref a1)] 1)) t := fun t k => castTop (ef_rm6 m a1) k
  show own_Fin p e below _ _
  refine own_go pre0 ?_
  refine own_go (B := s₁.setTop (mkF m 1 #[.val (.ref a1)] [(.ref a1)])) (fun t k => ?_) ?_
  · show Steps p.tables e below (s₁.setTop (mkF m 0 #[.val (.ref a1)] [])) t
    refine XS.aloadN X0.here hx rfl (hb hby d6_0) rfl rfl ?_
    exact k
  obtain ⟨T1, X1, e1, st1⟩ := getF X0 hx hZ hown (host := "") (Or.inl (hw _ (List.mem_of_getElem? (i := 42) rfl))) Via.refl e0 F1 (g := (mkF m 1 #[.val (.ref a1)] [(.ref a1)])) rfl rfl (hb hby d6_1)
  refine own_go (fun t k => st1 t k) ?_
  by_cases hc4_2 : (0 : Int32) < x1
  · refine own_go (B := T1.setTop (mkF m 21 #[.val (.ref a1)] [])) (fun t k => ?_) ?_
    · show Steps p.tables e below (T1.setTop (mkF m 4 #[.val (.ref a1)] [(.int x1)])) t
      refine XS.ifYes X1.here hx rfl (pc0 := 4) (pc' := 21) rfl (hb hby d6_4) rfl ((if0 _ _).trans (tlt hc4_2).2.2.1) (by decide) (by decide) ?_
      exact k
    refine own_go (B := T1.setTop (mkF m 26 #[.val (.ref a1)] [(.int (1 : Int32))])) (fun t k => ?_) ?_
    · show Steps p.tables e below (T1.setTop (mkF m 21 #[.val (.ref a1)] [])) t
      refine XS.iconst X1.here hx rfl (hb hby d6_21) ?_
      show Steps p.tables e below (T1.setTop (mkF m 22 #[.val (.ref a1)] [(.int (1 : Int32))])) t
      refine XS.goto X1.here hx rfl (pc0 := 22) (pc' := 26) rfl (hb hby d6_22) (by decide) (by decide) ?_
      exact k
    obtain ⟨fs, hr, hrun, hended, hW, hsame⟩ := X1.leave (v := some (.int (1 : Int32))) (fun h => by rw [Bd.returns] at h; cases h)
    refine ⟨_, _, ?_, hrun, hended, _, _, rfl, ?_, ⟨_, rfl⟩, hW, hsame.mono (by decide) (by decide)⟩
    · show Steps p.tables e below (T1.setTop (mkF m 26 #[.val (.ref a1)] [(.int (1 : Int32))])) _
      exact retN X1 hx (t := .boolean) Bd.returns (by simp) (hb hby d6_26) hr
    · show Q6 Z a1 x1 x2 x3 h0 n0 _ T1.heap _
      rw [e1]
      exact ⟨_, rfl, N0, rfl, by rw [if_pos hc4_2]⟩
  · refine own_go (B := T1.setTop (mkF m 7 #[.val (.ref a1)] [])) (fun t k => ?_) ?_
    · show Steps p.tables e below (T1.setTop (mkF m 4 #[.val (.ref a1)] [(.int x1)])) t
      refine XS.ifNo X1.here hx rfl (hb hby d6_4) rfl ((if0 _ _).trans (flt hc4_2).2.2.1) ?_
      exact k
    refine own_go (B := T1.setTop (mkF m 8 #[.val (.ref a1)] [(.ref a1)])) (fun t k => ?_) ?_
    · show Steps p.tables e below (T1.setTop (mkF m 7 #[.val (.ref a1)] [])) t
      refine XS.aloadN X1.here hx rfl (hb hby d6_7) rfl rfl ?_
      exact k
    obtain ⟨T3, X3, e3, st3⟩ := getF X1 hx hZ hown (host := "") (Or.inl (hw _ (List.mem_of_getElem? (i := 48) rfl))) Via.refl e1 F2 (g := (mkF m 8 #[.val (.ref a1)] [(.ref a1)])) rfl rfl (hb hby d6_8)
    refine own_go (fun t k => st3 t k) ?_
    by_cases hc11_4 : (0 : Int32) < x2
    · refine own_go (B := T3.setTop (mkF m 21 #[.val (.ref a1)] [])) (fun t k => ?_) ?_
      · show Steps p.tables e below (T3.setTop (mkF m 11 #[.val (.ref a1)] [(.int x2)])) t
        refine XS.ifYes X3.here hx rfl (pc0 := 11) (pc' := 21) rfl (hb hby d6_11) rfl ((if0 _ _).trans (tlt hc11_4).2.2.1) (by decide) (by decide) ?_
        exact k
      refine own_go (B := T3.setTop (mkF m 26 #[.val (.ref a1)] [(.int (1 : Int32))])) (fun t k => ?_) ?_
      · show Steps p.tables e below (T3.setTop (mkF m 21 #[.val (.ref a1)] [])) t
        refine XS.iconst X3.here hx rfl (hb hby d6_21) ?_
        show Steps p.tables e below (T3.setTop (mkF m 22 #[.val (.ref a1)] [(.int (1 : Int32))])) t
        refine XS.goto X3.here hx rfl (pc0 := 22) (pc' := 26) rfl (hb hby d6_22) (by decide) (by decide) ?_
        exact k
      obtain ⟨fs, hr, hrun, hended, hW, hsame⟩ := X3.leave (v := some (.int (1 : Int32))) (fun h => by rw [Bd.returns] at h; cases h)
      refine ⟨_, _, ?_, hrun, hended, _, _, rfl, ?_, ⟨_, rfl⟩, hW, hsame.mono (by decide) (by decide)⟩
      · show Steps p.tables e below (T3.setTop (mkF m 26 #[.val (.ref a1)] [(.int (1 : Int32))])) _
        exact retN X3 hx (t := .boolean) Bd.returns (by simp) (hb hby d6_26) hr
      · show Q6 Z a1 x1 x2 x3 h0 n0 _ T3.heap _
        rw [e3]
        exact ⟨_, rfl, N0, rfl, by rw [if_neg hc4_2, if_pos hc11_4]⟩
    · refine own_go (B := T3.setTop (mkF m 14 #[.val (.ref a1)] [])) (fun t k => ?_) ?_
      · show Steps p.tables e below (T3.setTop (mkF m 11 #[.val (.ref a1)] [(.int x2)])) t
        refine XS.ifNo X3.here hx rfl (hb hby d6_11) rfl ((if0 _ _).trans (flt hc11_4).2.2.1) ?_
        exact k
      refine own_go (B := T3.setTop (mkF m 15 #[.val (.ref a1)] [(.ref a1)])) (fun t k => ?_) ?_
      · show Steps p.tables e below (T3.setTop (mkF m 14 #[.val (.ref a1)] [])) t
        refine XS.aloadN X3.here hx rfl (hb hby d6_14) rfl rfl ?_
        exact k
      obtain ⟨T5, X5, e5, st5⟩ := getF X3 hx hZ hown (host := "") (Or.inl (hw _ (List.mem_of_getElem? (i := 50) rfl))) Via.refl e3 F3 (g := (mkF m 15 #[.val (.ref a1)] [(.ref a1)])) rfl rfl (hb hby d6_15)
      refine own_go (fun t k => st5 t k) ?_
      by_cases hc18_6 : (0 : Int32) < x3
      · refine own_go (B := T5.setTop (mkF m 21 #[.val (.ref a1)] [])) (fun t k => ?_) ?_
        · show Steps p.tables e below (T5.setTop (mkF m 18 #[.val (.ref a1)] [(.int x3)])) t
          refine XS.ifNo X5.here hx rfl (hb hby d6_18) rfl ((if0 _ _).trans (tlt hc18_6).2.2.2) ?_
          exact k
        refine own_go (B := T5.setTop (mkF m 26 #[.val (.ref a1)] [(.int (1 : Int32))])) (fun t k => ?_) ?_
        · show Steps p.tables e below (T5.setTop (mkF m 21 #[.val (.ref a1)] [])) t
          refine XS.iconst X5.here hx rfl (hb hby d6_21) ?_
          show Steps p.tables e below (T5.setTop (mkF m 22 #[.val (.ref a1)] [(.int (1 : Int32))])) t
          refine XS.goto X5.here hx rfl (pc0 := 22) (pc' := 26) rfl (hb hby d6_22) (by decide) (by decide) ?_
          exact k
        obtain ⟨fs, hr, hrun, hended, hW, hsame⟩ := X5.leave (v := some (.int (1 : Int32))) (fun h => by rw [Bd.returns] at h; cases h)
        refine ⟨_, _, ?_, hrun, hended, _, _, rfl, ?_, ⟨_, rfl⟩, hW, hsame.mono (by decide) (by decide)⟩
        · show Steps p.tables e below (T5.setTop (mkF m 26 #[.val (.ref a1)] [(.int (1 : Int32))])) _
          exact retN X5 hx (t := .boolean) Bd.returns (by simp) (hb hby d6_26) hr
        · show Q6 Z a1 x1 x2 x3 h0 n0 _ T5.heap _
          rw [e5]
          exact ⟨_, rfl, N0, rfl, by rw [if_neg hc4_2, if_neg hc11_4, if_pos hc18_6]⟩
      · refine own_go (B := T5.setTop (mkF m 25 #[.val (.ref a1)] [])) (fun t k => ?_) ?_
        · show Steps p.tables e below (T5.setTop (mkF m 18 #[.val (.ref a1)] [(.int x3)])) t
          refine XS.ifYes X5.here hx rfl (pc0 := 18) (pc' := 25) rfl (hb hby d6_18) rfl ((if0 _ _).trans (flt hc18_6).2.2.2) (by decide) (by decide) ?_
          exact k
        refine own_go (B := T5.setTop (mkF m 26 #[.val (.ref a1)] [(.int (0 : Int32))])) (fun t k => ?_) ?_
        · show Steps p.tables e below (T5.setTop (mkF m 25 #[.val (.ref a1)] [])) t
          refine XS.iconst X5.here hx rfl (hb hby d6_25) ?_
          exact k
        obtain ⟨fs, hr, hrun, hended, hW, hsame⟩ := X5.leave (v := some (.int (0 : Int32))) (fun h => by rw [Bd.returns] at h; cases h)
        refine ⟨_, _, ?_, hrun, hended, _, _, rfl, ?_, ⟨_, rfl⟩, hW, hsame.mono (by decide) (by decide)⟩
        · show Steps p.tables e below (T5.setTop (mkF m 26 #[.val (.ref a1)] [(.int (0 : Int32))])) _
          exact retN X5 hx (t := .boolean) Bd.returns (by simp) (hb hby d6_26) hr
        · show Q6 Z a1 x1 x2 x3 h0 n0 _ T5.heap _
          rw [e5]
          exact ⟨_, rfl, N0, rfl, by rw [if_neg hc4_2, if_neg hc11_4, if_neg hc18_6]⟩
theorem pn_rm0 : plainName "com/example/xorlane/xorlane/sim/WorkloadStoresPinLaw" = true := by first | (simp [plainName, overriddenIn]; done) | decide +kernel
theorem pd_rm0_0 : parseMethodDescriptor "(IIIIII)V" = some ⟨[.int, .int, .int, .int, .int, .int], none⟩ := by decide +kernel
theorem pd_rm0_1 : parseMethodDescriptor "()Z" = some ⟨[], some .boolean⟩ := by decide +kernel
theorem ef_rm0 (m : MethodId) (x0 : Int32) (x1 : Int32) (x2 : Int32) (x3 : Int32) (x4 : Int32) (x5 : Int32) : entryFrame m #[(.int x0), (.int x1), (.int x2), (.int x3), (.int x4), (.int x5)] maxLocals = mkF m 0 #[.val (.int x0), .val (.int x1), .val (.int x2), .val (.int x3), .val (.int x4), .val (.int x5), .unset, .unset, .unset, .unset, .unset, .unset, .unset, .unset, .unset, .unset] [] := by first | (simp [entryFrame, mkF, argsToLocals, Value.category, maxLocals]; done) | rfl
def Q0 (Z : State) (p1 : Int32) (p2 : Int32) (p3 : Int32) (p4 : Int32) (p5 : Int32) (p6 : Int32) (aL : Addr) (aN : Addr) (h0 : Heap) (n0 : Nat) (v : Option Value) (h : Heap) (L : List Loc) : Prop := v = some (.int (1 : Int32)) ∧ Fr n0 L
set_option maxRecDepth 65536 in
set_option maxHeartbeats 40000000 in
theorem rm0 (l : Launch) (Z : State) (a0 : Array Value) (hw : ∀ d ∈ tables_1, d.before a0 Z = true) (ws : List Jvm.Cond) (p1 : Int32) (p2 : Int32) (p3 : Int32) (p4 : Int32) (p5 : Int32) (p6 : Int32) (aL : Addr) (aN : Addr) (h0 : Heap) (n0 : Nat) (Z0 : n0 ≤ h0.size) (SL : Sta Z h0 "com/example/xorlane/xorlane/sim/ItemPuts" "LAST" "Lcom/example/xorlane/xorlane/sim/ItemPuts;" (.ref aL)) (SN : Sta Z h0 "com/example/xorlane/xorlane/sim/Failures" "NONE" "Lcom/example/xorlane/xorlane/sim/Failures;" (.ref aN)) :
    MetFree l x (head1 (Jvm.Cond.code x code maxLocals ret :: ws) room_1) (fun a U => a = #[(.int p1), (.int p2), (.int p3), (.int p4), (.int p5), (.int p6)] ∧ Z.Warmed39 U.vm ∧ U.heap = h0) (fun _ _ _ _ _ => True) (fun _ U o U' => ∃ v L, o = .returned v ∧ Q0 Z p1 p2 p3 p4 p5 p6 aL aN h0 n0 v U'.heap L ∧ ReturnedEndW U o U' L room_1.cells room_1.slots) := by
  refine MetFree.of_bodySF (plainFor_of_name pn_rm0) hisR ?_
  intro p e s m args below meth c s₁ Bd hml0 hP hK
  obtain ⟨rfl, hZ, hh⟩ := hP
  have hx := Bd.exec
  have hby := Bd.bytes
  have hml : c.maxLocals = 16 := hml0
  have hown : s.vm.findClass "com/example/xorlane/xorlane/sim/WorkloadStoresPinLaw" = some m.cls := findClass_of_methodNamed Bd.named
  have hnm := (name_of_methodNamed Bd.named Bd.method).1
  have X0 : Stand p l e room_1 s m #[(.int p1), (.int p2), (.int p3), (.int p4), (.int p5), (.int p6)] below meth c s₁ [] 0 0 := Stand.of_body Bd
  have e0 : s₁.heap = h0 := by rw [← hh, Bd.state]; rfl
  have N0 := Fr.nil n0
  have pre0 : ∀ t, Steps p.tables e below (s₁.setTop (mkF m 0 #[.val (.int p1), .val (.int p2), .val (.int p3), .val (.int p4), .val (.int p5), .val (.int p6), .unset, .unset, .unset, .unset, .unset, .unset, .unset, .unset, .unset, .unset] [])) t → Steps p.tables e below (s₁.setTop (entryFrame m #[(.int p1), (.int p2), (.int p3), (.int p4), (.int p5), (.int p6)] maxLocals)) t := fun t k => castTop (ef_rm0 m p1 p2 p3 p4 p5 p6) k
  show own_Fin p e below _ _
  refine own_go pre0 ?_
  refine own_go (B := s₁.setTop (mkF m 11 #[.val (.int p1), .val (.int p2), .val (.int p3), .val (.int p4), .val (.int p5), .val (.int p6), .val (.int ((1 : Int32) + ((p1 &&& (2147483647 : Int32)) % (1000000 : Int32)))), .unset, .unset, .unset, .unset, .unset, .unset, .unset, .unset, .unset] [])) (fun t k => ?_) ?_
  · show Steps p.tables e below (s₁.setTop (mkF m 0 #[.val (.int p1), .val (.int p2), .val (.int p3), .val (.int p4), .val (.int p5), .val (.int p6), .unset, .unset, .unset, .unset, .unset, .unset, .unset, .unset, .unset, .unset] [])) t
    refine XS.iconst X0.here hx rfl (hb hby at_0) ?_
    show Steps p.tables e below (s₁.setTop (mkF m 1 #[.val (.int p1), .val (.int p2), .val (.int p3), .val (.int p4), .val (.int p5), .val (.int p6), .unset, .unset, .unset, .unset, .unset, .unset, .unset, .unset, .unset, .unset] [(.int (1 : Int32))])) t
    refine XS.iloadN X0.here hx rfl (hb hby at_1) rfl ?_
    show Steps p.tables e below (s₁.setTop (mkF m 2 #[.val (.int p1), .val (.int p2), .val (.int p3), .val (.int p4), .val (.int p5), .val (.int p6), .unset, .unset, .unset, .unset, .unset, .unset, .unset, .unset, .unset, .unset] [(.int p1), (.int (1 : Int32))])) t
    refine X0.ldcInt hx hown (mvT hZ (hw _ (List.mem_of_getElem? (i := 0) rfl))) (g := (mkF m 2 #[.val (.int p1), .val (.int p2), .val (.int p3), .val (.int p4), .val (.int p5), .val (.int p6), .unset, .unset, .unset, .unset, .unset, .unset, .unset, .unset, .unset, .unset] [(.int p1), (.int (1 : Int32))])) rfl (hb hby at_2) _ ?_
    show Steps p.tables e below (s₁.setTop (mkF m 4 #[.val (.int p1), .val (.int p2), .val (.int p3), .val (.int p4), .val (.int p5), .val (.int p6), .unset, .unset, .unset, .unset, .unset, .unset, .unset, .unset, .unset, .unset] [(.int (2147483647 : Int32)), (.int p1), (.int (1 : Int32))])) t
    refine XS.iand X0.here hx rfl (hb hby at_4) rfl ?_
    show Steps p.tables e below (s₁.setTop (mkF m 5 #[.val (.int p1), .val (.int p2), .val (.int p3), .val (.int p4), .val (.int p5), .val (.int p6), .unset, .unset, .unset, .unset, .unset, .unset, .unset, .unset, .unset, .unset] [(.int (p1 &&& (2147483647 : Int32))), (.int (1 : Int32))])) t
    refine X0.ldcInt hx hown (mvT hZ (hw _ (List.mem_of_getElem? (i := 1) rfl))) (g := (mkF m 5 #[.val (.int p1), .val (.int p2), .val (.int p3), .val (.int p4), .val (.int p5), .val (.int p6), .unset, .unset, .unset, .unset, .unset, .unset, .unset, .unset, .unset, .unset] [(.int (p1 &&& (2147483647 : Int32))), (.int (1 : Int32))])) rfl (hb hby at_5) _ ?_
    show Steps p.tables e below (s₁.setTop (mkF m 7 #[.val (.int p1), .val (.int p2), .val (.int p3), .val (.int p4), .val (.int p5), .val (.int p6), .unset, .unset, .unset, .unset, .unset, .unset, .unset, .unset, .unset, .unset] [(.int (1000000 : Int32)), (.int (p1 &&& (2147483647 : Int32))), (.int (1 : Int32))])) t
    refine iremM X0 hx rfl (hb hby at_7) rfl (by decide) ?_
    show Steps p.tables e below (s₁.setTop (mkF m 8 #[.val (.int p1), .val (.int p2), .val (.int p3), .val (.int p4), .val (.int p5), .val (.int p6), .unset, .unset, .unset, .unset, .unset, .unset, .unset, .unset, .unset, .unset] [(.int ((p1 &&& (2147483647 : Int32)) % (1000000 : Int32))), (.int (1 : Int32))])) t
    refine XS.iadd X0.here hx rfl (hb hby at_8) rfl ?_
    show Steps p.tables e below (s₁.setTop (mkF m 9 #[.val (.int p1), .val (.int p2), .val (.int p3), .val (.int p4), .val (.int p5), .val (.int p6), .unset, .unset, .unset, .unset, .unset, .unset, .unset, .unset, .unset, .unset] [(.int ((1 : Int32) + ((p1 &&& (2147483647 : Int32)) % (1000000 : Int32))))])) t
    refine XS.istore X0.here hx rfl (hb hby at_9) rfl (l' := #[.val (.int p1), .val (.int p2), .val (.int p3), .val (.int p4), .val (.int p5), .val (.int p6), .val (.int ((1 : Int32) + ((p1 &&& (2147483647 : Int32)) % (1000000 : Int32)))), .unset, .unset, .unset, .unset, .unset, .unset, .unset, .unset, .unset]) rfl ?_
    exact k
  obtain ⟨xl, hxl⟩ : ∃ z : Int32, z = ((1 : Int32) + ((p1 &&& (2147483647 : Int32)) % (1000000 : Int32))) := ⟨_, rfl⟩
  rw [← hxl]
  refine own_go (B := s₁.setTop (mkF m 15 #[.val (.int p1), .val (.int p2), .val (.int p3), .val (.int p4), .val (.int p5), .val (.int p6), .val (.int xl), .unset, .unset, .unset, .unset, .unset, .unset, .unset, .unset, .unset] [(.int (p6 &&& (1 : Int32)))])) (fun t k => ?_) ?_
  · show Steps p.tables e below (s₁.setTop (mkF m 11 #[.val (.int p1), .val (.int p2), .val (.int p3), .val (.int p4), .val (.int p5), .val (.int p6), .val (.int xl), .unset, .unset, .unset, .unset, .unset, .unset, .unset, .unset, .unset] [])) t
    refine XS.iload X0.here hx rfl (hb hby at_11) rfl ?_
    show Steps p.tables e below (s₁.setTop (mkF m 13 #[.val (.int p1), .val (.int p2), .val (.int p3), .val (.int p4), .val (.int p5), .val (.int p6), .val (.int xl), .unset, .unset, .unset, .unset, .unset, .unset, .unset, .unset, .unset] [(.int p6)])) t
    refine XS.iconst X0.here hx rfl (hb hby at_13) ?_
    show Steps p.tables e below (s₁.setTop (mkF m 14 #[.val (.int p1), .val (.int p2), .val (.int p3), .val (.int p4), .val (.int p5), .val (.int p6), .val (.int xl), .unset, .unset, .unset, .unset, .unset, .unset, .unset, .unset, .unset] [(.int (1 : Int32)), (.int p6)])) t
    refine XS.iand X0.here hx rfl (hb hby at_14) rfl ?_
    exact k
  obtain ⟨xk, hxk⟩ : ∃ z : Int32, z = (if (p6 &&& (1 : Int32)) = (0 : Int32) then ((p2 &&& (2147483647 : Int32)) % (1000001 : Int32)) else (0 : Int32)) := ⟨_, rfl⟩
  refine own_go (B := s₁.setTop (mkF m 29 #[.val (.int p1), .val (.int p2), .val (.int p3), .val (.int p4), .val (.int p5), .val (.int p6), .val (.int xl), .unset, .unset, .unset, .unset, .unset, .unset, .unset, .unset, .unset] [(.int xk)])) (fun t k => ?_) ?_
  · show Steps p.tables e below (s₁.setTop (mkF m 15 #[.val (.int p1), .val (.int p2), .val (.int p3), .val (.int p4), .val (.int p5), .val (.int p6), .val (.int xl), .unset, .unset, .unset, .unset, .unset, .unset, .unset, .unset, .unset] [(.int (p6 &&& (1 : Int32)))])) t
    by_cases hc15_1 : (p6 &&& (1 : Int32)) = (0 : Int32)
    · refine XS.ifYes X0.here hx rfl (pc0 := 15) (pc' := 22) rfl (hb hby at_15) rfl ((if0 _ _).trans (teq hc15_1).1) (by decide) (by decide) ?_
      show Steps p.tables e below (s₁.setTop (mkF m 22 #[.val (.int p1), .val (.int p2), .val (.int p3), .val (.int p4), .val (.int p5), .val (.int p6), .val (.int xl), .unset, .unset, .unset, .unset, .unset, .unset, .unset, .unset, .unset] [])) t
      refine XS.iloadN X0.here hx rfl (hb hby at_22) rfl ?_
      show Steps p.tables e below (s₁.setTop (mkF m 23 #[.val (.int p1), .val (.int p2), .val (.int p3), .val (.int p4), .val (.int p5), .val (.int p6), .val (.int xl), .unset, .unset, .unset, .unset, .unset, .unset, .unset, .unset, .unset] [(.int p2)])) t
      refine X0.ldcInt hx hown (mvT hZ (hw _ (List.mem_of_getElem? (i := 0) rfl))) (g := (mkF m 23 #[.val (.int p1), .val (.int p2), .val (.int p3), .val (.int p4), .val (.int p5), .val (.int p6), .val (.int xl), .unset, .unset, .unset, .unset, .unset, .unset, .unset, .unset, .unset] [(.int p2)])) rfl (hb hby at_23) _ ?_
      show Steps p.tables e below (s₁.setTop (mkF m 25 #[.val (.int p1), .val (.int p2), .val (.int p3), .val (.int p4), .val (.int p5), .val (.int p6), .val (.int xl), .unset, .unset, .unset, .unset, .unset, .unset, .unset, .unset, .unset] [(.int (2147483647 : Int32)), (.int p2)])) t
      refine XS.iand X0.here hx rfl (hb hby at_25) rfl ?_
      show Steps p.tables e below (s₁.setTop (mkF m 26 #[.val (.int p1), .val (.int p2), .val (.int p3), .val (.int p4), .val (.int p5), .val (.int p6), .val (.int xl), .unset, .unset, .unset, .unset, .unset, .unset, .unset, .unset, .unset] [(.int (p2 &&& (2147483647 : Int32)))])) t
      refine X0.ldcInt hx hown (mvT hZ (hw _ (List.mem_of_getElem? (i := 2) rfl))) (g := (mkF m 26 #[.val (.int p1), .val (.int p2), .val (.int p3), .val (.int p4), .val (.int p5), .val (.int p6), .val (.int xl), .unset, .unset, .unset, .unset, .unset, .unset, .unset, .unset, .unset] [(.int (p2 &&& (2147483647 : Int32)))])) rfl (hb hby at_26) _ ?_
      show Steps p.tables e below (s₁.setTop (mkF m 28 #[.val (.int p1), .val (.int p2), .val (.int p3), .val (.int p4), .val (.int p5), .val (.int p6), .val (.int xl), .unset, .unset, .unset, .unset, .unset, .unset, .unset, .unset, .unset] [(.int (1000001 : Int32)), (.int (p2 &&& (2147483647 : Int32)))])) t
      refine iremM X0 hx rfl (hb hby at_28) rfl (by decide) ?_
      rw [show xk = ((p2 &&& (2147483647 : Int32)) % (1000001 : Int32)) from (hxk.trans (if_pos hc15_1))] at k
      exact k
    · refine XS.ifNo X0.here hx rfl (hb hby at_15) rfl ((if0 _ _).trans (feq hc15_1).1) ?_
      show Steps p.tables e below (s₁.setTop (mkF m 18 #[.val (.int p1), .val (.int p2), .val (.int p3), .val (.int p4), .val (.int p5), .val (.int p6), .val (.int xl), .unset, .unset, .unset, .unset, .unset, .unset, .unset, .unset, .unset] [])) t
      refine XS.iconst X0.here hx rfl (hb hby at_18) ?_
      show Steps p.tables e below (s₁.setTop (mkF m 19 #[.val (.int p1), .val (.int p2), .val (.int p3), .val (.int p4), .val (.int p5), .val (.int p6), .val (.int xl), .unset, .unset, .unset, .unset, .unset, .unset, .unset, .unset, .unset] [(.int (0 : Int32))])) t
      refine XS.goto X0.here hx rfl (pc0 := 19) (pc' := 29) rfl (hb hby at_19) (by decide) (by decide) ?_
      rw [show xk = (0 : Int32) from (hxk.trans (if_neg hc15_1))] at k
      exact k
  refine own_go (B := s₁.setTop (mkF m 35 #[.val (.int p1), .val (.int p2), .val (.int p3), .val (.int p4), .val (.int p5), .val (.int p6), .val (.int xl), .val (.int xk), .unset, .unset, .unset, .unset, .unset, .unset, .unset, .unset] [(.int (p6 &&& (2 : Int32)))])) (fun t k => ?_) ?_
  · show Steps p.tables e below (s₁.setTop (mkF m 29 #[.val (.int p1), .val (.int p2), .val (.int p3), .val (.int p4), .val (.int p5), .val (.int p6), .val (.int xl), .unset, .unset, .unset, .unset, .unset, .unset, .unset, .unset, .unset] [(.int xk)])) t
    refine XS.istore X0.here hx rfl (hb hby at_29) rfl (l' := #[.val (.int p1), .val (.int p2), .val (.int p3), .val (.int p4), .val (.int p5), .val (.int p6), .val (.int xl), .val (.int xk), .unset, .unset, .unset, .unset, .unset, .unset, .unset, .unset]) rfl ?_
    show Steps p.tables e below (s₁.setTop (mkF m 31 #[.val (.int p1), .val (.int p2), .val (.int p3), .val (.int p4), .val (.int p5), .val (.int p6), .val (.int xl), .val (.int xk), .unset, .unset, .unset, .unset, .unset, .unset, .unset, .unset] [])) t
    refine XS.iload X0.here hx rfl (hb hby at_31) rfl ?_
    show Steps p.tables e below (s₁.setTop (mkF m 33 #[.val (.int p1), .val (.int p2), .val (.int p3), .val (.int p4), .val (.int p5), .val (.int p6), .val (.int xl), .val (.int xk), .unset, .unset, .unset, .unset, .unset, .unset, .unset, .unset] [(.int p6)])) t
    refine XS.iconst X0.here hx rfl (hb hby at_33) ?_
    show Steps p.tables e below (s₁.setTop (mkF m 34 #[.val (.int p1), .val (.int p2), .val (.int p3), .val (.int p4), .val (.int p5), .val (.int p6), .val (.int xl), .val (.int xk), .unset, .unset, .unset, .unset, .unset, .unset, .unset, .unset] [(.int (2 : Int32)), (.int p6)])) t
    refine XS.iand X0.here hx rfl (hb hby at_34) rfl ?_
    exact k
  obtain ⟨xv, hxv⟩ : ∃ z : Int32, z = (if (p6 &&& (2 : Int32)) = (0 : Int32) then ((p3 &&& (2147483647 : Int32)) % (1000001 : Int32)) else (0 : Int32)) := ⟨_, rfl⟩
  refine own_go (B := s₁.setTop (mkF m 49 #[.val (.int p1), .val (.int p2), .val (.int p3), .val (.int p4), .val (.int p5), .val (.int p6), .val (.int xl), .val (.int xk), .unset, .unset, .unset, .unset, .unset, .unset, .unset, .unset] [(.int xv)])) (fun t k => ?_) ?_
  · show Steps p.tables e below (s₁.setTop (mkF m 35 #[.val (.int p1), .val (.int p2), .val (.int p3), .val (.int p4), .val (.int p5), .val (.int p6), .val (.int xl), .val (.int xk), .unset, .unset, .unset, .unset, .unset, .unset, .unset, .unset] [(.int (p6 &&& (2 : Int32)))])) t
    by_cases hc35_2 : (p6 &&& (2 : Int32)) = (0 : Int32)
    · refine XS.ifYes X0.here hx rfl (pc0 := 35) (pc' := 42) rfl (hb hby at_35) rfl ((if0 _ _).trans (teq hc35_2).1) (by decide) (by decide) ?_
      show Steps p.tables e below (s₁.setTop (mkF m 42 #[.val (.int p1), .val (.int p2), .val (.int p3), .val (.int p4), .val (.int p5), .val (.int p6), .val (.int xl), .val (.int xk), .unset, .unset, .unset, .unset, .unset, .unset, .unset, .unset] [])) t
      refine XS.iloadN X0.here hx rfl (hb hby at_42) rfl ?_
      show Steps p.tables e below (s₁.setTop (mkF m 43 #[.val (.int p1), .val (.int p2), .val (.int p3), .val (.int p4), .val (.int p5), .val (.int p6), .val (.int xl), .val (.int xk), .unset, .unset, .unset, .unset, .unset, .unset, .unset, .unset] [(.int p3)])) t
      refine X0.ldcInt hx hown (mvT hZ (hw _ (List.mem_of_getElem? (i := 0) rfl))) (g := (mkF m 43 #[.val (.int p1), .val (.int p2), .val (.int p3), .val (.int p4), .val (.int p5), .val (.int p6), .val (.int xl), .val (.int xk), .unset, .unset, .unset, .unset, .unset, .unset, .unset, .unset] [(.int p3)])) rfl (hb hby at_43) _ ?_
      show Steps p.tables e below (s₁.setTop (mkF m 45 #[.val (.int p1), .val (.int p2), .val (.int p3), .val (.int p4), .val (.int p5), .val (.int p6), .val (.int xl), .val (.int xk), .unset, .unset, .unset, .unset, .unset, .unset, .unset, .unset] [(.int (2147483647 : Int32)), (.int p3)])) t
      refine XS.iand X0.here hx rfl (hb hby at_45) rfl ?_
      show Steps p.tables e below (s₁.setTop (mkF m 46 #[.val (.int p1), .val (.int p2), .val (.int p3), .val (.int p4), .val (.int p5), .val (.int p6), .val (.int xl), .val (.int xk), .unset, .unset, .unset, .unset, .unset, .unset, .unset, .unset] [(.int (p3 &&& (2147483647 : Int32)))])) t
      refine X0.ldcInt hx hown (mvT hZ (hw _ (List.mem_of_getElem? (i := 2) rfl))) (g := (mkF m 46 #[.val (.int p1), .val (.int p2), .val (.int p3), .val (.int p4), .val (.int p5), .val (.int p6), .val (.int xl), .val (.int xk), .unset, .unset, .unset, .unset, .unset, .unset, .unset, .unset] [(.int (p3 &&& (2147483647 : Int32)))])) rfl (hb hby at_46) _ ?_
      show Steps p.tables e below (s₁.setTop (mkF m 48 #[.val (.int p1), .val (.int p2), .val (.int p3), .val (.int p4), .val (.int p5), .val (.int p6), .val (.int xl), .val (.int xk), .unset, .unset, .unset, .unset, .unset, .unset, .unset, .unset] [(.int (1000001 : Int32)), (.int (p3 &&& (2147483647 : Int32)))])) t
      refine iremM X0 hx rfl (hb hby at_48) rfl (by decide) ?_
      rw [show xv = ((p3 &&& (2147483647 : Int32)) % (1000001 : Int32)) from (hxv.trans (if_pos hc35_2))] at k
      exact k
    · refine XS.ifNo X0.here hx rfl (hb hby at_35) rfl ((if0 _ _).trans (feq hc35_2).1) ?_
      show Steps p.tables e below (s₁.setTop (mkF m 38 #[.val (.int p1), .val (.int p2), .val (.int p3), .val (.int p4), .val (.int p5), .val (.int p6), .val (.int xl), .val (.int xk), .unset, .unset, .unset, .unset, .unset, .unset, .unset, .unset] [])) t
      refine XS.iconst X0.here hx rfl (hb hby at_38) ?_
      show Steps p.tables e below (s₁.setTop (mkF m 39 #[.val (.int p1), .val (.int p2), .val (.int p3), .val (.int p4), .val (.int p5), .val (.int p6), .val (.int xl), .val (.int xk), .unset, .unset, .unset, .unset, .unset, .unset, .unset, .unset] [(.int (0 : Int32))])) t
      refine XS.goto X0.here hx rfl (pc0 := 39) (pc' := 49) rfl (hb hby at_39) (by decide) (by decide) ?_
      rw [show xv = (0 : Int32) from (hxv.trans (if_neg hc35_2))] at k
      exact k
  refine own_go (B := s₁.setTop (mkF m 55 #[.val (.int p1), .val (.int p2), .val (.int p3), .val (.int p4), .val (.int p5), .val (.int p6), .val (.int xl), .val (.int xk), .val (.int xv), .unset, .unset, .unset, .unset, .unset, .unset, .unset] [(.int (p6 &&& (4 : Int32)))])) (fun t k => ?_) ?_
  · show Steps p.tables e below (s₁.setTop (mkF m 49 #[.val (.int p1), .val (.int p2), .val (.int p3), .val (.int p4), .val (.int p5), .val (.int p6), .val (.int xl), .val (.int xk), .unset, .unset, .unset, .unset, .unset, .unset, .unset, .unset] [(.int xv)])) t
    refine XS.istore X0.here hx rfl (hb hby at_49) rfl (l' := #[.val (.int p1), .val (.int p2), .val (.int p3), .val (.int p4), .val (.int p5), .val (.int p6), .val (.int xl), .val (.int xk), .val (.int xv), .unset, .unset, .unset, .unset, .unset, .unset, .unset]) rfl ?_
    show Steps p.tables e below (s₁.setTop (mkF m 51 #[.val (.int p1), .val (.int p2), .val (.int p3), .val (.int p4), .val (.int p5), .val (.int p6), .val (.int xl), .val (.int xk), .val (.int xv), .unset, .unset, .unset, .unset, .unset, .unset, .unset] [])) t
    refine XS.iload X0.here hx rfl (hb hby at_51) rfl ?_
    show Steps p.tables e below (s₁.setTop (mkF m 53 #[.val (.int p1), .val (.int p2), .val (.int p3), .val (.int p4), .val (.int p5), .val (.int p6), .val (.int xl), .val (.int xk), .val (.int xv), .unset, .unset, .unset, .unset, .unset, .unset, .unset] [(.int p6)])) t
    refine XS.iconst X0.here hx rfl (hb hby at_53) ?_
    show Steps p.tables e below (s₁.setTop (mkF m 54 #[.val (.int p1), .val (.int p2), .val (.int p3), .val (.int p4), .val (.int p5), .val (.int p6), .val (.int xl), .val (.int xk), .val (.int xv), .unset, .unset, .unset, .unset, .unset, .unset, .unset] [(.int (4 : Int32)), (.int p6)])) t
    refine XS.iand X0.here hx rfl (hb hby at_54) rfl ?_
    exact k
  obtain ⟨xm, hxm⟩ : ∃ z : Int32, z = (if (p6 &&& (4 : Int32)) = (0 : Int32) then ((p4 &&& (2147483647 : Int32)) % (1000001 : Int32)) else (0 : Int32)) := ⟨_, rfl⟩
  refine own_go (B := s₁.setTop (mkF m 69 #[.val (.int p1), .val (.int p2), .val (.int p3), .val (.int p4), .val (.int p5), .val (.int p6), .val (.int xl), .val (.int xk), .val (.int xv), .unset, .unset, .unset, .unset, .unset, .unset, .unset] [(.int xm)])) (fun t k => ?_) ?_
  · show Steps p.tables e below (s₁.setTop (mkF m 55 #[.val (.int p1), .val (.int p2), .val (.int p3), .val (.int p4), .val (.int p5), .val (.int p6), .val (.int xl), .val (.int xk), .val (.int xv), .unset, .unset, .unset, .unset, .unset, .unset, .unset] [(.int (p6 &&& (4 : Int32)))])) t
    by_cases hc55_3 : (p6 &&& (4 : Int32)) = (0 : Int32)
    · refine XS.ifYes X0.here hx rfl (pc0 := 55) (pc' := 62) rfl (hb hby at_55) rfl ((if0 _ _).trans (teq hc55_3).1) (by decide) (by decide) ?_
      show Steps p.tables e below (s₁.setTop (mkF m 62 #[.val (.int p1), .val (.int p2), .val (.int p3), .val (.int p4), .val (.int p5), .val (.int p6), .val (.int xl), .val (.int xk), .val (.int xv), .unset, .unset, .unset, .unset, .unset, .unset, .unset] [])) t
      refine XS.iloadN X0.here hx rfl (hb hby at_62) rfl ?_
      show Steps p.tables e below (s₁.setTop (mkF m 63 #[.val (.int p1), .val (.int p2), .val (.int p3), .val (.int p4), .val (.int p5), .val (.int p6), .val (.int xl), .val (.int xk), .val (.int xv), .unset, .unset, .unset, .unset, .unset, .unset, .unset] [(.int p4)])) t
      refine X0.ldcInt hx hown (mvT hZ (hw _ (List.mem_of_getElem? (i := 0) rfl))) (g := (mkF m 63 #[.val (.int p1), .val (.int p2), .val (.int p3), .val (.int p4), .val (.int p5), .val (.int p6), .val (.int xl), .val (.int xk), .val (.int xv), .unset, .unset, .unset, .unset, .unset, .unset, .unset] [(.int p4)])) rfl (hb hby at_63) _ ?_
      show Steps p.tables e below (s₁.setTop (mkF m 65 #[.val (.int p1), .val (.int p2), .val (.int p3), .val (.int p4), .val (.int p5), .val (.int p6), .val (.int xl), .val (.int xk), .val (.int xv), .unset, .unset, .unset, .unset, .unset, .unset, .unset] [(.int (2147483647 : Int32)), (.int p4)])) t
      refine XS.iand X0.here hx rfl (hb hby at_65) rfl ?_
      show Steps p.tables e below (s₁.setTop (mkF m 66 #[.val (.int p1), .val (.int p2), .val (.int p3), .val (.int p4), .val (.int p5), .val (.int p6), .val (.int xl), .val (.int xk), .val (.int xv), .unset, .unset, .unset, .unset, .unset, .unset, .unset] [(.int (p4 &&& (2147483647 : Int32)))])) t
      refine X0.ldcInt hx hown (mvT hZ (hw _ (List.mem_of_getElem? (i := 2) rfl))) (g := (mkF m 66 #[.val (.int p1), .val (.int p2), .val (.int p3), .val (.int p4), .val (.int p5), .val (.int p6), .val (.int xl), .val (.int xk), .val (.int xv), .unset, .unset, .unset, .unset, .unset, .unset, .unset] [(.int (p4 &&& (2147483647 : Int32)))])) rfl (hb hby at_66) _ ?_
      show Steps p.tables e below (s₁.setTop (mkF m 68 #[.val (.int p1), .val (.int p2), .val (.int p3), .val (.int p4), .val (.int p5), .val (.int p6), .val (.int xl), .val (.int xk), .val (.int xv), .unset, .unset, .unset, .unset, .unset, .unset, .unset] [(.int (1000001 : Int32)), (.int (p4 &&& (2147483647 : Int32)))])) t
      refine iremM X0 hx rfl (hb hby at_68) rfl (by decide) ?_
      rw [show xm = ((p4 &&& (2147483647 : Int32)) % (1000001 : Int32)) from (hxm.trans (if_pos hc55_3))] at k
      exact k
    · refine XS.ifNo X0.here hx rfl (hb hby at_55) rfl ((if0 _ _).trans (feq hc55_3).1) ?_
      show Steps p.tables e below (s₁.setTop (mkF m 58 #[.val (.int p1), .val (.int p2), .val (.int p3), .val (.int p4), .val (.int p5), .val (.int p6), .val (.int xl), .val (.int xk), .val (.int xv), .unset, .unset, .unset, .unset, .unset, .unset, .unset] [])) t
      refine XS.iconst X0.here hx rfl (hb hby at_58) ?_
      show Steps p.tables e below (s₁.setTop (mkF m 59 #[.val (.int p1), .val (.int p2), .val (.int p3), .val (.int p4), .val (.int p5), .val (.int p6), .val (.int xl), .val (.int xk), .val (.int xv), .unset, .unset, .unset, .unset, .unset, .unset, .unset] [(.int (0 : Int32))])) t
      refine XS.goto X0.here hx rfl (pc0 := 59) (pc' := 69) rfl (hb hby at_59) (by decide) (by decide) ?_
      rw [show xm = (0 : Int32) from (hxm.trans (if_neg hc55_3))] at k
      exact k
  refine own_go (B := s₁.setTop (mkF m 78 #[.val (.int p1), .val (.int p2), .val (.int p3), .val (.int p4), .val (.int p5), .val (.int p6), .val (.int xl), .val (.int xk), .val (.int xv), .val (.int xm), .val (.int (p5 &&& (2147483647 : Int32))), .unset, .unset, .unset, .unset, .unset] [])) (fun t k => ?_) ?_
  · show Steps p.tables e below (s₁.setTop (mkF m 69 #[.val (.int p1), .val (.int p2), .val (.int p3), .val (.int p4), .val (.int p5), .val (.int p6), .val (.int xl), .val (.int xk), .val (.int xv), .unset, .unset, .unset, .unset, .unset, .unset, .unset] [(.int xm)])) t
    refine XS.istore X0.here hx rfl (hb hby at_69) rfl (l' := #[.val (.int p1), .val (.int p2), .val (.int p3), .val (.int p4), .val (.int p5), .val (.int p6), .val (.int xl), .val (.int xk), .val (.int xv), .val (.int xm), .unset, .unset, .unset, .unset, .unset, .unset]) rfl ?_
    show Steps p.tables e below (s₁.setTop (mkF m 71 #[.val (.int p1), .val (.int p2), .val (.int p3), .val (.int p4), .val (.int p5), .val (.int p6), .val (.int xl), .val (.int xk), .val (.int xv), .val (.int xm), .unset, .unset, .unset, .unset, .unset, .unset] [])) t
    refine XS.iload X0.here hx rfl (hb hby at_71) rfl ?_
    show Steps p.tables e below (s₁.setTop (mkF m 73 #[.val (.int p1), .val (.int p2), .val (.int p3), .val (.int p4), .val (.int p5), .val (.int p6), .val (.int xl), .val (.int xk), .val (.int xv), .val (.int xm), .unset, .unset, .unset, .unset, .unset, .unset] [(.int p5)])) t
    refine X0.ldcInt hx hown (mvT hZ (hw _ (List.mem_of_getElem? (i := 0) rfl))) (g := (mkF m 73 #[.val (.int p1), .val (.int p2), .val (.int p3), .val (.int p4), .val (.int p5), .val (.int p6), .val (.int xl), .val (.int xk), .val (.int xv), .val (.int xm), .unset, .unset, .unset, .unset, .unset, .unset] [(.int p5)])) rfl (hb hby at_73) _ ?_
    show Steps p.tables e below (s₁.setTop (mkF m 75 #[.val (.int p1), .val (.int p2), .val (.int p3), .val (.int p4), .val (.int p5), .val (.int p6), .val (.int xl), .val (.int xk), .val (.int xv), .val (.int xm), .unset, .unset, .unset, .unset, .unset, .unset] [(.int (2147483647 : Int32)), (.int p5)])) t
    refine XS.iand X0.here hx rfl (hb hby at_75) rfl ?_
    show Steps p.tables e below (s₁.setTop (mkF m 76 #[.val (.int p1), .val (.int p2), .val (.int p3), .val (.int p4), .val (.int p5), .val (.int p6), .val (.int xl), .val (.int xk), .val (.int xv), .val (.int xm), .unset, .unset, .unset, .unset, .unset, .unset] [(.int (p5 &&& (2147483647 : Int32)))])) t
    refine XS.istore X0.here hx rfl (hb hby at_76) rfl (l' := #[.val (.int p1), .val (.int p2), .val (.int p3), .val (.int p4), .val (.int p5), .val (.int p6), .val (.int xl), .val (.int xk), .val (.int xv), .val (.int xm), .val (.int (p5 &&& (2147483647 : Int32))), .unset, .unset, .unset, .unset, .unset]) rfl ?_
    exact k
  obtain ⟨xs, hxs⟩ : ∃ z : Int32, z = (p5 &&& (2147483647 : Int32)) := ⟨_, rfl⟩
  rw [← hxs]
  refine own_go (B := s₁.setTop (mkF m 84 #[.val (.int p1), .val (.int p2), .val (.int p3), .val (.int p4), .val (.int p5), .val (.int p6), .val (.int xl), .val (.int xk), .val (.int xv), .val (.int xm), .val (.int xs), .val (.int ((p6.toUInt32 >>> ((3 : Int32) &&& 31).toUInt32).toInt32)), .unset, .unset, .unset, .unset] [])) (fun t k => ?_) ?_
  · show Steps p.tables e below (s₁.setTop (mkF m 78 #[.val (.int p1), .val (.int p2), .val (.int p3), .val (.int p4), .val (.int p5), .val (.int p6), .val (.int xl), .val (.int xk), .val (.int xv), .val (.int xm), .val (.int xs), .unset, .unset, .unset, .unset, .unset] [])) t
    refine XS.iload X0.here hx rfl (hb hby at_78) rfl ?_
    show Steps p.tables e below (s₁.setTop (mkF m 80 #[.val (.int p1), .val (.int p2), .val (.int p3), .val (.int p4), .val (.int p5), .val (.int p6), .val (.int xl), .val (.int xk), .val (.int xv), .val (.int xm), .val (.int xs), .unset, .unset, .unset, .unset, .unset] [(.int p6)])) t
    refine XS.iconst X0.here hx rfl (hb hby at_80) ?_
    show Steps p.tables e below (s₁.setTop (mkF m 81 #[.val (.int p1), .val (.int p2), .val (.int p3), .val (.int p4), .val (.int p5), .val (.int p6), .val (.int xl), .val (.int xk), .val (.int xv), .val (.int xm), .val (.int xs), .unset, .unset, .unset, .unset, .unset] [(.int (3 : Int32)), (.int p6)])) t
    refine XS.iushr X0.here hx rfl (hb hby at_81) rfl ?_
    show Steps p.tables e below (s₁.setTop (mkF m 82 #[.val (.int p1), .val (.int p2), .val (.int p3), .val (.int p4), .val (.int p5), .val (.int p6), .val (.int xl), .val (.int xk), .val (.int xv), .val (.int xm), .val (.int xs), .unset, .unset, .unset, .unset, .unset] [(.int ((p6.toUInt32 >>> ((3 : Int32) &&& 31).toUInt32).toInt32))])) t
    refine XS.istore X0.here hx rfl (hb hby at_82) rfl (l' := #[.val (.int p1), .val (.int p2), .val (.int p3), .val (.int p4), .val (.int p5), .val (.int p6), .val (.int xl), .val (.int xk), .val (.int xv), .val (.int xm), .val (.int xs), .val (.int ((p6.toUInt32 >>> ((3 : Int32) &&& 31).toUInt32).toInt32)), .unset, .unset, .unset, .unset]) rfl ?_
    exact k
  obtain ⟨xa, hxa⟩ : ∃ z : Int32, z = ((p6.toUInt32 >>> ((3 : Int32) &&& 31).toUInt32).toInt32) := ⟨_, rfl⟩
  rw [← hxa]
  have ol := own_l p1 hxl
  have ok := own_k p2 hxk
  have ov := own_k p3 hxv
  have om := own_k p4 hxm
  have oset := own_m p5 hxs
  have oage := own_age p6 hxa
  obtain ⟨T4, h4, X4, e4, E4, A4, D4, -, st4⟩ := newO X0 hx hZ hown (hw _ (List.mem_of_getElem? (i := 3) rfl)) (hw _ (List.mem_of_getElem? (i := 4) rfl)) (hw _ (List.mem_of_getElem? (i := 5) rfl)) e0 (g := (mkF m 84 #[.val (.int p1), .val (.int p2), .val (.int p3), .val (.int p4), .val (.int p5), .val (.int p6), .val (.int xl), .val (.int xk), .val (.int xv), .val (.int xm), .val (.int xs), .val (.int xa), .unset, .unset, .unset, .unset] [])) rfl (hb hby at_84) (by decide) (by decide)
  obtain ⟨b4, g4⟩ : ∃ z, z = h0.size := ⟨_, rfl⟩
  rw [← g4] at A4 D4 st4
  refine own_go (fun t k => st4 t k) ?_
  have g_b4 : n0 ≤ b4 := Nat.le_trans Z0 (Nat.le_of_eq g4.symm)
  have f4_0 := SL.ext E4
  have f4_1 := SN.ext E4
  have F4_lookups : Fld Z h4 b4 "com/example/xorlane/xorlane/sim/Workload" "lookups" "I" (.int (0 : Int32)) := D4 (Or.inr (hw _ (List.mem_of_getElem? (i := 41) rfl))) (ty := .int) (by decide)
  have F4_keys : Fld Z h4 b4 "com/example/xorlane/xorlane/sim/Workload" "keys" "I" (.int (0 : Int32)) := D4 (Or.inr (hw _ (List.mem_of_getElem? (i := 43) rfl))) (ty := .int) (by decide)
  have F4_settleMinutes : Fld Z h4 b4 "com/example/xorlane/xorlane/sim/Workload" "settleMinutes" "I" (.int (0 : Int32)) := D4 (Or.inr (hw _ (List.mem_of_getElem? (i := 45) rfl))) (ty := .int) (by decide)
  have F4_ageMinutes : Fld Z h4 b4 "com/example/xorlane/xorlane/sim/Workload" "ageMinutes" "I" (.int (0 : Int32)) := D4 (Or.inr (hw _ (List.mem_of_getElem? (i := 47) rfl))) (ty := .int) (by decide)
  have F4_values : Fld Z h4 b4 "com/example/xorlane/xorlane/sim/Workload" "values" "I" (.int (0 : Int32)) := D4 (Or.inr (hw _ (List.mem_of_getElem? (i := 49) rfl))) (ty := .int) (by decide)
  have F4_mutable : Fld Z h4 b4 "com/example/xorlane/xorlane/sim/Workload" "mutable" "I" (.int (0 : Int32)) := D4 (Or.inr (hw _ (List.mem_of_getElem? (i := 51) rfl))) (ty := .int) (by decide)
  have F4_itemPuts : Fld Z h4 b4 "com/example/xorlane/xorlane/sim/Workload" "itemPuts" "Lcom/example/xorlane/xorlane/sim/ItemPuts;" .null := D4 (Or.inr (hw _ (List.mem_of_getElem? (i := 53) rfl))) (ty := (.object "com/example/xorlane/xorlane/sim/ItemPuts")) (by decide)
  have F4_failures : Fld Z h4 b4 "com/example/xorlane/xorlane/sim/Workload" "failures" "Lcom/example/xorlane/xorlane/sim/Failures;" .null := D4 (Or.inr (hw _ (List.mem_of_getElem? (i := 55) rfl))) (ty := (.object "com/example/xorlane/xorlane/sim/Failures")) (by decide)
  refine own_go (B := T4.setTop (mkF m 100 #[.val (.int p1), .val (.int p2), .val (.int p3), .val (.int p4), .val (.int p5), .val (.int p6), .val (.int xl), .val (.int xk), .val (.int xv), .val (.int xm), .val (.int xs), .val (.int xa), .unset, .unset, .unset, .unset] [(.int xm), (.int xv), (.int xa), (.int xs), (.int xk), (.int xl), (.ref b4), (.ref b4)])) (fun t k => ?_) ?_
  · show Steps p.tables e below (T4.setTop (mkF m 87 #[.val (.int p1), .val (.int p2), .val (.int p3), .val (.int p4), .val (.int p5), .val (.int p6), .val (.int xl), .val (.int xk), .val (.int xv), .val (.int xm), .val (.int xs), .val (.int xa), .unset, .unset, .unset, .unset] [(.ref b4)])) t
    refine XS.dup X4.here hx rfl (hb hby at_87) rfl rfl ?_
    show Steps p.tables e below (T4.setTop (mkF m 88 #[.val (.int p1), .val (.int p2), .val (.int p3), .val (.int p4), .val (.int p5), .val (.int p6), .val (.int xl), .val (.int xk), .val (.int xv), .val (.int xm), .val (.int xs), .val (.int xa), .unset, .unset, .unset, .unset] [(.ref b4), (.ref b4)])) t
    refine XS.iload X4.here hx rfl (hb hby at_88) rfl ?_
    show Steps p.tables e below (T4.setTop (mkF m 90 #[.val (.int p1), .val (.int p2), .val (.int p3), .val (.int p4), .val (.int p5), .val (.int p6), .val (.int xl), .val (.int xk), .val (.int xv), .val (.int xm), .val (.int xs), .val (.int xa), .unset, .unset, .unset, .unset] [(.int xl), (.ref b4), (.ref b4)])) t
    refine XS.iload X4.here hx rfl (hb hby at_90) rfl ?_
    show Steps p.tables e below (T4.setTop (mkF m 92 #[.val (.int p1), .val (.int p2), .val (.int p3), .val (.int p4), .val (.int p5), .val (.int p6), .val (.int xl), .val (.int xk), .val (.int xv), .val (.int xm), .val (.int xs), .val (.int xa), .unset, .unset, .unset, .unset] [(.int xk), (.int xl), (.ref b4), (.ref b4)])) t
    refine XS.iload X4.here hx rfl (hb hby at_92) rfl ?_
    show Steps p.tables e below (T4.setTop (mkF m 94 #[.val (.int p1), .val (.int p2), .val (.int p3), .val (.int p4), .val (.int p5), .val (.int p6), .val (.int xl), .val (.int xk), .val (.int xv), .val (.int xm), .val (.int xs), .val (.int xa), .unset, .unset, .unset, .unset] [(.int xs), (.int xk), (.int xl), (.ref b4), (.ref b4)])) t
    refine XS.iload X4.here hx rfl (hb hby at_94) rfl ?_
    show Steps p.tables e below (T4.setTop (mkF m 96 #[.val (.int p1), .val (.int p2), .val (.int p3), .val (.int p4), .val (.int p5), .val (.int p6), .val (.int xl), .val (.int xk), .val (.int xv), .val (.int xm), .val (.int xs), .val (.int xa), .unset, .unset, .unset, .unset] [(.int xa), (.int xs), (.int xk), (.int xl), (.ref b4), (.ref b4)])) t
    refine XS.iload X4.here hx rfl (hb hby at_96) rfl ?_
    show Steps p.tables e below (T4.setTop (mkF m 98 #[.val (.int p1), .val (.int p2), .val (.int p3), .val (.int p4), .val (.int p5), .val (.int p6), .val (.int xl), .val (.int xk), .val (.int xv), .val (.int xm), .val (.int xs), .val (.int xa), .unset, .unset, .unset, .unset] [(.int xv), (.int xa), (.int xs), (.int xk), (.int xl), (.ref b4), (.ref b4)])) t
    refine XS.iload X4.here hx rfl (hb hby at_98) rfl ?_
    exact k
  obtain ⟨_, _, ⟨T5, L5, k5, n5⟩, -, X5, hS5, hgr5, ⟨Lc5, hQ5, l5, y5, z5⟩, st5⟩ := X4.specialBackS hx (y := (⟨"com/example/xorlane/xorlane/sim/Workload", "<init>", "(IIIIII)V"⟩ : MethodName)) rfl hown (mvT hZ (hw _ (List.mem_of_getElem? (i := 6) rfl))) (mvT hZ (hw _ (List.mem_of_getElem? (i := 7) rfl))) (mvT hZ (hw _ (List.mem_of_getElem? (i := 8) rfl))) (by decide) (backOfS (W := 1) (rm1 l Z a0 hw [] b4 xl xk xs xa xv xm _ _ _ _ _ _ _ _ aL aN h4 n0 (Nat.le_trans Z0 E4.1) A4 F4_lookups F4_keys F4_settleMinutes F4_ageMinutes F4_values F4_mutable F4_itemPuts F4_failures g_b4 ol.1 ok.1 oset oage ov.1 om.1 ol.2 ok.2 ov.2 om.2 f4_0 f4_1) hZ (hw _ (List.mem_of_getElem? (i := 8) rfl)) (hw _ (List.mem_of_getElem? (i := 5) rfl)) (by decide) (by decide)) (g := (mkF m 100 #[.val (.int p1), .val (.int p2), .val (.int p3), .val (.int p4), .val (.int p5), .val (.int p6), .val (.int xl), .val (.int xk), .val (.int xv), .val (.int xm), .val (.int xs), .val (.int xa), .unset, .unset, .unset, .unset] [(.int xm), (.int xv), (.int xa), (.int xs), (.int xk), (.int xl), (.ref b4), (.ref b4)])) rfl (by rw [hml]; rfl) (Steps.refl _) (a := b4) (argsL := [(.int xl), (.int xk), (.int xs), (.int xa), (.int xv), (.int xm)]) (rest := [(.ref b4)]) (lenOf pd_rm0_0 rfl) rfl (by show 2 * 0 + _ ≤ _; exact Nat.le_of_eq rfl) (hb hby at_100) (fun _ _ => ⟨rfl, e4, (by decide : 1 + 4 ≤ _), (by decide : 8 + 192 ≤ _)⟩)
  dsimp only [Pt.U, Pt.locs, Pt.cells, Pt.slots] at X5 l5 y5 z5 st5 hQ5 hS5 hgr5
  subst l5 y5 z5
  obtain ⟨rfl, N5q, K5, -, G0_5, G1_5, G2_5⟩ := hQ5
  have N5 := Fr.app N0 N5q
  refine own_go (fun t k => st5.trans k) ?_
  have hZ5 : Z.Warmed39 (s.setVm T5.vm).vm := State.Warmed39.trans hZ hS5.1
  have hown5 : (s.setVm T5.vm).vm.findClass "com/example/xorlane/xorlane/sim/WorkloadStoresPinLaw" = some m.cls := (hS5.1.alike.findClass _ _).trans hown
  have hSS5 := hS5
  have f5_2 := A4.keep K5
  refine own_go (B := T5.setTop (mkF m 122 #[.val (.int p1), .val (.int p2), .val (.int p3), .val (.int p4), .val (.int p5), .val (.int p6), .val (.int xl), .val (.int xk), .val (.int xv), .val (.int xm), .val (.int xs), .val (.int xa), .val (.ref b4), .val (.long (((xk.toInt64) + (xv.toInt64)) + (xm.toInt64))), .second, .unset] [(.int (lcmpW (((xk.toInt64) + (xv.toInt64)) + (xm.toInt64)) (0 : Int64)))])) (fun t k => ?_) ?_
  · show Steps p.tables e below (T5.setTop (mkF m 103 #[.val (.int p1), .val (.int p2), .val (.int p3), .val (.int p4), .val (.int p5), .val (.int p6), .val (.int xl), .val (.int xk), .val (.int xv), .val (.int xm), .val (.int xs), .val (.int xa), .unset, .unset, .unset, .unset] [(.ref b4)])) t
    refine XS.astore X5.here hx rfl (hb hby at_103) rfl rfl (l' := #[.val (.int p1), .val (.int p2), .val (.int p3), .val (.int p4), .val (.int p5), .val (.int p6), .val (.int xl), .val (.int xk), .val (.int xv), .val (.int xm), .val (.int xs), .val (.int xa), .val (.ref b4), .unset, .unset, .unset]) rfl ?_
    show Steps p.tables e below (T5.setTop (mkF m 105 #[.val (.int p1), .val (.int p2), .val (.int p3), .val (.int p4), .val (.int p5), .val (.int p6), .val (.int xl), .val (.int xk), .val (.int xv), .val (.int xm), .val (.int xs), .val (.int xa), .val (.ref b4), .unset, .unset, .unset] [])) t
    refine XS.iload X5.here hx rfl (hb hby at_105) rfl ?_
    show Steps p.tables e below (T5.setTop (mkF m 107 #[.val (.int p1), .val (.int p2), .val (.int p3), .val (.int p4), .val (.int p5), .val (.int p6), .val (.int xl), .val (.int xk), .val (.int xv), .val (.int xm), .val (.int xs), .val (.int xa), .val (.ref b4), .unset, .unset, .unset] [(.int xk)])) t
    refine XS.i2l X5.here hx rfl (hb hby at_107) rfl ?_
    show Steps p.tables e below (T5.setTop (mkF m 108 #[.val (.int p1), .val (.int p2), .val (.int p3), .val (.int p4), .val (.int p5), .val (.int p6), .val (.int xl), .val (.int xk), .val (.int xv), .val (.int xm), .val (.int xs), .val (.int xa), .val (.ref b4), .unset, .unset, .unset] [(.long (xk.toInt64))])) t
    refine XS.iload X5.here hx rfl (hb hby at_108) rfl ?_
    show Steps p.tables e below (T5.setTop (mkF m 110 #[.val (.int p1), .val (.int p2), .val (.int p3), .val (.int p4), .val (.int p5), .val (.int p6), .val (.int xl), .val (.int xk), .val (.int xv), .val (.int xm), .val (.int xs), .val (.int xa), .val (.ref b4), .unset, .unset, .unset] [(.int xv), (.long (xk.toInt64))])) t
    refine XS.i2l X5.here hx rfl (hb hby at_110) rfl ?_
    show Steps p.tables e below (T5.setTop (mkF m 111 #[.val (.int p1), .val (.int p2), .val (.int p3), .val (.int p4), .val (.int p5), .val (.int p6), .val (.int xl), .val (.int xk), .val (.int xv), .val (.int xm), .val (.int xs), .val (.int xa), .val (.ref b4), .unset, .unset, .unset] [(.long (xv.toInt64)), (.long (xk.toInt64))])) t
    refine XS.ladd X5.here hx rfl (hb hby at_111) rfl ?_
    show Steps p.tables e below (T5.setTop (mkF m 112 #[.val (.int p1), .val (.int p2), .val (.int p3), .val (.int p4), .val (.int p5), .val (.int p6), .val (.int xl), .val (.int xk), .val (.int xv), .val (.int xm), .val (.int xs), .val (.int xa), .val (.ref b4), .unset, .unset, .unset] [(.long ((xk.toInt64) + (xv.toInt64)))])) t
    refine XS.iload X5.here hx rfl (hb hby at_112) rfl ?_
    show Steps p.tables e below (T5.setTop (mkF m 114 #[.val (.int p1), .val (.int p2), .val (.int p3), .val (.int p4), .val (.int p5), .val (.int p6), .val (.int xl), .val (.int xk), .val (.int xv), .val (.int xm), .val (.int xs), .val (.int xa), .val (.ref b4), .unset, .unset, .unset] [(.int xm), (.long ((xk.toInt64) + (xv.toInt64)))])) t
    refine XS.i2l X5.here hx rfl (hb hby at_114) rfl ?_
    show Steps p.tables e below (T5.setTop (mkF m 115 #[.val (.int p1), .val (.int p2), .val (.int p3), .val (.int p4), .val (.int p5), .val (.int p6), .val (.int xl), .val (.int xk), .val (.int xv), .val (.int xm), .val (.int xs), .val (.int xa), .val (.ref b4), .unset, .unset, .unset] [(.long (xm.toInt64)), (.long ((xk.toInt64) + (xv.toInt64)))])) t
    refine XS.ladd X5.here hx rfl (hb hby at_115) rfl ?_
    show Steps p.tables e below (T5.setTop (mkF m 116 #[.val (.int p1), .val (.int p2), .val (.int p3), .val (.int p4), .val (.int p5), .val (.int p6), .val (.int xl), .val (.int xk), .val (.int xv), .val (.int xm), .val (.int xs), .val (.int xa), .val (.ref b4), .unset, .unset, .unset] [(.long (((xk.toInt64) + (xv.toInt64)) + (xm.toInt64)))])) t
    refine XS.lstore X5.here hx rfl (hb hby at_116) rfl (l' := #[.val (.int p1), .val (.int p2), .val (.int p3), .val (.int p4), .val (.int p5), .val (.int p6), .val (.int xl), .val (.int xk), .val (.int xv), .val (.int xm), .val (.int xs), .val (.int xa), .val (.ref b4), .val (.long (((xk.toInt64) + (xv.toInt64)) + (xm.toInt64))), .second, .unset]) rfl ?_
    show Steps p.tables e below (T5.setTop (mkF m 118 #[.val (.int p1), .val (.int p2), .val (.int p3), .val (.int p4), .val (.int p5), .val (.int p6), .val (.int xl), .val (.int xk), .val (.int xv), .val (.int xm), .val (.int xs), .val (.int xa), .val (.ref b4), .val (.long (((xk.toInt64) + (xv.toInt64)) + (xm.toInt64))), .second, .unset] [])) t
    refine XS.lload X5.here hx rfl (hb hby at_118) rfl ?_
    show Steps p.tables e below (T5.setTop (mkF m 120 #[.val (.int p1), .val (.int p2), .val (.int p3), .val (.int p4), .val (.int p5), .val (.int p6), .val (.int xl), .val (.int xk), .val (.int xv), .val (.int xm), .val (.int xs), .val (.int xa), .val (.ref b4), .val (.long (((xk.toInt64) + (xv.toInt64)) + (xm.toInt64))), .second, .unset] [(.long (((xk.toInt64) + (xv.toInt64)) + (xm.toInt64)))])) t
    refine XS.lconst X5.here hx rfl (hb hby at_120) ?_
    show Steps p.tables e below (T5.setTop (mkF m 121 #[.val (.int p1), .val (.int p2), .val (.int p3), .val (.int p4), .val (.int p5), .val (.int p6), .val (.int xl), .val (.int xk), .val (.int xv), .val (.int xm), .val (.int xs), .val (.int xa), .val (.ref b4), .val (.long (((xk.toInt64) + (xv.toInt64)) + (xm.toInt64))), .second, .unset] [(.long (0 : Int64)), (.long (((xk.toInt64) + (xv.toInt64)) + (xm.toInt64)))])) t
    refine XS.lcmp X5.here hx rfl (hb hby at_121) rfl ?_
    exact k
  obtain ⟨xe, hxe⟩ : ∃ z : Int32, z = (if (((xk.toInt64) + (xv.toInt64)) + (xm.toInt64)) = (0 : Int64) then (0 : Int32) else (1 : Int32)) := ⟨_, rfl⟩
  refine own_go (B := T5.setTop (mkF m 130 #[.val (.int p1), .val (.int p2), .val (.int p3), .val (.int p4), .val (.int p5), .val (.int p6), .val (.int xl), .val (.int xk), .val (.int xv), .val (.int xm), .val (.int xs), .val (.int xa), .val (.ref b4), .val (.long (((xk.toInt64) + (xv.toInt64)) + (xm.toInt64))), .second, .unset] [(.int xe)])) (fun t k => ?_) ?_
  · show Steps p.tables e below (T5.setTop (mkF m 122 #[.val (.int p1), .val (.int p2), .val (.int p3), .val (.int p4), .val (.int p5), .val (.int p6), .val (.int xl), .val (.int xk), .val (.int xv), .val (.int xm), .val (.int xs), .val (.int xa), .val (.ref b4), .val (.long (((xk.toInt64) + (xv.toInt64)) + (xm.toInt64))), .second, .unset] [(.int (lcmpW (((xk.toInt64) + (xv.toInt64)) + (xm.toInt64)) (0 : Int64)))])) t
    by_cases hc122_6 : (((xk.toInt64) + (xv.toInt64)) + (xm.toInt64)) = (0 : Int64)
    · refine XS.ifYes X5.here hx rfl (pc0 := 122) (pc' := 129) rfl (hb hby at_122) rfl ((if0 _ _).trans (teq ((lw_eq (((xk.toInt64) + (xv.toInt64)) + (xm.toInt64)) (0 : Int64)).mpr hc122_6)).1) (by decide) (by decide) ?_
      show Steps p.tables e below (T5.setTop (mkF m 129 #[.val (.int p1), .val (.int p2), .val (.int p3), .val (.int p4), .val (.int p5), .val (.int p6), .val (.int xl), .val (.int xk), .val (.int xv), .val (.int xm), .val (.int xs), .val (.int xa), .val (.ref b4), .val (.long (((xk.toInt64) + (xv.toInt64)) + (xm.toInt64))), .second, .unset] [])) t
      refine XS.iconst X5.here hx rfl (hb hby at_129) ?_
      rw [show xe = (0 : Int32) from (hxe.trans (if_pos hc122_6))] at k
      exact k
    · refine XS.ifNo X5.here hx rfl (hb hby at_122) rfl ((if0 _ _).trans (feq (fun q => hc122_6 ((lw_eq (((xk.toInt64) + (xv.toInt64)) + (xm.toInt64)) (0 : Int64)).mp q))).1) ?_
      show Steps p.tables e below (T5.setTop (mkF m 125 #[.val (.int p1), .val (.int p2), .val (.int p3), .val (.int p4), .val (.int p5), .val (.int p6), .val (.int xl), .val (.int xk), .val (.int xv), .val (.int xm), .val (.int xs), .val (.int xa), .val (.ref b4), .val (.long (((xk.toInt64) + (xv.toInt64)) + (xm.toInt64))), .second, .unset] [])) t
      refine XS.iconst X5.here hx rfl (hb hby at_125) ?_
      show Steps p.tables e below (T5.setTop (mkF m 126 #[.val (.int p1), .val (.int p2), .val (.int p3), .val (.int p4), .val (.int p5), .val (.int p6), .val (.int xl), .val (.int xk), .val (.int xv), .val (.int xm), .val (.int xs), .val (.int xa), .val (.ref b4), .val (.long (((xk.toInt64) + (xv.toInt64)) + (xm.toInt64))), .second, .unset] [(.int (1 : Int32))])) t
      refine XS.goto X5.here hx rfl (pc0 := 126) (pc' := 130) rfl (hb hby at_126) (by decide) (by decide) ?_
      rw [show xe = (1 : Int32) from (hxe.trans (if_neg hc122_6))] at k
      exact k
  refine own_go (B := T5.setTop (mkF m 134 #[.val (.int p1), .val (.int p2), .val (.int p3), .val (.int p4), .val (.int p5), .val (.int p6), .val (.int xl), .val (.int xk), .val (.int xv), .val (.int xm), .val (.int xs), .val (.int xa), .val (.ref b4), .val (.long (((xk.toInt64) + (xv.toInt64)) + (xm.toInt64))), .second, .val (.int xe)] [(.ref b4)])) (fun t k => ?_) ?_
  · show Steps p.tables e below (T5.setTop (mkF m 130 #[.val (.int p1), .val (.int p2), .val (.int p3), .val (.int p4), .val (.int p5), .val (.int p6), .val (.int xl), .val (.int xk), .val (.int xv), .val (.int xm), .val (.int xs), .val (.int xa), .val (.ref b4), .val (.long (((xk.toInt64) + (xv.toInt64)) + (xm.toInt64))), .second, .unset] [(.int xe)])) t
    refine XS.istore X5.here hx rfl (hb hby at_130) rfl (l' := #[.val (.int p1), .val (.int p2), .val (.int p3), .val (.int p4), .val (.int p5), .val (.int p6), .val (.int xl), .val (.int xk), .val (.int xv), .val (.int xm), .val (.int xs), .val (.int xa), .val (.ref b4), .val (.long (((xk.toInt64) + (xv.toInt64)) + (xm.toInt64))), .second, .val (.int xe)]) rfl ?_
    show Steps p.tables e below (T5.setTop (mkF m 132 #[.val (.int p1), .val (.int p2), .val (.int p3), .val (.int p4), .val (.int p5), .val (.int p6), .val (.int xl), .val (.int xk), .val (.int xv), .val (.int xm), .val (.int xs), .val (.int xa), .val (.ref b4), .val (.long (((xk.toInt64) + (xv.toInt64)) + (xm.toInt64))), .second, .val (.int xe)] [])) t
    refine XS.aload X5.here hx rfl (hb hby at_132) rfl rfl ?_
    exact k
  obtain ⟨cq7, kq7, q7a, q7b, q7c⟩ := isOf hZ5 rfl f5_2
  obtain ⟨_, _, ⟨T7, L7, k7, n7⟩, -, X7, ⟨Lc7, hQ7, l7, y7, z7⟩, st7⟩ := X5.virtualBack hx (y := (⟨"com/example/xorlane/xorlane/sim/Workload", "stores", "()Z"⟩ : MethodName)) (z := (⟨"com/example/xorlane/xorlane/sim/Workload", "stores", "()Z"⟩ : MethodName)) hown5 (mvT hZ5 (hw _ (List.mem_of_getElem? (i := 56) rfl))) (mvT hZ5 (hw _ (List.mem_of_getElem? (i := 57) rfl))) (notFace_of_selects (args := #[]) (mvT hZ5 (hw _ (List.mem_of_getElem? (i := 59) rfl)))) (mvT hZ5 (hw _ (List.mem_of_getElem? (i := 59) rfl))) (mvT hZ5 (hw _ (List.mem_of_getElem? (i := 58) rfl))) (by decide) (backOf (W := 0) (rm6 l Z a0 hw [] b4 xk xv xm T5.heap n0 (Nat.le_trans (Nat.le_trans Z0 E4.1) K5.1) G0_5 G1_5 G2_5) hZ5 (hw _ (List.mem_of_getElem? (i := 60) rfl)) (hw _ (List.mem_of_getElem? (i := 5) rfl)) (by decide) (by decide)) q7a q7c (g := (mkF m 134 #[.val (.int p1), .val (.int p2), .val (.int p3), .val (.int p4), .val (.int p5), .val (.int p6), .val (.int xl), .val (.int xk), .val (.int xv), .val (.int xm), .val (.int xs), .val (.int xa), .val (.ref b4), .val (.long (((xk.toInt64) + (xv.toInt64)) + (xm.toInt64))), .second, .val (.int xe)] [(.ref b4)])) rfl (by rw [hml]; rfl) (Steps.refl _) (argsL := []) (rest := []) (lenOf pd_rm0_1 rfl) rfl (by show 2 * 0 + _ ≤ _; exact Nat.le_of_eq rfl) (hb hby at_134) (fun _ _ => ⟨rfl, rfl, (by decide : 5 + 0 ≤ _), (by decide : 200 + 0 ≤ _)⟩)
  dsimp only [Pt.U, Pt.locs, Pt.cells, Pt.slots] at X7 l7 y7 z7 st7 hQ7
  subst l7 y7 z7
  obtain ⟨r7, rfl, N7q, hh7, hr7⟩ := hQ7
  have N7 := Fr.app N5 N7q
  refine own_go (fun t k => st7.trans k) ?_
  refine own_go (B := T7.setTop (mkF m 147 #[.val (.int p1), .val (.int p2), .val (.int p3), .val (.int p4), .val (.int p5), .val (.int p6), .val (.int xl), .val (.int xk), .val (.int xv), .val (.int xm), .val (.int xs), .val (.int xa), .val (.ref b4), .val (.long (((xk.toInt64) + (xv.toInt64)) + (xm.toInt64))), .second, .val (.int xe)] [(.int (1 : Int32))])) (fun t k => ?_) ?_
  · show Steps p.tables e below (T7.setTop (mkF m 137 #[.val (.int p1), .val (.int p2), .val (.int p3), .val (.int p4), .val (.int p5), .val (.int p6), .val (.int xl), .val (.int xk), .val (.int xv), .val (.int xm), .val (.int xs), .val (.int xa), .val (.ref b4), .val (.long (((xk.toInt64) + (xv.toInt64)) + (xm.toInt64))), .second, .val (.int xe)] [(.int r7)])) t
    refine XS.iload X7.here hx rfl (hb hby at_137) rfl ?_
    show Steps p.tables e below (T7.setTop (mkF m 139 #[.val (.int p1), .val (.int p2), .val (.int p3), .val (.int p4), .val (.int p5), .val (.int p6), .val (.int xl), .val (.int xk), .val (.int xv), .val (.int xm), .val (.int xs), .val (.int xa), .val (.ref b4), .val (.long (((xk.toInt64) + (xv.toInt64)) + (xm.toInt64))), .second, .val (.int xe)] [(.int xe), (.int r7)])) t
    refine XS.icmpNo X7.here hx rfl (hb hby at_139) rfl (teq (own_same ok ov om hr7 hxe : r7 = xe)).2 ?_
    show Steps p.tables e below (T7.setTop (mkF m 142 #[.val (.int p1), .val (.int p2), .val (.int p3), .val (.int p4), .val (.int p5), .val (.int p6), .val (.int xl), .val (.int xk), .val (.int xv), .val (.int xm), .val (.int xs), .val (.int xa), .val (.ref b4), .val (.long (((xk.toInt64) + (xv.toInt64)) + (xm.toInt64))), .second, .val (.int xe)] [])) t
    refine XS.iconst X7.here hx rfl (hb hby at_142) ?_
    show Steps p.tables e below (T7.setTop (mkF m 143 #[.val (.int p1), .val (.int p2), .val (.int p3), .val (.int p4), .val (.int p5), .val (.int p6), .val (.int xl), .val (.int xk), .val (.int xv), .val (.int xm), .val (.int xs), .val (.int xa), .val (.ref b4), .val (.long (((xk.toInt64) + (xv.toInt64)) + (xm.toInt64))), .second, .val (.int xe)] [(.int (1 : Int32))])) t
    refine XS.goto X7.here hx rfl (pc0 := 143) (pc' := 147) rfl (hb hby at_143) (by decide) (by decide) ?_
    exact k
  obtain ⟨fs, hr, hrun, hended, hEnd⟩ := X7.leaveW hSS5 (by rw [hh7]; exact (Nat.le_refl _)) (v := some (.int (1 : Int32))) (fun h => by rw [Bd.returns] at h; cases h)
  refine ⟨_, _, ?_, hrun, hended, _, _, rfl, ?_, hEnd.1, hEnd.2.1, hEnd.2.2.1, hEnd.2.2.2.mono (by decide) (by decide)⟩
  · show Steps p.tables e below (T7.setTop (mkF m 147 #[.val (.int p1), .val (.int p2), .val (.int p3), .val (.int p4), .val (.int p5), .val (.int p6), .val (.int xl), .val (.int xk), .val (.int xv), .val (.int xm), .val (.int xs), .val (.int xa), .val (.ref b4), .val (.long (((xk.toInt64) + (xv.toInt64)) + (xm.toInt64))), .second, .val (.int xe)] [(.int (1 : Int32))])) _
    exact retN X7 hx (t := .boolean) Bd.returns (by simp) (hb hby at_147) hr
  · show Q0 Z p1 p2 p3 p4 p5 p6 aL aN h0 n0 _ T7.heap _
    rw [hh7]
    exact ⟨rfl, N7⟩
set_option maxRecDepth 65536 in
set_option maxHeartbeats 40000000 in
theorem comes_1 {Post : Tables → Env → Array Value → State → Outcome → State → Prop} (hpost : ∀ tb e args s v u, (limb_1_1.after args s (.returned v) u = true ∧ limb_1_2.after args s (.returned v) u = true ∧ True) → ReturnedEndW s (.returned v) u (Jvm.fieldLocs frame_1_writes args s ++ Jvm.arrayLocs frame_1_arrays args s ++ Jvm.staticLocs frame_1_statics s) 16 2176 → Post tb e args s (.returned v) u) :
    ArmFor flags0 classFile x code maxLocals ret World_1 tables_1 room_1 Calls_1 rest_1 Pre_1 Post := by
  intro l hfl _ _ p e ha hc hk s m args below hf hA hF happ hP
  obtain ⟨hcalls, hrest, hpre⟩ := hP
  obtain ⟨-, -, -, hnamed, -, -, -, hat⟩ := (Spec.applies_iff hf).mp happ
  obtain ⟨hg, hn⟩ := and_e (Cond.before_iff.mp (show (Jvm.Cond.and given_1 narrow_1).before args s = true from hpre))
  obtain ⟨gc, g0⟩ := and_e hg
  obtain ⟨a0, g1⟩ := and_e g0
  obtain ⟨a1, g2⟩ := and_e g1
  obtain ⟨a2, g3⟩ := and_e g2
  obtain ⟨a3, g4⟩ := and_e g3
  obtain ⟨a4, g5⟩ := and_e g4
  have a5 := g5
  obtain ⟨w0, w1, w2, w3, w4, w5, rfl⟩ : ∃ w0 w1 w2 w3 w4 w5 : Value, args = #[w0, w1, w2, w3, w4, w5] := by
    have hs : args.size = 6 := by simpa [Cond.value, given_1] using gc
    obtain ⟨L⟩ := args
    match L, hs with
    | [w0, w1, w2, w3, w4, w5], _ => exact ⟨w0, w1, w2, w3, w4, w5, rfl⟩
  have hw := fun d (hd : d ∈ tables_1) => atoms_spec (ws := Jvm.Cond.code x code maxLocals ret :: tables_1) hat d (List.mem_cons_of_mem _ hd)
  have hfit : Fit s := fun {y c} hc i hi => by
    obtain ⟨ha, rfl⟩ := Array.getElem?_eq_some_iff.mp hc
    have q := List.all_eq_true.mp ((Array.all_eq_true_iff_forall_mem.mp hF) _ (Array.getElem_mem ha)) i (List.mem_range.mpr hi)
    simpa [Array.getElem?_eq_getElem hi] using q
  obtain ⟨i0, ei0⟩ := is_v a0
  obtain rfl : w0 = (.int i0) := Option.some.inj ei0
  obtain ⟨i1, ei1⟩ := is_v a1
  obtain rfl : w1 = (.int i1) := Option.some.inj ei1
  obtain ⟨i2, ei2⟩ := is_v a2
  obtain rfl : w2 = (.int i2) := Option.some.inj ei2
  obtain ⟨i3, ei3⟩ := is_v a3
  obtain rfl : w3 = (.int i3) := Option.some.inj ei3
  obtain ⟨i4, ei4⟩ := is_v a4
  obtain rfl : w4 = (.int i4) := Option.some.inj ei4
  obtain ⟨i5, ei5⟩ := is_v a5
  obtain rfl : w5 = (.int i5) := Option.some.inj ei5
  obtain ⟨hn1, hn2⟩ := and_e hn
  obtain ⟨aL, c1, cl1, kk1, ev1, -⟩ := Cond.exactly_spec (Cond.before_iff.mpr hn1)
  obtain ⟨aN, c2, cl2, kk2, ev2, -⟩ := Cond.exactly_spec (Cond.before_iff.mpr hn2)
  have SL := Sta.start ev1 (Or.inr ⟨(hw _ (List.mem_of_getElem? (i := 10) rfl)), (hw _ (List.mem_of_getElem? (i := 11) rfl))⟩)
  have SN := Sta.start ev2 (Or.inr ⟨(hw _ (List.mem_of_getElem? (i := 13) rfl)), (hw _ (List.mem_of_getElem? (i := 14) rfl))⟩)
  obtain ⟨n, o, h1, h2, h3, _, L, rfl, ⟨rfl, N⟩, hq⟩ := rm0 l s _ hw tables_1 i0 i1 i2 i3 i4 i5 aL aN s.heap s.heap.size (Nat.le_refl _) SL SN p e ha hc hk s m _ below hf ((Spec.applies_iff_loose hf).mp happ).1 ⟨rfl, State.Warmed39.refl s, rfl⟩ trivial
  refine ⟨n, _, h1, h2, h3, hpost _ _ _ _ _ _ ⟨Cond.after_iff.mpr rfl, Cond.after_iff.mpr (eq_i res_at (Term.int_eval (1)) rfl), trivial⟩ ⟨hq.1, hq.2.1, hq.2.2.1, (hq.2.2.2.sift fun y hy => Or.inr (N y hy)).mono (by decide) (by decide)⟩⟩
theorem main_1_1 : Claimed_1_1 := comes_1 fun _ _ _ _ _ _ h hF => ⟨h.1, hF⟩
theorem main_1_2 : Claimed_1_2 := comes_1 fun _ _ _ _ _ _ h hF => ⟨h.2.1, hF⟩
end Jvm.Pilot.@@N@@
namespace Jvm.Pilot.@@N@@
open Jvm Jvm.ClassFile Sem Op Lib Jvm.Free Jvm.Stand Jvm.Pilot.@@N@@.Jvm.D
/-! MADE BY PROGRAM (witnessworld.py) out of the Statement's table words and the real class files: 19 classes; the members and pool entries that the words name. The judged class is class 1, her method 1. -/
namespace start1
open Jvm.ClassFile
def u (s : String) : CpInfo := .utf8 (stringToUtf16 s)
/-- a pool by its gaps: so many unusable entries, then the entry; so many at the end -/
def gap : Nat → List CpInfo → List CpInfo
  | 0, r => r
  | n + 1, r => .unusable :: gap n r
def poolList (es : List (Nat × CpInfo)) (last : Nat) : List CpInfo := es.foldr (fun e r => gap e.1 (e.2 :: r)) (gap last [])
def pool (es : List (Nat × CpInfo)) (last : Nat) : Array CpInfo := ⟨poolList es last⟩
def fileOf (pool : Array CpInfo) (this : Nat) (attrs : Array Attribute := #[]) (ms : Array MethodInfo := #[]) (fl : Nat := 33) (sup : Nat := 0) (ifs : Array Nat := #[]) (fds : Array FieldInfo := #[]) : ClassFile where
  minorVersion := 0
  majorVersion := 65
  constantPool := pool
  accessFlags := fl
  thisClass := this
  superClass := sup
  interfaces := ifs
  fields := fds
  methods := ms
  attributes := attrs
def plain (name : String) (sup : Option ClassId) : Class where
  name := name
  kind := .ordinary
  loader := none
  accessFlags := 33
  super := sup
  interfaces := #[]
  cf := none
  fields := #[]
  methods := #[]
  instanceTypes := #[]
  staticTypes := #[]
  resolved := #[]
  callSites := []
  init := .initialized
  statics := none
  mirror := none

def pool0 : Array CpInfo := pool [(5, u "<init>"), (0, u "()V"), (1, .class_ 10), (1, u "java/lang/Object")] 113

def k0c0 : Code := { maxStack := 0, maxLocals := 1, code := object_method_1_code, exceptionTable := #[], attributes := #[] }
def k0m0 : Method := { name := "<init>", desc := "()V", sig := { parameters := [], returnType := none }, accessFlags := 1, code := some k0c0 }
/-- java/lang/Object -/
def k0 : Class := { plain "java/lang/Object" none with
  accessFlags := 33
  interfaces := #[]
  cf := some (fileOf pool0 8 #[] #[{ accessFlags := 1, nameIndex := 5, descriptorIndex := 6, attributes := #[] }] 33 0 #[] #[])
  fields := #[]
  methods := #[k0m0]
  instanceTypes := #[]
  staticTypes := #[]
  resolved := Array.replicate 124 none
  statics := none }

def pool1 : Array CpInfo := pool [(2, .class_ 4), (1, u "java/lang/Object"), (0, u "<init>"), (0, u "()V"), (0, .integer 2147483647), (0, .class_ 9), (0, u "com/example/xorlane/xorlane/sim/Workload"), (0, .integer 1000000), (0, .integer 1000001), (0, .methodref 8 13), (0, .nameAndType 5 14), (0, u "(IIIIII)V"), (0, .methodref 8 16), (0, .nameAndType 17 18), (0, u "stores"), (0, u "()Z"), (0, .class_ 20), (0, u "com/example/xorlane/xorlane/sim/WorkloadStoresPinLaw"), (2, u "law"), (0, u "(IIIIII)Z")] 3

def k1m0 : Method := { name := "<init>", desc := "()V", sig := { parameters := [], returnType := none }, accessFlags := 1, code := none }
def k1c1 : Code := { maxStack := 8, maxLocals := 16, code := code, exceptionTable := #[], attributes := #[] }
def k1m1 : Method := { name := "law", desc := "(IIIIII)Z", sig := { parameters := [.int, .int, .int, .int, .int, .int], returnType := some .boolean }, accessFlags := 9, code := some k1c1 }
/-- com/example/xorlane/xorlane/sim/WorkloadStoresPinLaw -/
def k1 : Class := { plain "com/example/xorlane/xorlane/sim/WorkloadStoresPinLaw" (some 0) with
  accessFlags := 49
  interfaces := #[]
  cf := some (fileOf pool1 19 #[] #[{ accessFlags := 1, nameIndex := 5, descriptorIndex := 6, attributes := #[] }, { accessFlags := 9, nameIndex := 23, descriptorIndex := 24, attributes := #[] }] 49 2 #[] #[])
  fields := #[]
  methods := #[k1m0, k1m1]
  instanceTypes := #[]
  staticTypes := #[]
  resolved := Array.replicate 28 none
  statics := none }

def pool2 : Array CpInfo := pool [(1, .methodref 2 3), (0, .class_ 4), (0, .nameAndType 5 6), (0, u "java/lang/Object"), (0, u "<init>"), (0, u "()V"), (0, .class_ 8), (0, u "java/lang/Record")] 13

def k2c0 : Code := { maxStack := 1, maxLocals := 1, code := jdk_30_method_1_code, exceptionTable := #[], attributes := #[] }
def k2m0 : Method := { name := "<init>", desc := "()V", sig := { parameters := [], returnType := none }, accessFlags := 4, code := some k2c0 }
/-- java/lang/Record -/
def k2 : Class := { plain "java/lang/Record" (some 0) with
  accessFlags := 1057
  interfaces := #[]
  cf := some (fileOf pool2 7 #[] #[{ accessFlags := 4, nameIndex := 5, descriptorIndex := 6, attributes := #[] }] 1057 2 #[] #[])
  fields := #[]
  methods := #[k2m0]
  instanceTypes := #[]
  staticTypes := #[]
  resolved := Array.replicate 22 none
  statics := none }

def pool3 : Array CpInfo := pool [(1, .methodref 2 3), (0, .class_ 4), (0, .nameAndType 5 6), (0, u "java/lang/Record"), (0, u "<init>"), (0, u "()V"), (0, .string 8), (0, u "itemPuts cannot be null"), (0, .methodref 10 11), (0, .class_ 12), (0, .nameAndType 13 14), (0, u "java/util/Objects"), (0, u "requireNonNull"), (0, u "(Ljava/lang/Object;Ljava/lang/String;)Ljava/lang/Object;"), (0, .string 16), (0, u "failures cannot be null"), (0, .class_ 18), (0, u "com/example/xorlane/xorlane/sim/Workload"), (0, .integer 1000000), (26, .fieldref 47 48), (0, .class_ 49), (0, .nameAndType 50 51), (0, u "com/example/xorlane/xorlane/sim/ItemPuts"), (0, u "LAST"), (0, u "Lcom/example/xorlane/xorlane/sim/ItemPuts;"), (2, .fieldref 17 55), (0, .nameAndType 56 57), (0, u "lookups"), (0, u "I"), (0, .fieldref 17 59), (0, .nameAndType 60 57), (0, u "keys"), (0, .fieldref 17 62), (0, .nameAndType 63 57), (0, u "settleMinutes"), (0, .fieldref 17 65), (0, .nameAndType 66 57), (0, u "ageMinutes"), (0, .fieldref 17 68), (0, .nameAndType 69 57), (0, u "values"), (0, .fieldref 17 71), (0, .nameAndType 72 57), (0, u "mutable"), (0, .fieldref 17 74), (0, .nameAndType 75 51), (0, u "itemPuts"), (0, .fieldref 17 77), (0, .nameAndType 78 79), (0, u "failures"), (0, u "Lcom/example/xorlane/xorlane/sim/Failures;"), (0, .methodref 17 81), (0, .nameAndType 5 82), (0, u "(IIIIIILcom/example/xorlane/xorlane/sim/ItemPuts;Lcom/example/xorlane/xorlane/sim/Failures;)V"), (0, .fieldref 84 85), (0, .class_ 86), (0, .nameAndType 87 79), (0, u "com/example/xorlane/xorlane/sim/Failures"), (0, u "NONE"), (15, u "stores"), (0, u "()Z"), (29, u "MAX_COUNT"), (1, u "MINUTE_MILLIS"), (0, u "J"), (5, u "(IIIIII)V")] 46

def k3c0 : Code := { maxStack := 8, maxLocals := 9, code := prog_161_method_1_code, exceptionTable := #[], attributes := #[] }
def k3m0 : Method := { name := "<init>", desc := "(IIIIIILcom/example/xorlane/xorlane/sim/ItemPuts;Lcom/example/xorlane/xorlane/sim/Failures;)V", sig := { parameters := [.int, .int, .int, .int, .int, .int, (.object "com/example/xorlane/xorlane/sim/ItemPuts"), (.object "com/example/xorlane/xorlane/sim/Failures")], returnType := none }, accessFlags := 1, code := some k3c0 }
def k3c1 : Code := { maxStack := 9, maxLocals := 7, code := prog_161_method_3_code, exceptionTable := #[], attributes := #[] }
def k3m1 : Method := { name := "<init>", desc := "(IIIIII)V", sig := { parameters := [.int, .int, .int, .int, .int, .int], returnType := none }, accessFlags := 1, code := some k3c1 }
def k3c2 : Code := { maxStack := 1, maxLocals := 1, code := prog_161_method_4_code, exceptionTable := #[], attributes := #[] }
def k3m2 : Method := { name := "stores", desc := "()Z", sig := { parameters := [], returnType := some .boolean }, accessFlags := 1, code := some k3c2 }
/-- com/example/xorlane/xorlane/sim/Workload -/
def k3 : Class := { plain "com/example/xorlane/xorlane/sim/Workload" (some 2) with
  accessFlags := 49
  interfaces := #[]
  cf := some (fileOf pool3 17 #[] #[{ accessFlags := 1, nameIndex := 5, descriptorIndex := 82, attributes := #[] }, { accessFlags := 1, nameIndex := 5, descriptorIndex := 143, attributes := #[] }, { accessFlags := 1, nameIndex := 103, descriptorIndex := 104, attributes := #[] }] 49 2 #[] #[{ accessFlags := 18, nameIndex := 56, descriptorIndex := 57, attributes := #[] }, { accessFlags := 18, nameIndex := 60, descriptorIndex := 57, attributes := #[] }, { accessFlags := 18, nameIndex := 63, descriptorIndex := 57, attributes := #[] }, { accessFlags := 18, nameIndex := 66, descriptorIndex := 57, attributes := #[] }, { accessFlags := 18, nameIndex := 69, descriptorIndex := 57, attributes := #[] }, { accessFlags := 18, nameIndex := 72, descriptorIndex := 57, attributes := #[] }, { accessFlags := 18, nameIndex := 75, descriptorIndex := 51, attributes := #[] }, { accessFlags := 18, nameIndex := 78, descriptorIndex := 79, attributes := #[] }, { accessFlags := 25, nameIndex := 134, descriptorIndex := 57, attributes := #[] }, { accessFlags := 24, nameIndex := 136, descriptorIndex := 137, attributes := #[] }])
  fields := #[{ name := "lookups", type := .int, accessFlags := 18, slot := 0, constantValue := 0 }, { name := "keys", type := .int, accessFlags := 18, slot := 1, constantValue := 0 }, { name := "settleMinutes", type := .int, accessFlags := 18, slot := 2, constantValue := 0 }, { name := "ageMinutes", type := .int, accessFlags := 18, slot := 3, constantValue := 0 }, { name := "values", type := .int, accessFlags := 18, slot := 4, constantValue := 0 }, { name := "mutable", type := .int, accessFlags := 18, slot := 5, constantValue := 0 }, { name := "itemPuts", type := (.object "com/example/xorlane/xorlane/sim/ItemPuts"), accessFlags := 18, slot := 6, constantValue := 0 }, { name := "failures", type := (.object "com/example/xorlane/xorlane/sim/Failures"), accessFlags := 18, slot := 7, constantValue := 0 }, { name := "MAX_COUNT", type := .int, accessFlags := 25, slot := 0, constantValue := 0 }, { name := "MINUTE_MILLIS", type := .long, accessFlags := 24, slot := 1, constantValue := 0 }]
  methods := #[k3m0, k3m1, k3m2]
  instanceTypes := #[.int, .int, .int, .int, .int, .int, (.object "com/example/xorlane/xorlane/sim/ItemPuts"), (.object "com/example/xorlane/xorlane/sim/Failures")]
  staticTypes := #[.int, .long]
  resolved := Array.replicate 190 none
  statics := none }

def pool4 : Array CpInfo := pool [(1, .class_ 2), (0, u "java/lang/constant/Constable"), (0, .class_ 4), (0, u "java/lang/Object")] 6

/-- java/lang/constant/Constable -/
def k4 : Class := { plain "java/lang/constant/Constable" (some 0) with
  accessFlags := 1537
  interfaces := #[]
  cf := some (fileOf pool4 1 #[] #[] 1537 3 #[] #[])
  fields := #[]
  methods := #[]
  instanceTypes := #[]
  staticTypes := #[]
  resolved := Array.replicate 11 none
  statics := none }

def pool5 : Array CpInfo := pool [(1, .class_ 2), (0, u "java/lang/Comparable"), (0, .class_ 4), (0, u "java/lang/Object")] 7

/-- java/lang/Comparable -/
def k5 : Class := { plain "java/lang/Comparable" (some 0) with
  accessFlags := 1537
  interfaces := #[]
  cf := some (fileOf pool5 1 #[] #[] 1537 3 #[] #[])
  fields := #[]
  methods := #[]
  instanceTypes := #[]
  staticTypes := #[]
  resolved := Array.replicate 12 none
  statics := none }

def pool6 : Array CpInfo := pool [(1, .class_ 2), (0, u "java/io/Serializable"), (0, .class_ 4), (0, u "java/lang/Object")] 2

/-- java/io/Serializable -/
def k6 : Class := { plain "java/io/Serializable" (some 0) with
  accessFlags := 1537
  interfaces := #[]
  cf := some (fileOf pool6 1 #[] #[] 1537 3 #[] #[])
  fields := #[]
  methods := #[]
  instanceTypes := #[]
  staticTypes := #[]
  resolved := Array.replicate 7 none
  statics := none }

def pool7 : Array CpInfo := pool [(2, .class_ 4), (1, u "java/lang/Enum"), (0, u "name"), (0, u "Ljava/lang/String;"), (2, u "ordinal"), (0, u "I"), (1, .class_ 14), (1, u "java/lang/Object"), (4, u "hash"), (86, .class_ 108), (1, u "java/lang/Enum$EnumDesc"), (2, .class_ 112), (0, u "java/lang/constant/Constable"), (0, .class_ 114), (0, u "java/lang/Comparable"), (0, .class_ 116), (0, u "java/io/Serializable")] 87

/-- java/lang/Enum -/
def k7 : Class := { plain "java/lang/Enum" (some 0) with
  accessFlags := 1057
  interfaces := #[4, 5, 6]
  cf := some (fileOf pool7 2 #[.nestMembers #[106]] #[] 1057 12 #[111, 113, 115] #[{ accessFlags := 18, nameIndex := 5, descriptorIndex := 6, attributes := #[] }, { accessFlags := 18, nameIndex := 9, descriptorIndex := 10, attributes := #[] }, { accessFlags := 2, nameIndex := 19, descriptorIndex := 10, attributes := #[] }])
  fields := #[{ name := "name", type := (.object "java/lang/String"), accessFlags := 18, slot := 0, constantValue := 0 }, { name := "ordinal", type := .int, accessFlags := 18, slot := 1, constantValue := 0 }, { name := "hash", type := .int, accessFlags := 2, slot := 2, constantValue := 0 }]
  methods := #[]
  instanceTypes := #[(.object "java/lang/String"), .int, .int]
  staticTypes := #[]
  resolved := Array.replicate 204 none
  statics := none }

def pool8 : Array CpInfo := pool [(1, .class_ 2), (0, u "com/example/xorlane/xorlane/sim/ItemPuts"), (2, u "LAST"), (0, u "Lcom/example/xorlane/xorlane/sim/ItemPuts;"), (2, u "FIRST"), (2, u "KEPT"), (2, u "$VALUES"), (0, u "[Lcom/example/xorlane/xorlane/sim/ItemPuts;"), (6, .class_ 25), (1, u "java/lang/Enum")] 25

/-- com/example/xorlane/xorlane/sim/ItemPuts -/
def k8 : Class := { plain "com/example/xorlane/xorlane/sim/ItemPuts" (some 7) with
  accessFlags := 16433
  interfaces := #[]
  cf := some (fileOf pool8 1 #[] #[] 16433 23 #[] #[{ accessFlags := 16409, nameIndex := 5, descriptorIndex := 6, attributes := #[] }, { accessFlags := 16409, nameIndex := 9, descriptorIndex := 6, attributes := #[] }, { accessFlags := 16409, nameIndex := 12, descriptorIndex := 6, attributes := #[] }, { accessFlags := 4122, nameIndex := 15, descriptorIndex := 16, attributes := #[] }])
  fields := #[{ name := "LAST", type := (.object "com/example/xorlane/xorlane/sim/ItemPuts"), accessFlags := 16409, slot := 0, constantValue := 0 }, { name := "FIRST", type := (.object "com/example/xorlane/xorlane/sim/ItemPuts"), accessFlags := 16409, slot := 1, constantValue := 0 }, { name := "KEPT", type := (.object "com/example/xorlane/xorlane/sim/ItemPuts"), accessFlags := 16409, slot := 2, constantValue := 0 }, { name := "$VALUES", type := (.array (.object "com/example/xorlane/xorlane/sim/ItemPuts")), accessFlags := 4122, slot := 3, constantValue := 0 }]
  methods := #[]
  instanceTypes := #[(.object "java/lang/String"), .int, .int]
  staticTypes := #[(.object "com/example/xorlane/xorlane/sim/ItemPuts"), (.object "com/example/xorlane/xorlane/sim/ItemPuts"), (.object "com/example/xorlane/xorlane/sim/ItemPuts"), (.array (.object "com/example/xorlane/xorlane/sim/ItemPuts"))]
  resolved := Array.replicate 51 none
  statics := some 0 }

def pool9 : Array CpInfo := pool [(2, .class_ 4), (1, u "java/lang/Record"), (13, .class_ 20), (1, u "com/example/xorlane/xorlane/sim/Failures"), (30, u "kill"), (0, u "Ljava/math/BigDecimal;"), (2, u "churnMinutes"), (0, u "I"), (2, u "churnRate"), (2, u "reannounceMinutes"), (43, u "NONE"), (0, u "Lcom/example/xorlane/xorlane/sim/Failures;"), (0, u "DEFAULT_REANNOUNCE_MINUTES")] 45

/-- com/example/xorlane/xorlane/sim/Failures -/
def k9 : Class := { plain "com/example/xorlane/xorlane/sim/Failures" (some 2) with
  accessFlags := 49
  interfaces := #[]
  cf := some (fileOf pool9 18 #[] #[] 49 2 #[] #[{ accessFlags := 18, nameIndex := 51, descriptorIndex := 52, attributes := #[] }, { accessFlags := 18, nameIndex := 55, descriptorIndex := 56, attributes := #[] }, { accessFlags := 18, nameIndex := 59, descriptorIndex := 52, attributes := #[] }, { accessFlags := 18, nameIndex := 62, descriptorIndex := 56, attributes := #[] }, { accessFlags := 25, nameIndex := 108, descriptorIndex := 56, attributes := #[] }, { accessFlags := 25, nameIndex := 106, descriptorIndex := 107, attributes := #[] }])
  fields := #[{ name := "kill", type := (.object "java/math/BigDecimal"), accessFlags := 18, slot := 0, constantValue := 0 }, { name := "churnMinutes", type := .int, accessFlags := 18, slot := 1, constantValue := 0 }, { name := "churnRate", type := (.object "java/math/BigDecimal"), accessFlags := 18, slot := 2, constantValue := 0 }, { name := "reannounceMinutes", type := .int, accessFlags := 18, slot := 3, constantValue := 0 }, { name := "DEFAULT_REANNOUNCE_MINUTES", type := .int, accessFlags := 25, slot := 0, constantValue := 0 }, { name := "NONE", type := (.object "com/example/xorlane/xorlane/sim/Failures"), accessFlags := 25, slot := 1, constantValue := 0 }]
  methods := #[]
  instanceTypes := #[(.object "java/math/BigDecimal"), .int, (.object "java/math/BigDecimal"), .int]
  staticTypes := #[.int, (.object "com/example/xorlane/xorlane/sim/Failures")]
  resolved := Array.replicate 154 none
  statics := some 1 }

def pool10 : Array CpInfo := pool [(2, .class_ 4), (1, u "java/lang/CharSequence"), (42, .class_ 48), (0, u "java/lang/CharSequence$1CodePointIterator"), (10, .class_ 60), (0, u "java/lang/CharSequence$1CharIterator"), (5, .class_ 67), (0, u "java/lang/Object")] 63

/-- java/lang/CharSequence -/
def k10 : Class := { plain "java/lang/CharSequence" (some 0) with
  accessFlags := 1537
  interfaces := #[]
  cf := some (fileOf pool10 2 #[.nestMembers #[47, 59]] #[] 1537 66 #[] #[])
  fields := #[]
  methods := #[]
  instanceTypes := #[]
  staticTypes := #[]
  resolved := Array.replicate 131 none
  statics := none }

def pool11 : Array CpInfo := pool [(1, .class_ 2), (0, u "java/lang/constant/ConstantDesc"), (0, .class_ 4), (0, u "java/lang/Object")] 32

/-- java/lang/constant/ConstantDesc -/
def k11 : Class := { plain "java/lang/constant/ConstantDesc" (some 0) with
  accessFlags := 1537
  interfaces := #[]
  cf := some (fileOf pool11 1 #[] #[] 1537 3 #[] #[])
  fields := #[]
  methods := #[]
  instanceTypes := #[]
  staticTypes := #[]
  resolved := Array.replicate 37 none
  statics := none }

def pool12 : Array CpInfo := pool [(2, .class_ 4), (1, u "java/lang/Object"), (0, u "<init>"), (0, u "()V"), (3, .class_ 12), (1, u "java/lang/String"), (0, u "value"), (0, u "[B"), (2, u "coder"), (0, u "B"), (2, u "hash"), (0, u "I"), (2, u "hashIsZero"), (0, u "Z"), (13, u "COMPACT_STRINGS"), (534, .class_ 576), (0, u "java/lang/CharSequence"), (22, u "CASE_INSENSITIVE_ORDER"), (0, u "Ljava/util/Comparator;"), (500, u "serialPersistentFields"), (0, u "[Ljava/io/ObjectStreamField;"), (0, .class_ 1104), (0, u "java/lang/String$CaseInsensitiveComparator"), (1, .class_ 1107), (0, u "java/io/Serializable"), (0, .class_ 1109), (0, u "java/lang/Comparable"), (0, .class_ 1111), (0, u "java/lang/constant/Constable"), (0, .class_ 1113), (0, u "java/lang/constant/ConstantDesc"), (2, u "serialVersionUID"), (0, u "J"), (3, u "REPL"), (0, u "C"), (2, u "LATIN1"), (1, u "UTF16")] 323

def k12m0 : Method := { name := "<init>", desc := "()V", sig := { parameters := [], returnType := none }, accessFlags := 1, code := none }
/-- java/lang/String -/
def k12 : Class := { plain "java/lang/String" (some 0) with
  accessFlags := 49
  interfaces := #[6, 5, 10, 4, 11]
  cf := some (fileOf pool12 10 #[.nestMembers #[1103]] #[{ accessFlags := 1, nameIndex := 5, descriptorIndex := 6, attributes := #[] }] 49 2 #[1106, 1108, 575, 1110, 1112] #[{ accessFlags := 18, nameIndex := 13, descriptorIndex := 14, attributes := #[] }, { accessFlags := 18, nameIndex := 17, descriptorIndex := 18, attributes := #[] }, { accessFlags := 2, nameIndex := 21, descriptorIndex := 22, attributes := #[] }, { accessFlags := 2, nameIndex := 25, descriptorIndex := 26, attributes := #[] }, { accessFlags := 26, nameIndex := 1116, descriptorIndex := 1117, attributes := #[] }, { accessFlags := 24, nameIndex := 40, descriptorIndex := 26, attributes := #[] }, { accessFlags := 26, nameIndex := 1101, descriptorIndex := 1102, attributes := #[] }, { accessFlags := 26, nameIndex := 1121, descriptorIndex := 1122, attributes := #[] }, { accessFlags := 25, nameIndex := 599, descriptorIndex := 600, attributes := #[] }, { accessFlags := 24, nameIndex := 1125, descriptorIndex := 18, attributes := #[] }, { accessFlags := 24, nameIndex := 1127, descriptorIndex := 18, attributes := #[] }])
  fields := #[{ name := "value", type := (.array .byte), accessFlags := 18, slot := 0, constantValue := 0 }, { name := "coder", type := .byte, accessFlags := 18, slot := 1, constantValue := 0 }, { name := "hash", type := .int, accessFlags := 2, slot := 2, constantValue := 0 }, { name := "hashIsZero", type := .boolean, accessFlags := 2, slot := 3, constantValue := 0 }, { name := "serialVersionUID", type := .long, accessFlags := 26, slot := 0, constantValue := 0 }, { name := "COMPACT_STRINGS", type := .boolean, accessFlags := 24, slot := 1, constantValue := 0 }, { name := "serialPersistentFields", type := (.array (.object "java/io/ObjectStreamField")), accessFlags := 26, slot := 2, constantValue := 0 }, { name := "REPL", type := .char, accessFlags := 26, slot := 3, constantValue := 0 }, { name := "CASE_INSENSITIVE_ORDER", type := (.object "java/util/Comparator"), accessFlags := 25, slot := 4, constantValue := 0 }, { name := "LATIN1", type := .byte, accessFlags := 24, slot := 5, constantValue := 0 }, { name := "UTF16", type := .byte, accessFlags := 24, slot := 6, constantValue := 0 }]
  methods := #[k12m0]
  instanceTypes := #[(.array .byte), .byte, .int, .boolean]
  staticTypes := #[.long, .boolean, (.array (.object "java/io/ObjectStreamField")), .char, (.object "java/util/Comparator"), .byte, .byte]
  resolved := Array.replicate 1451 none
  statics := none }

def pool13 : Array CpInfo := pool [(2, .class_ 4), (1, u "java/lang/Object"), (0, u "<init>"), (0, u "()V"), (35, .class_ 44), (1, u "java/util/Objects"), (0, u "requireNonNull"), (48, u "(Ljava/lang/Object;Ljava/lang/String;)Ljava/lang/Object;")] 89

def k13m0 : Method := { name := "<init>", desc := "()V", sig := { parameters := [], returnType := none }, accessFlags := 2, code := none }
def k13c1 : Code := { maxStack := 3, maxLocals := 2, code := jdk_31_method_11_code, exceptionTable := #[], attributes := #[] }
def k13m1 : Method := { name := "requireNonNull", desc := "(Ljava/lang/Object;Ljava/lang/String;)Ljava/lang/Object;", sig := { parameters := [(.object "java/lang/Object"), (.object "java/lang/String")], returnType := some (.object "java/lang/Object") }, accessFlags := 9, code := some k13c1 }
/-- java/util/Objects -/
def k13 : Class := { plain "java/util/Objects" (some 0) with
  accessFlags := 49
  interfaces := #[]
  cf := some (fileOf pool13 42 #[] #[{ accessFlags := 2, nameIndex := 5, descriptorIndex := 6, attributes := #[] }, { accessFlags := 9, nameIndex := 45, descriptorIndex := 94, attributes := #[] }] 49 2 #[] #[])
  fields := #[]
  methods := #[k13m0, k13m1]
  instanceTypes := #[]
  staticTypes := #[]
  resolved := Array.replicate 184 none
  statics := none }

def pool14 : Array CpInfo := pool [(1, u "java/lang/Cloneable"), (0, .class_ 1), (0, u "java/lang/Object"), (0, .class_ 3)] 3

/-- java/lang/Cloneable -/
def k14 : Class := { plain "java/lang/Cloneable" (some 0) with
  accessFlags := 1537
  interfaces := #[]
  cf := some (fileOf pool14 2 #[] #[] 1537 4 #[] #[])
  fields := #[]
  methods := #[]
  instanceTypes := #[]
  staticTypes := #[]
  resolved := Array.replicate 8 none
  statics := none }

/-- the primitive byte -/
def k15 : Class := { plain "byte" none with kind := .primitive 'B', accessFlags := 0x411 }
/-- [B -/
def k16 : Class := { plain "[B" (some 0) with kind := .array 15 .byte, interfaces := #[14, 6], accessFlags := 1041 }

/-- the primitive int -/
def k17 : Class := { plain "int" none with kind := .primitive 'I', accessFlags := 0x411 }
/-- [I -/
def k18 : Class := { plain "[I" (some 0) with kind := .array 17 .int, interfaces := #[14, 6], accessFlags := 1041 }

def heap : Heap := #[{ cls := 8, slots := #[.ref 2, .null, .null, .null], vm := .statics 8 },
  { cls := 9, slots := #[.int 0, .ref 3], vm := .statics 9 },
  { cls := 8, slots := #[.null, .int 0, .int 0], vm := .none },
  { cls := 9, slots := #[.null, .int 0, .null, .int 0], vm := .none }]
def classes : Array Class := #[k0, k1, k2, k3, k4, k5, k6, k7, k8, k9, k10, k11, k12, k13, k14, k15, k16, k17, k18]
def interned : List (Array UInt16 × Addr) := []
def slotsUsed : Nat := 13
def theMethod : MethodId := ⟨1, 1⟩
def args0 : Array Value := #[.int 5, .int 7, .int 1, .int 2, .int 3, .int 0]
def aboutOver (below : List Frame) : State where
  vm := { classes := classes, interned := interned.toArray }
  heap := heap
  slotsUsed := slotsUsed
  threads := #[{ frames := .invoking theMethod args0 :: below }]
def below0 : List Frame := [.native { method := ⟨0, 0⟩, args := #[] }]
def about1 : State := aboutOver below0
def p0 : Program := .bare "" "" ""
def e0 : Env := launch0.env 0 0 0
theorem w_frames : about1.frames = Frame.invoking theMethod args0 :: below0 := rfl
set_option maxRecDepth 65536 in
theorem w_args : argsFit about1.vm theMethod args0 = true := by decide +kernel
set_option maxRecDepth 65536 in
theorem w_heap : heapFits about1 = true := by decide +kernel
set_option maxRecDepth 65536 in
theorem w_runnable : about1.curStatus? = some .runnable := by decide +kernel
set_option maxRecDepth 65536 in
theorem w_alone : about1.alone = true := by decide +kernel
set_option maxRecDepth 65536 in
theorem w_named : about1.methodNamed? x = some theMethod := by decide +kernel
set_option maxRecDepth 65536 in
theorem w_hears : about1.hears theMethod below0 = true := by decide +kernel
set_option maxRecDepth 65536 in
theorem w_ripe : about1.ripe theMethod args0 below0 = true := by decide +kernel
theorem w_running : about1.status = .running := rfl
set_option maxRecDepth 65536 in
theorem w_room : about1.hasRoom e0.platform room_1 = true :=
  launch0.hasRoom_least _ room_1 (by decide +kernel) (by decide +kernel) (by decide +kernel) (by decide +kernel) (by decide +kernel) (by decide +kernel)
theorem allAtoms_all (ts : List Jvm.Cond) (a : Array Jvm.Value) (st : Jvm.State) : (allAtoms ts).before a st = ts.all (fun c => c.before a st) := by
  induction ts with
  | nil => rfl
  | cons c t ih =>
    show (Jvm.Cond.and c (allAtoms t)).before a st = _
    rw [Jvm.Cond.before_and, ih, List.all_cons]
def words1 : List Jvm.Cond := Jvm.Cond.code x code maxLocals ret :: tables_1
/-- a 'code' word, met by the world's own term for the bytes: nothing is compared byte by byte -/
theorem code_word {y : MethodName} {bytes : ByteArray} {mx : Nat} {rt : Option FieldType} {a : Array Value} {s : State} {m : MethodId} {meth : Method} {c : Code} (h1 : s.methodNamed? y = some m) (h2 : s.vm.method? m = some meth) (h3 : meth.code = some c) (h4 : c.code = bytes)
    (h5 : (c.maxLocals == mx && c.exceptionTable.isEmpty && decide (c.maxStack ≤ mostOperands) && decide (meth.sig.returnType = rt) && !meth.locks && decide (parseMethodDescriptor y.desc = some meth.sig)) = true) : (Jvm.Cond.code y bytes mx rt).before a s = true := by
  simp only [Bool.and_eq_true, beq_iff_eq, Bool.not_eq_true', decide_eq_true_eq] at h5
  obtain ⟨⟨⟨⟨⟨g1, g2⟩, g3⟩, g4⟩, g5⟩, g6⟩ := h5
  simp [Cond.before, Cond.holds, Cond.value, h1, h2, h3, h4, g1, g2, g3, g4, g5, g6]
def isCode : Jvm.Cond → Bool
  | .code _ _ _ _ => true
  | _ => false
theorem all_split {L : List Jvm.Cond} {P : Jvm.Cond → Bool} (h1 : L.all (fun c => isCode c || P c) = true) (h2 : ∀ c ∈ L.filter isCode, P c = true) : L.all P = true := by
  refine List.all_eq_true.mpr fun c hc => ?_
  have h := List.all_eq_true.mp h1 c hc
  rcases Bool.eq_false_or_eq_true (isCode c) with hi | hi
  · exact h2 c (List.mem_filter.mpr ⟨hc, hi⟩)
  · simpa [hi] using h
set_option maxRecDepth 65536 in
theorem w_c0 : (Jvm.Cond.code x code maxLocals ret).before args0 about1 = true := code_word (m := ⟨1, 1⟩) (meth := k1m1) (c := k1c1) (by decide +kernel) rfl rfl rfl (by decide +kernel)
set_option maxRecDepth 65536 in
theorem w_c1 : (Jvm.Cond.code ({ cls := "com/example/xorlane/xorlane/sim/Workload", name := "<init>", desc := "(IIIIII)V" } : Jvm.MethodName) prog_161_method_3_code (7 : Nat) (Option.none : Option Jvm.ClassFile.FieldType)).before args0 about1 = true := code_word (m := ⟨3, 1⟩) (meth := k3m1) (c := k3c1) (by decide +kernel) rfl rfl rfl (by decide +kernel)
set_option maxRecDepth 65536 in
theorem w_c2 : (Jvm.Cond.code ({ cls := "com/example/xorlane/xorlane/sim/Workload", name := "<init>", desc := "(IIIIIILcom/example/xorlane/xorlane/sim/ItemPuts;Lcom/example/xorlane/xorlane/sim/Failures;)V" } : Jvm.MethodName) prog_161_method_1_code (9 : Nat) (Option.none : Option Jvm.ClassFile.FieldType)).before args0 about1 = true := code_word (m := ⟨3, 0⟩) (meth := k3m0) (c := k3c0) (by decide +kernel) rfl rfl rfl (by decide +kernel)
set_option maxRecDepth 65536 in
theorem w_c3 : (Jvm.Cond.code ({ cls := "java/lang/Record", name := "<init>", desc := "()V" } : Jvm.MethodName) jdk_30_method_1_code (1 : Nat) (Option.none : Option Jvm.ClassFile.FieldType)).before args0 about1 = true := code_word (m := ⟨2, 0⟩) (meth := k2m0) (c := k2c0) (by decide +kernel) rfl rfl rfl (by decide +kernel)
set_option maxRecDepth 65536 in
theorem w_c4 : (Jvm.Cond.code ({ cls := "java/lang/Object", name := "<init>", desc := "()V" } : Jvm.MethodName) object_method_1_code (1 : Nat) (Option.none : Option Jvm.ClassFile.FieldType)).before args0 about1 = true := code_word (m := ⟨0, 0⟩) (meth := k0m0) (c := k0c0) (by decide +kernel) rfl rfl rfl (by decide +kernel)
set_option maxRecDepth 65536 in
theorem w_c5 : (Jvm.Cond.code ({ cls := "java/util/Objects", name := "requireNonNull", desc := "(Ljava/lang/Object;Ljava/lang/String;)Ljava/lang/Object;" } : Jvm.MethodName) jdk_31_method_11_code (2 : Nat) (Option.some (Jvm.ClassFile.FieldType.object "java/lang/Object"))).before args0 about1 = true := code_word (m := ⟨13, 1⟩) (meth := k13m1) (c := k13c1) (by decide +kernel) rfl rfl rfl (by decide +kernel)
set_option maxRecDepth 65536 in
theorem w_c6 : (Jvm.Cond.code ({ cls := "com/example/xorlane/xorlane/sim/Workload", name := "stores", desc := "()Z" } : Jvm.MethodName) prog_161_method_4_code (1 : Nat) (Option.some Jvm.ClassFile.FieldType.boolean)).before args0 about1 = true := code_word (m := ⟨3, 2⟩) (meth := k3m2) (c := k3c2) (by decide +kernel) rfl rfl rfl (by decide +kernel)
def codes1 : List Jvm.Cond := [Jvm.Cond.code x code maxLocals ret, Jvm.Cond.code ({ cls := "com/example/xorlane/xorlane/sim/Workload", name := "<init>", desc := "(IIIIII)V" } : Jvm.MethodName) prog_161_method_3_code (7 : Nat) (Option.none : Option Jvm.ClassFile.FieldType), Jvm.Cond.code ({ cls := "com/example/xorlane/xorlane/sim/Workload", name := "<init>", desc := "(IIIIIILcom/example/xorlane/xorlane/sim/ItemPuts;Lcom/example/xorlane/xorlane/sim/Failures;)V" } : Jvm.MethodName) prog_161_method_1_code (9 : Nat) (Option.none : Option Jvm.ClassFile.FieldType), Jvm.Cond.code ({ cls := "java/lang/Record", name := "<init>", desc := "()V" } : Jvm.MethodName) jdk_30_method_1_code (1 : Nat) (Option.none : Option Jvm.ClassFile.FieldType), Jvm.Cond.code ({ cls := "java/lang/Object", name := "<init>", desc := "()V" } : Jvm.MethodName) object_method_1_code (1 : Nat) (Option.none : Option Jvm.ClassFile.FieldType), Jvm.Cond.code ({ cls := "java/util/Objects", name := "requireNonNull", desc := "(Ljava/lang/Object;Ljava/lang/String;)Ljava/lang/Object;" } : Jvm.MethodName) jdk_31_method_11_code (2 : Nat) (Option.some (Jvm.ClassFile.FieldType.object "java/lang/Object")), Jvm.Cond.code ({ cls := "com/example/xorlane/xorlane/sim/Workload", name := "stores", desc := "()Z" } : Jvm.MethodName) prog_161_method_4_code (1 : Nat) (Option.some Jvm.ClassFile.FieldType.boolean)]
set_option maxRecDepth 65536 in
theorem codes_eq : words1.filter isCode = codes1 := rfl
theorem w_codes : ∀ c ∈ words1.filter isCode, c.before args0 about1 = true := by
  rw [codes_eq]
  intro c hc
  simp only [codes1, List.mem_cons, List.not_mem_nil, or_false] at hc
  rcases hc with rfl | rfl | rfl | rfl | rfl | rfl | rfl
  · exact w_c0
  · exact w_c1
  · exact w_c2
  · exact w_c3
  · exact w_c4
  · exact w_c5
  · exact w_c6
set_option maxRecDepth 65536 in
theorem w_t1 : (words1.take 24).all (fun c => isCode c || c.before args0 about1) = true := by decide +kernel
set_option maxRecDepth 65536 in
theorem w_t2 : ((words1.drop 24).take 24).all (fun c => isCode c || c.before args0 about1) = true := by decide +kernel
set_option maxRecDepth 65536 in
theorem w_t3 : ((words1.drop 24).drop 24).all (fun c => isCode c || c.before args0 about1) = true := by decide +kernel
theorem w_tables : (allAtoms (Jvm.Cond.code x code maxLocals ret :: tables_1)).before args0 about1 = true := by
  rw [allAtoms_all]
  show words1.all (fun c => c.before args0 about1) = true
  refine all_split ?_ w_codes
  rw [← List.take_append_drop 24 words1, List.all_append, w_t1, ← List.take_append_drop 24 (words1.drop 24), List.all_append, w_t2, w_t3]
  rfl
set_option maxRecDepth 65536 in
theorem w_case : (Jvm.Cond.and given_1 narrow_1).before args0 about1 = true := by decide +kernel
theorem w_applies : (headSpec (Jvm.Cond.code x code maxLocals ret :: tables_1) room_1).applies x e0.platform about1 = true :=
  (Spec.applies_iff w_frames).mpr ⟨w_running, w_runnable, w_alone, w_named, w_hears, w_ripe, w_room, w_tables⟩
theorem atStart : AtStart classFile x code maxLocals ret World_1 tables_1 room_1 Calls_1 rest_1 Pre_1 launch0 p0 e0 about1 theMethod args0 below0 :=
  ⟨lists_1, trivial, launch0.admits_env _ _ _, launch0.least_env, fairChoices_fair.cas, fairChoices_fair.clock, w_frames, w_args, w_heap, w_applies, trivial, trivial, w_case⟩
end start1
theorem witness_1 : WitnessClaimed_1 := ⟨start1.p0, start1.e0, start1.about1, start1.theMethod, start1.args0, start1.below0, start1.atStart⟩
end Jvm.Pilot.@@N@@
