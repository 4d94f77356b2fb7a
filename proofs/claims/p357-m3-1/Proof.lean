import JvmDerived
import JvmDerived.Pilot.@@N@@Statement
import JvmDerived.Pilot.@@N@@Code
set_option linter.unusedVariables false
set_option linter.unusedSimpArgs false
namespace Jvm.RoadKit
open Sem ClassFile Op Lib Jvm.Stand Jvm.Free Jvm.LawKit
section New
variable {p : Program} {l : Launch} {e : Env} {R : Room} {s : State} {m : MethodId} {args : Array Value} {below : List Frame} {meth : Method} {c : Code} {T : State} {locs : List Loc} {cells slots : Nat}
theorem retI (X : Stand p l e R s m args below meth c T locs cells slots) (hx : p.tables.exec = Jvm.exec) {pc : Nat} {Ls : Array Slot} {z : Int32} {rest : List Value} (hret : meth.sig.returnType = some .int) (hd : decode c.code pc = .ok (.ireturn, 1)) {fs : List Frame}
    (hl : ∀ (f : JFrame) (acts : List Action), f.method = m → f.locked = none → f.entered = [] → (doReturn e (T.setTop f) acts (some (.int z))).1 = T.setFrames fs) : Steps p.tables e below (T.setTop (mkF m pc Ls (.int z :: rest))) (T.setFrames fs) := by
  have hm' : T.vm.method? m = some meth := X.method'
  have hn : narrow .int (.int z) = .int z := rfl
  show Steps p.tables e below (T.setTop { method := m, pc := pc, locals := Ls, stack := _ :: rest, locked := none }) _
  jvm_step X.here [X.here.top, hx, hd, hm', hret, hn]
  first | (intro acts; rw [hl _ acts rfl rfl rfl]) | rw [hl _ _ rfl rfl rfl]
  exact Steps.refl _
/-- from A the run ends as K says -/
abbrev own_Fin (p : Program) (e : Env) (below : List Frame) (K : Outcome → State → Prop) (A : State) : Prop := ∃ s₂ o, Steps p.tables e below A s₂ ∧ s₂.status = .running ∧ Ended s₂ below o ∧ K o s₂
theorem own_go {K : Outcome → State → Prop} {A B : State} (h : ∀ t, Steps p.tables e below B t → Steps p.tables e below A t) (k : own_Fin p e below K B) : own_Fin p e below K A := by
  obtain ⟨s₂, o, hs, r⟩ := k
  exact ⟨s₂, o, h _ hs, r⟩
end New
end Jvm.RoadKit

namespace Jvm.Pilot.@@N@@
open Jvm Jvm.ClassFile Sem Op Lib Jvm.Free Jvm.Stand Jvm.LawKit Jvm.RoadKit Bundle Jvm.Pilot.@@N@@.Jvm.D
theorem own_count (c : Int32) {count : Int32} (h : count = (if (1 : Int32) < (c &&& (2147483647 : Int32)) then (c &&& (2147483647 : Int32)) else (1 : Int32))) : 1 ≤ count.toInt := by
  split at h
  · next q => subst h; rw [Int32.lt_iff_toInt_lt] at q; have : (1 : Int32).toInt = 1 := by decide
              omega
  · subst h; decide
theorem own_p (q : Int32) {pp : Int32} (h : pp = ((1 : Int32) + ((q &&& (2147483647 : Int32)) % (100 : Int32)))) : 1 ≤ pp.toInt ∧ pp.toInt ≤ 100 := by
  subst h
  have h1 := c_mask q 2147483647 31 (by decide) (by decide)
  have h2 := (c_irem (q &&& 2147483647) 100 100 (by decide)).1
  have h3 := c_iadd 1 ((q &&& (2147483647 : Int32)) % (100 : Int32))
  have h4 := rng32 ((1 : Int32) + ((q &&& (2147483647 : Int32)) % (100 : Int32)))
  have h5 : (1 : Int32).toInt = 1 := by decide
  have h6 := rng32 q
  omega
theorem own_rank (c p : Int32) (h1 : 1 ≤ c.toInt) (h2 : 1 ≤ p.toInt) (h3 : p.toInt ≤ 100) {r : Int32} (hr : r = (((((p.toInt64) * (c.toInt64)) + (99 : Int64)) / (100 : Int64)).toInt32) - (1 : Int32)) :
    ¬ (r.toInt64) < (0 : Int64) ∧ ¬ ((c.toInt64) - (1 : Int64)) < (r.toInt64) ∧ ¬ (((r.toInt64) + (1 : Int64)) * (100 : Int64)) < ((p.toInt64) * (c.toInt64)) ∧ ((r.toInt64) * (100 : Int64)) < ((p.toInt64) * (c.toInt64)) := by
  subst hr
  simp only [Int64.lt_iff_toInt_lt, c_i2l]
  have k1 : (1 : Int64).toInt = 1 := by decide
  have k0 : (0 : Int64).toInt = 0 := by decide
  have k100 : (100 : Int64).toInt = 100 := by decide
  have k99 : (99 : Int64).toInt = 99 := by decide
  have j1 : (1 : Int32).toInt = 1 := by decide
  have rc := rng32 c
  have m1 : p.toInt * c.toInt ≤ 100 * c.toInt := Int.mul_le_mul_of_nonneg_right h3 (by omega)
  have m2 : 1 * c.toInt ≤ p.toInt * c.toInt := Int.mul_le_mul_of_nonneg_right h2 (by omega)
  have e1 : (p.toInt64 * c.toInt64).toInt = p.toInt * c.toInt := by
    have a := c_lmul p.toInt64 c.toInt64
    have b := rng64 (p.toInt64 * c.toInt64)
    rw [c_i2l, c_i2l] at a
    omega
  generalize p.toInt * c.toInt = P at *
  have e2 : (p.toInt64 * c.toInt64 + 99).toInt = P + 99 := by
    have a := c_ladd (p.toInt64 * c.toInt64) 99
    have b := rng64 (p.toInt64 * c.toInt64 + 99)
    omega
  have e3 : ((p.toInt64 * c.toInt64 + 99) / 100).toInt = (P + 99) / 100 := by
    have a := (c_ldiv (p.toInt64 * c.toInt64 + 99) 100 100 (by decide) (by decide)).1 (by omega)
    omega
  have e4 : ((p.toInt64 * c.toInt64 + 99) / 100).toInt32.toInt = (P + 99) / 100 := by
    have a := c_l2i ((p.toInt64 * c.toInt64 + 99) / 100)
    have b := rng32 ((p.toInt64 * c.toInt64 + 99) / 100).toInt32
    omega
  have e5 : (((p.toInt64 * c.toInt64 + 99) / 100).toInt32 - 1).toInt = (P + 99) / 100 - 1 := by
    have a := c_isub ((p.toInt64 * c.toInt64 + 99) / 100).toInt32 1
    have b := rng32 (((p.toInt64 * c.toInt64 + 99) / 100).toInt32 - 1)
    omega
  generalize (((p.toInt64 * c.toInt64 + 99) / 100).toInt32 - 1) = r at *
  have e6 : (r.toInt64).toInt = r.toInt := c_i2l r
  have e7 : (c.toInt64 - 1).toInt = c.toInt - 1 := by
    have a := c_lsub c.toInt64 1
    have b := rng64 (c.toInt64 - 1)
    rw [c_i2l] at a
    omega
  have e8 : (r.toInt64 + 1).toInt = r.toInt + 1 := by
    have a := c_ladd r.toInt64 1
    have b := rng64 (r.toInt64 + 1)
    omega
  have e9 : ((r.toInt64 + 1) * 100).toInt = (r.toInt + 1) * 100 := by
    have a := c_lmul (r.toInt64 + 1) 100
    have b := rng64 ((r.toInt64 + 1) * 100)
    rw [e8, k100] at a
    omega
  have e10 : (r.toInt64 * 100).toInt = r.toInt * 100 := by
    have a := c_lmul r.toInt64 100
    have b := rng64 (r.toInt64 * 100)
    rw [e6, k100] at a
    omega
  omega
theorem d1_0 : decode jdk_29_method_65_code 0 = .ok (.iload_n 0, 1) := by decide +kernel
theorem d1_1 : decode jdk_29_method_65_code 1 = .ok (.iload_n 1, 1) := by decide +kernel
theorem d1_2 : decode jdk_29_method_65_code 2 = .ok (.if_icmp .lt 7, 3) := by decide +kernel
theorem d1_5 : decode jdk_29_method_65_code 5 = .ok (.iload_n 0, 1) := by decide +kernel
theorem d1_6 : decode jdk_29_method_65_code 6 = .ok (.goto 4, 3) := by decide +kernel
theorem d1_9 : decode jdk_29_method_65_code 9 = .ok (.iload_n 1, 1) := by decide +kernel
theorem d1_10 : decode jdk_29_method_65_code 10 = .ok (.ireturn, 1) := by decide +kernel
theorem ef_rm1 (m : MethodId) (x0 : Int32) (x1 : Int32) : entryFrame m #[(.int x0), (.int x1)] 2 = mkF m 0 #[.val (.int x0), .val (.int x1)] [] := by first | (simp [entryFrame, mkF, argsToLocals, Value.category]; done) | rfl
def Q1 (Z : State) (p1 : Int32) (p2 : Int32) (h0 : Heap) (n0 : Nat) (v : Option Value) (h : Heap) (L : List Loc) : Prop := ∃ r : Int32, v = some (.int r) ∧ Fr n0 L ∧ h = h0 ∧ r = (if p1 < p2 then p2 else p1)
set_option maxRecDepth 65536 in
set_option maxHeartbeats 40000000 in
theorem rm1 (l : Launch) (Z : State) (a0 : Array Value) (hw : ∀ d ∈ tables_1, d.before a0 Z = true) (ws : List Jvm.Cond) (p1 : Int32) (p2 : Int32) (h0 : Heap) (n0 : Nat) (Z0 : n0 ≤ h0.size) :
    MetFree l (⟨"java/lang/Math", "max", "(II)I"⟩ : MethodName) (head1 (Jvm.Cond.code (⟨"java/lang/Math", "max", "(II)I"⟩ : MethodName) jdk_29_method_65_code 2 (some .int) :: ws) ({ frames := 0, cells := 0, slots := 0, locals := 0 } : Room)) (fun a U => a = #[(.int p1), (.int p2)] ∧ Z.Warmed39 U.vm ∧ U.heap = h0) (fun _ _ _ _ _ => True) (fun _ U o U' => ∃ v L, o = .returned v ∧ Q1 Z p1 p2 h0 n0 v U'.heap L ∧ FrameEnd U o U' L ({ frames := 0, cells := 0, slots := 0, locals := 0 } : Room).cells ({ frames := 0, cells := 0, slots := 0, locals := 0 } : Room).slots) := by
  refine MetFree.of_bodySF (Jvm.Free.JP.mathPlain rfl (by decide +kernel)) hisR ?_
  intro p e s m args below meth c s₁ Bd hml0 hP hK
  obtain ⟨rfl, hZ, hh⟩ := hP
  have hx := Bd.exec
  have hby := Bd.bytes
  have hml : c.maxLocals = 2 := hml0
  have hown : s.vm.findClass "java/lang/Math" = some m.cls := findClass_of_methodNamed Bd.named
  have hnm := (name_of_methodNamed Bd.named Bd.method).1
  have X0 : Stand p l e ({ frames := 0, cells := 0, slots := 0, locals := 0 } : Room) s m #[(.int p1), (.int p2)] below meth c s₁ [] 0 0 := Stand.of_body Bd
  have e0 : s₁.heap = h0 := by rw [← hh, Bd.state]; rfl
  have N0 := Fr.nil n0
  have pre0 : ∀ t, Steps p.tables e below (s₁.setTop (mkF m 0 #[.val (.int p1), .val (.int p2)] [])) t → Steps p.tables e below (s₁.setTop (entryFrame m #[(.int p1), (.int p2)] 2)) t := fun t k => castTop (ef_rm1 m p1 p2) k
  show own_Fin p e below _ _
  refine own_go pre0 ?_
  refine own_go (B := s₁.setTop (mkF m 2 #[.val (.int p1), .val (.int p2)] [(.int p2), (.int p1)])) (fun t k => ?_) ?_
  · show Steps p.tables e below (s₁.setTop (mkF m 0 #[.val (.int p1), .val (.int p2)] [])) t
    refine XS.iloadN X0.here hx rfl (hb hby d1_0) rfl ?_
    show Steps p.tables e below (s₁.setTop (mkF m 1 #[.val (.int p1), .val (.int p2)] [(.int p1)])) t
    refine XS.iloadN X0.here hx rfl (hb hby d1_1) rfl ?_
    exact k
  by_cases hc2_1 : p1 < p2
  · refine own_go (B := s₁.setTop (mkF m 9 #[.val (.int p1), .val (.int p2)] [])) (fun t k => ?_) ?_
    · show Steps p.tables e below (s₁.setTop (mkF m 2 #[.val (.int p1), .val (.int p2)] [(.int p2), (.int p1)])) t
      refine XS.icmpYes X0.here hx rfl (pc0 := 2) (pc' := 9) rfl (hb hby d1_2) rfl (tlt hc2_1).1 (by decide) (by decide) ?_
      exact k
    refine own_go (B := s₁.setTop (mkF m 10 #[.val (.int p1), .val (.int p2)] [(.int p2)])) (fun t k => ?_) ?_
    · show Steps p.tables e below (s₁.setTop (mkF m 9 #[.val (.int p1), .val (.int p2)] [])) t
      refine XS.iloadN X0.here hx rfl (hb hby d1_9) rfl ?_
      exact k
    obtain ⟨fs, hr, hrun, hended, hW, hsame⟩ := X0.leave (v := some (.int p2)) (fun h => by rw [Bd.returns] at h; cases h)
    refine ⟨_, _, ?_, hrun, hended, _, _, rfl, ?_, ⟨_, rfl⟩, hW, hsame.mono (by decide) (by decide)⟩
    · show Steps p.tables e below (s₁.setTop (mkF m 10 #[.val (.int p1), .val (.int p2)] [(.int p2)])) _
      exact retI X0 hx Bd.returns (hb hby d1_10) hr
    · show Q1 Z p1 p2 h0 n0 _ s₁.heap _
      rw [e0]
      exact ⟨_, rfl, N0, rfl, by rw [if_pos hc2_1]⟩
  · refine own_go (B := s₁.setTop (mkF m 5 #[.val (.int p1), .val (.int p2)] [])) (fun t k => ?_) ?_
    · show Steps p.tables e below (s₁.setTop (mkF m 2 #[.val (.int p1), .val (.int p2)] [(.int p2), (.int p1)])) t
      refine XS.icmpNo X0.here hx rfl (hb hby d1_2) rfl (flt hc2_1).1 ?_
      exact k
    refine own_go (B := s₁.setTop (mkF m 10 #[.val (.int p1), .val (.int p2)] [(.int p1)])) (fun t k => ?_) ?_
    · show Steps p.tables e below (s₁.setTop (mkF m 5 #[.val (.int p1), .val (.int p2)] [])) t
      refine XS.iloadN X0.here hx rfl (hb hby d1_5) rfl ?_
      show Steps p.tables e below (s₁.setTop (mkF m 6 #[.val (.int p1), .val (.int p2)] [(.int p1)])) t
      refine XS.goto X0.here hx rfl (pc0 := 6) (pc' := 10) rfl (hb hby d1_6) (by decide) (by decide) ?_
      exact k
    obtain ⟨fs, hr, hrun, hended, hW, hsame⟩ := X0.leave (v := some (.int p1)) (fun h => by rw [Bd.returns] at h; cases h)
    refine ⟨_, _, ?_, hrun, hended, _, _, rfl, ?_, ⟨_, rfl⟩, hW, hsame.mono (by decide) (by decide)⟩
    · show Steps p.tables e below (s₁.setTop (mkF m 10 #[.val (.int p1), .val (.int p2)] [(.int p1)])) _
      exact retI X0 hx Bd.returns (hb hby d1_10) hr
    · show Q1 Z p1 p2 h0 n0 _ s₁.heap _
      rw [e0]
      exact ⟨_, rfl, N0, rfl, by rw [if_neg hc2_1]⟩
theorem d2_0 : decode prog_17_method_2_code 0 = .ok (.iload_n 1, 1) := by decide +kernel
theorem d2_1 : decode prog_17_method_2_code 1 = .ok (.i2l, 1) := by decide +kernel
theorem d2_2 : decode prog_17_method_2_code 2 = .ok (.iload_n 0, 1) := by decide +kernel
theorem d2_3 : decode prog_17_method_2_code 3 = .ok (.i2l, 1) := by decide +kernel
theorem d2_4 : decode prog_17_method_2_code 4 = .ok (.lmul, 1) := by decide +kernel
theorem d2_5 : decode prog_17_method_2_code 5 = .ok (.ldc2_w 7, 3) := by decide +kernel
theorem d2_8 : decode prog_17_method_2_code 8 = .ok (.ladd, 1) := by decide +kernel
theorem d2_9 : decode prog_17_method_2_code 9 = .ok (.ldc2_w 9, 3) := by decide +kernel
theorem d2_12 : decode prog_17_method_2_code 12 = .ok (.ldiv, 1) := by decide +kernel
theorem d2_13 : decode prog_17_method_2_code 13 = .ok (.lstore_n 2, 1) := by decide +kernel
theorem d2_14 : decode prog_17_method_2_code 14 = .ok (.lload_n 2, 1) := by decide +kernel
theorem d2_15 : decode prog_17_method_2_code 15 = .ok (.l2i, 1) := by decide +kernel
theorem d2_16 : decode prog_17_method_2_code 16 = .ok (.iconst 1, 1) := by decide +kernel
theorem d2_17 : decode prog_17_method_2_code 17 = .ok (.isub, 1) := by decide +kernel
theorem d2_18 : decode prog_17_method_2_code 18 = .ok (.ireturn, 1) := by decide +kernel
theorem pn_rm2 : plainName "com/example/wary_mutex/warymutex/cli/Percentiles" = true := by first | (simp [plainName, overriddenIn]; done) | decide +kernel
theorem ef_rm2 (m : MethodId) (x0 : Int32) (x1 : Int32) : entryFrame m #[(.int x0), (.int x1)] 4 = mkF m 0 #[.val (.int x0), .val (.int x1), .unset, .unset] [] := by first | (simp [entryFrame, mkF, argsToLocals, Value.category]; done) | rfl
def Q2 (Z : State) (p1 : Int32) (p2 : Int32) (h0 : Heap) (n0 : Nat) (v : Option Value) (h : Heap) (L : List Loc) : Prop := v = some (.int ((((((p2.toInt64) * (p1.toInt64)) + (99 : Int64)) / (100 : Int64)).toInt32) - (1 : Int32))) ∧ Fr n0 L ∧ h = h0
set_option maxRecDepth 65536 in
set_option maxHeartbeats 40000000 in
theorem rm2 (l : Launch) (Z : State) (a0 : Array Value) (hw : ∀ d ∈ tables_1, d.before a0 Z = true) (ws : List Jvm.Cond) (p1 : Int32) (p2 : Int32) (h0 : Heap) (n0 : Nat) (Z0 : n0 ≤ h0.size) :
    MetFree l (⟨"com/example/wary_mutex/warymutex/cli/Percentiles", "nearestRank", "(II)I"⟩ : MethodName) (head1 (Jvm.Cond.code (⟨"com/example/wary_mutex/warymutex/cli/Percentiles", "nearestRank", "(II)I"⟩ : MethodName) prog_17_method_2_code 4 (some .int) :: ws) ({ frames := 0, cells := 0, slots := 0, locals := 0 } : Room)) (fun a U => a = #[(.int p1), (.int p2)] ∧ Z.Warmed39 U.vm ∧ U.heap = h0) (fun _ _ _ _ _ => True) (fun _ U o U' => ∃ v L, o = .returned v ∧ Q2 Z p1 p2 h0 n0 v U'.heap L ∧ FrameEnd U o U' L ({ frames := 0, cells := 0, slots := 0, locals := 0 } : Room).cells ({ frames := 0, cells := 0, slots := 0, locals := 0 } : Room).slots) := by
  refine MetFree.of_bodySF (plainFor_of_name pn_rm2) hisR ?_
  intro p e s m args below meth c s₁ Bd hml0 hP hK
  obtain ⟨rfl, hZ, hh⟩ := hP
  have hx := Bd.exec
  have hby := Bd.bytes
  have hml : c.maxLocals = 4 := hml0
  have hown : s.vm.findClass "com/example/wary_mutex/warymutex/cli/Percentiles" = some m.cls := findClass_of_methodNamed Bd.named
  have hnm := (name_of_methodNamed Bd.named Bd.method).1
  have X0 : Stand p l e ({ frames := 0, cells := 0, slots := 0, locals := 0 } : Room) s m #[(.int p1), (.int p2)] below meth c s₁ [] 0 0 := Stand.of_body Bd
  have e0 : s₁.heap = h0 := by rw [← hh, Bd.state]; rfl
  have N0 := Fr.nil n0
  have pre0 : ∀ t, Steps p.tables e below (s₁.setTop (mkF m 0 #[.val (.int p1), .val (.int p2), .unset, .unset] [])) t → Steps p.tables e below (s₁.setTop (entryFrame m #[(.int p1), (.int p2)] 4)) t := fun t k => castTop (ef_rm2 m p1 p2) k
  show own_Fin p e below _ _
  refine own_go pre0 ?_
  refine own_go (B := s₁.setTop (mkF m 18 #[.val (.int p1), .val (.int p2), .val (.long ((((p2.toInt64) * (p1.toInt64)) + (99 : Int64)) / (100 : Int64))), .second] [(.int ((((((p2.toInt64) * (p1.toInt64)) + (99 : Int64)) / (100 : Int64)).toInt32) - (1 : Int32)))])) (fun t k => ?_) ?_
  · show Steps p.tables e below (s₁.setTop (mkF m 0 #[.val (.int p1), .val (.int p2), .unset, .unset] [])) t
    refine XS.iloadN X0.here hx rfl (hb hby d2_0) rfl ?_
    show Steps p.tables e below (s₁.setTop (mkF m 1 #[.val (.int p1), .val (.int p2), .unset, .unset] [(.int p2)])) t
    refine XS.i2l X0.here hx rfl (hb hby d2_1) rfl ?_
    show Steps p.tables e below (s₁.setTop (mkF m 2 #[.val (.int p1), .val (.int p2), .unset, .unset] [(.long (p2.toInt64))])) t
    refine XS.iloadN X0.here hx rfl (hb hby d2_2) rfl ?_
    show Steps p.tables e below (s₁.setTop (mkF m 3 #[.val (.int p1), .val (.int p2), .unset, .unset] [(.int p1), (.long (p2.toInt64))])) t
    refine XS.i2l X0.here hx rfl (hb hby d2_3) rfl ?_
    show Steps p.tables e below (s₁.setTop (mkF m 4 #[.val (.int p1), .val (.int p2), .unset, .unset] [(.long (p1.toInt64)), (.long (p2.toInt64))])) t
    refine XS.lmul X0.here hx rfl (hb hby d2_4) rfl ?_
    show Steps p.tables e below (s₁.setTop (mkF m 5 #[.val (.int p1), .val (.int p2), .unset, .unset] [(.long ((p2.toInt64) * (p1.toInt64)))])) t
    refine X0.ldc2Long hx hown (mvT hZ (hw _ (List.mem_of_getElem? (i := 9) rfl))) (g := (mkF m 5 #[.val (.int p1), .val (.int p2), .unset, .unset] [(.long ((p2.toInt64) * (p1.toInt64)))])) rfl (hb hby d2_5) _ ?_
    show Steps p.tables e below (s₁.setTop (mkF m 8 #[.val (.int p1), .val (.int p2), .unset, .unset] [(.long (99 : Int64)), (.long ((p2.toInt64) * (p1.toInt64)))])) t
    refine XS.ladd X0.here hx rfl (hb hby d2_8) rfl ?_
    show Steps p.tables e below (s₁.setTop (mkF m 9 #[.val (.int p1), .val (.int p2), .unset, .unset] [(.long (((p2.toInt64) * (p1.toInt64)) + (99 : Int64)))])) t
    refine X0.ldc2Long hx hown (mvT hZ (hw _ (List.mem_of_getElem? (i := 10) rfl))) (g := (mkF m 9 #[.val (.int p1), .val (.int p2), .unset, .unset] [(.long (((p2.toInt64) * (p1.toInt64)) + (99 : Int64)))])) rfl (hb hby d2_9) _ ?_
    show Steps p.tables e below (s₁.setTop (mkF m 12 #[.val (.int p1), .val (.int p2), .unset, .unset] [(.long (100 : Int64)), (.long (((p2.toInt64) * (p1.toInt64)) + (99 : Int64)))])) t
    refine XS.ldiv X0.here hx rfl (hb hby d2_12) rfl (by decide) ?_
    show Steps p.tables e below (s₁.setTop (mkF m 13 #[.val (.int p1), .val (.int p2), .unset, .unset] [(.long ((((p2.toInt64) * (p1.toInt64)) + (99 : Int64)) / (100 : Int64)))])) t
    refine XS.lstoreN X0.here hx rfl (hb hby d2_13) rfl (l' := #[.val (.int p1), .val (.int p2), .val (.long ((((p2.toInt64) * (p1.toInt64)) + (99 : Int64)) / (100 : Int64))), .second]) rfl ?_
    show Steps p.tables e below (s₁.setTop (mkF m 14 #[.val (.int p1), .val (.int p2), .val (.long ((((p2.toInt64) * (p1.toInt64)) + (99 : Int64)) / (100 : Int64))), .second] [])) t
    refine XS.lloadN X0.here hx rfl (hb hby d2_14) rfl ?_
    show Steps p.tables e below (s₁.setTop (mkF m 15 #[.val (.int p1), .val (.int p2), .val (.long ((((p2.toInt64) * (p1.toInt64)) + (99 : Int64)) / (100 : Int64))), .second] [(.long ((((p2.toInt64) * (p1.toInt64)) + (99 : Int64)) / (100 : Int64)))])) t
    refine XS.l2i X0.here hx rfl (hb hby d2_15) rfl ?_
    show Steps p.tables e below (s₁.setTop (mkF m 16 #[.val (.int p1), .val (.int p2), .val (.long ((((p2.toInt64) * (p1.toInt64)) + (99 : Int64)) / (100 : Int64))), .second] [(.int (((((p2.toInt64) * (p1.toInt64)) + (99 : Int64)) / (100 : Int64)).toInt32))])) t
    refine XS.iconst X0.here hx rfl (hb hby d2_16) ?_
    show Steps p.tables e below (s₁.setTop (mkF m 17 #[.val (.int p1), .val (.int p2), .val (.long ((((p2.toInt64) * (p1.toInt64)) + (99 : Int64)) / (100 : Int64))), .second] [(.int (1 : Int32)), (.int (((((p2.toInt64) * (p1.toInt64)) + (99 : Int64)) / (100 : Int64)).toInt32))])) t
    refine XS.isub X0.here hx rfl (hb hby d2_17) rfl ?_
    exact k
  obtain ⟨fs, hr, hrun, hended, hW, hsame⟩ := X0.leave (v := some (.int ((((((p2.toInt64) * (p1.toInt64)) + (99 : Int64)) / (100 : Int64)).toInt32) - (1 : Int32)))) (fun h => by rw [Bd.returns] at h; cases h)
  refine ⟨_, _, ?_, hrun, hended, _, _, rfl, ?_, ⟨_, rfl⟩, hW, hsame.mono (by decide) (by decide)⟩
  · show Steps p.tables e below (s₁.setTop (mkF m 18 #[.val (.int p1), .val (.int p2), .val (.long ((((p2.toInt64) * (p1.toInt64)) + (99 : Int64)) / (100 : Int64))), .second] [(.int ((((((p2.toInt64) * (p1.toInt64)) + (99 : Int64)) / (100 : Int64)).toInt32) - (1 : Int32)))])) _
    exact retI X0 hx Bd.returns (hb hby d2_18) hr
  · show Q2 Z p1 p2 h0 n0 _ s₁.heap _
    rw [e0]
    exact ⟨rfl, N0, rfl⟩
theorem pn_rm0 : plainName "com/example/wary_mutex/warymutex/cli/PercentilesNearestRankPinLaw" = true := by first | (simp [plainName, overriddenIn]; done) | decide +kernel
theorem pd_rm0_0 : parseMethodDescriptor "(II)I" = some ⟨[.int, .int], some .int⟩ := by decide +kernel
theorem ef_rm0 (m : MethodId) (x0 : Int32) (x1 : Int32) : entryFrame m #[(.int x0), (.int x1)] maxLocals = mkF m 0 #[.val (.int x0), .val (.int x1), .unset, .unset, .unset, .unset, .unset, .unset, .unset, .unset, .unset, .unset] [] := by first | (simp [entryFrame, mkF, argsToLocals, Value.category, maxLocals]; done) | rfl
def Q0 (Z : State) (p1 : Int32) (p2 : Int32) (h0 : Heap) (n0 : Nat) (v : Option Value) (h : Heap) (L : List Loc) : Prop := v = some (.int (1 : Int32)) ∧ Fr n0 L
set_option maxRecDepth 65536 in
set_option maxHeartbeats 40000000 in
theorem rm0 (l : Launch) (Z : State) (a0 : Array Value) (hw : ∀ d ∈ tables_1, d.before a0 Z = true) (ws : List Jvm.Cond) (p1 : Int32) (p2 : Int32) (h0 : Heap) (n0 : Nat) (Z0 : n0 ≤ h0.size) :
    MetFree l x (head1 (Jvm.Cond.code x code maxLocals ret :: ws) room_1) (fun a U => a = #[(.int p1), (.int p2)] ∧ Z.Warmed39 U.vm ∧ U.heap = h0) (fun _ _ _ _ _ => True) (fun _ U o U' => ∃ v L, o = .returned v ∧ Q0 Z p1 p2 h0 n0 v U'.heap L ∧ FrameEnd U o U' L room_1.cells room_1.slots) := by
  refine MetFree.of_bodySF (plainFor_of_name pn_rm0) hisR ?_
  intro p e s m args below meth c s₁ Bd hml0 hP hK
  obtain ⟨rfl, hZ, hh⟩ := hP
  have hx := Bd.exec
  have hby := Bd.bytes
  have hml : c.maxLocals = 12 := hml0
  have hown : s.vm.findClass "com/example/wary_mutex/warymutex/cli/PercentilesNearestRankPinLaw" = some m.cls := findClass_of_methodNamed Bd.named
  have hnm := (name_of_methodNamed Bd.named Bd.method).1
  have X0 : Stand p l e room_1 s m #[(.int p1), (.int p2)] below meth c s₁ [] 0 0 := Stand.of_body Bd
  have e0 : s₁.heap = h0 := by rw [← hh, Bd.state]; rfl
  have N0 := Fr.nil n0
  have pre0 : ∀ t, Steps p.tables e below (s₁.setTop (mkF m 0 #[.val (.int p1), .val (.int p2), .unset, .unset, .unset, .unset, .unset, .unset, .unset, .unset, .unset, .unset] [])) t → Steps p.tables e below (s₁.setTop (entryFrame m #[(.int p1), (.int p2)] maxLocals)) t := fun t k => castTop (ef_rm0 m p1 p2) k
  show own_Fin p e below _ _
  refine own_go pre0 ?_
  refine own_go (B := s₁.setTop (mkF m 5 #[.val (.int p1), .val (.int p2), .unset, .unset, .unset, .unset, .unset, .unset, .unset, .unset, .unset, .unset] [(.int (p1 &&& (2147483647 : Int32))), (.int (1 : Int32))])) (fun t k => ?_) ?_
  · show Steps p.tables e below (s₁.setTop (mkF m 0 #[.val (.int p1), .val (.int p2), .unset, .unset, .unset, .unset, .unset, .unset, .unset, .unset, .unset, .unset] [])) t
    refine XS.iconst X0.here hx rfl (hb hby at_0) ?_
    show Steps p.tables e below (s₁.setTop (mkF m 1 #[.val (.int p1), .val (.int p2), .unset, .unset, .unset, .unset, .unset, .unset, .unset, .unset, .unset, .unset] [(.int (1 : Int32))])) t
    refine XS.iloadN X0.here hx rfl (hb hby at_1) rfl ?_
    show Steps p.tables e below (s₁.setTop (mkF m 2 #[.val (.int p1), .val (.int p2), .unset, .unset, .unset, .unset, .unset, .unset, .unset, .unset, .unset, .unset] [(.int p1), (.int (1 : Int32))])) t
    refine X0.ldcInt hx hown (mvT hZ (hw _ (List.mem_of_getElem? (i := 0) rfl))) (g := (mkF m 2 #[.val (.int p1), .val (.int p2), .unset, .unset, .unset, .unset, .unset, .unset, .unset, .unset, .unset, .unset] [(.int p1), (.int (1 : Int32))])) rfl (hb hby at_2) _ ?_
    show Steps p.tables e below (s₁.setTop (mkF m 4 #[.val (.int p1), .val (.int p2), .unset, .unset, .unset, .unset, .unset, .unset, .unset, .unset, .unset, .unset] [(.int (2147483647 : Int32)), (.int p1), (.int (1 : Int32))])) t
    refine XS.iand X0.here hx rfl (hb hby at_4) rfl ?_
    exact k
  obtain ⟨_, _, ⟨T1, L1, k1, n1⟩, -, X1, ⟨Lc1, hQ1, l1, y1, z1⟩, st1⟩ := Jvm.LawKit.callS X0 hx (y := (⟨"java/lang/Math", "max", "(II)I"⟩ : MethodName)) hown (mvT hZ (hw _ (List.mem_of_getElem? (i := 1) rfl))) (mvT hZ (hw _ (List.mem_of_getElem? (i := 2) rfl))) (mvT hZ (hw _ (List.mem_of_getElem? (i := 3) rfl))) (mvT hZ (hw _ (List.mem_of_getElem? (i := 4) rfl))) (by decide) (backOf (W := 0) (rm1 l Z a0 hw [] (1 : Int32) (p1 &&& (2147483647 : Int32)) h0 n0 Z0) hZ (hw _ (List.mem_of_getElem? (i := 4) rfl)) (hw _ (List.mem_of_getElem? (i := 3) rfl)) (by decide) (by decide)) (g := (mkF m 5 #[.val (.int p1), .val (.int p2), .unset, .unset, .unset, .unset, .unset, .unset, .unset, .unset, .unset, .unset] [(.int (p1 &&& (2147483647 : Int32))), (.int (1 : Int32))])) rfl (by rw [hml]; rfl) (argsL := [(.int (1 : Int32)), (.int (p1 &&& (2147483647 : Int32)))]) (rest := []) (lenOf pd_rm0_0 rfl) rfl (by show 2 * 0 + _ ≤ _; exact Nat.le_of_eq rfl) (hb hby at_5) (fun _ _ => ⟨rfl, e0, (by decide : 0 + 0 ≤ _), (by decide : 0 + 0 ≤ _)⟩)
  dsimp only [Pt.U, Pt.locs, Pt.cells, Pt.slots] at X1 l1 y1 z1 st1 hQ1
  subst l1 y1 z1
  obtain ⟨r1, rfl, N1q, hh1, hr1⟩ := hQ1
  have N1 := Fr.app N0 N1q
  refine own_go (fun t k => st1 t k) ?_
  have hcount := own_count p1 hr1
  refine own_go (B := T1.setTop (mkF m 19 #[.val (.int p1), .val (.int p2), .val (.int r1), .val (.int ((1 : Int32) + ((p2 &&& (2147483647 : Int32)) % (100 : Int32)))), .unset, .unset, .unset, .unset, .unset, .unset, .unset, .unset] [])) (fun t k => ?_) ?_
  · show Steps p.tables e below (T1.setTop (mkF m 8 #[.val (.int p1), .val (.int p2), .unset, .unset, .unset, .unset, .unset, .unset, .unset, .unset, .unset, .unset] [(.int r1)])) t
    refine XS.istoreN X1.here hx rfl (hb hby at_8) rfl (l' := #[.val (.int p1), .val (.int p2), .val (.int r1), .unset, .unset, .unset, .unset, .unset, .unset, .unset, .unset, .unset]) rfl ?_
    show Steps p.tables e below (T1.setTop (mkF m 9 #[.val (.int p1), .val (.int p2), .val (.int r1), .unset, .unset, .unset, .unset, .unset, .unset, .unset, .unset, .unset] [])) t
    refine XS.iconst X1.here hx rfl (hb hby at_9) ?_
    show Steps p.tables e below (T1.setTop (mkF m 10 #[.val (.int p1), .val (.int p2), .val (.int r1), .unset, .unset, .unset, .unset, .unset, .unset, .unset, .unset, .unset] [(.int (1 : Int32))])) t
    refine XS.iloadN X1.here hx rfl (hb hby at_10) rfl ?_
    show Steps p.tables e below (T1.setTop (mkF m 11 #[.val (.int p1), .val (.int p2), .val (.int r1), .unset, .unset, .unset, .unset, .unset, .unset, .unset, .unset, .unset] [(.int p2), (.int (1 : Int32))])) t
    refine X1.ldcInt hx hown (mvT hZ (hw _ (List.mem_of_getElem? (i := 0) rfl))) (g := (mkF m 11 #[.val (.int p1), .val (.int p2), .val (.int r1), .unset, .unset, .unset, .unset, .unset, .unset, .unset, .unset, .unset] [(.int p2), (.int (1 : Int32))])) rfl (hb hby at_11) _ ?_
    show Steps p.tables e below (T1.setTop (mkF m 13 #[.val (.int p1), .val (.int p2), .val (.int r1), .unset, .unset, .unset, .unset, .unset, .unset, .unset, .unset, .unset] [(.int (2147483647 : Int32)), (.int p2), (.int (1 : Int32))])) t
    refine XS.iand X1.here hx rfl (hb hby at_13) rfl ?_
    show Steps p.tables e below (T1.setTop (mkF m 14 #[.val (.int p1), .val (.int p2), .val (.int r1), .unset, .unset, .unset, .unset, .unset, .unset, .unset, .unset, .unset] [(.int (p2 &&& (2147483647 : Int32))), (.int (1 : Int32))])) t
    refine XS.bipush X1.here hx rfl (hb hby at_14) ?_
    show Steps p.tables e below (T1.setTop (mkF m 16 #[.val (.int p1), .val (.int p2), .val (.int r1), .unset, .unset, .unset, .unset, .unset, .unset, .unset, .unset, .unset] [(.int (100 : Int32)), (.int (p2 &&& (2147483647 : Int32))), (.int (1 : Int32))])) t
    refine iremM X1 hx rfl (hb hby at_16) rfl (by decide) ?_
    show Steps p.tables e below (T1.setTop (mkF m 17 #[.val (.int p1), .val (.int p2), .val (.int r1), .unset, .unset, .unset, .unset, .unset, .unset, .unset, .unset, .unset] [(.int ((p2 &&& (2147483647 : Int32)) % (100 : Int32))), (.int (1 : Int32))])) t
    refine XS.iadd X1.here hx rfl (hb hby at_17) rfl ?_
    show Steps p.tables e below (T1.setTop (mkF m 18 #[.val (.int p1), .val (.int p2), .val (.int r1), .unset, .unset, .unset, .unset, .unset, .unset, .unset, .unset, .unset] [(.int ((1 : Int32) + ((p2 &&& (2147483647 : Int32)) % (100 : Int32))))])) t
    refine XS.istoreN X1.here hx rfl (hb hby at_18) rfl (l' := #[.val (.int p1), .val (.int p2), .val (.int r1), .val (.int ((1 : Int32) + ((p2 &&& (2147483647 : Int32)) % (100 : Int32)))), .unset, .unset, .unset, .unset, .unset, .unset, .unset, .unset]) rfl ?_
    exact k
  obtain ⟨pp, hpp⟩ : ∃ z : Int32, z = ((1 : Int32) + ((p2 &&& (2147483647 : Int32)) % (100 : Int32))) := ⟨_, rfl⟩
  rw [← hpp]
  have hp2 := own_p p2 hpp
  refine own_go (B := T1.setTop (mkF m 21 #[.val (.int p1), .val (.int p2), .val (.int r1), .val (.int pp), .unset, .unset, .unset, .unset, .unset, .unset, .unset, .unset] [(.int pp), (.int r1)])) (fun t k => ?_) ?_
  · show Steps p.tables e below (T1.setTop (mkF m 19 #[.val (.int p1), .val (.int p2), .val (.int r1), .val (.int pp), .unset, .unset, .unset, .unset, .unset, .unset, .unset, .unset] [])) t
    refine XS.iloadN X1.here hx rfl (hb hby at_19) rfl ?_
    show Steps p.tables e below (T1.setTop (mkF m 20 #[.val (.int p1), .val (.int p2), .val (.int r1), .val (.int pp), .unset, .unset, .unset, .unset, .unset, .unset, .unset, .unset] [(.int r1)])) t
    refine XS.iloadN X1.here hx rfl (hb hby at_20) rfl ?_
    exact k
  obtain ⟨_, _, ⟨T2, L2, k2, n2⟩, -, X2, ⟨Lc2, hQ2, l2, y2, z2⟩, st2⟩ := Jvm.LawKit.callS X1 hx (y := (⟨"com/example/wary_mutex/warymutex/cli/Percentiles", "nearestRank", "(II)I"⟩ : MethodName)) hown (mvT hZ (hw _ (List.mem_of_getElem? (i := 5) rfl))) (mvT hZ (hw _ (List.mem_of_getElem? (i := 6) rfl))) (mvT hZ (hw _ (List.mem_of_getElem? (i := 7) rfl))) (mvT hZ (hw _ (List.mem_of_getElem? (i := 8) rfl))) (by decide) (backOf (W := 0) (rm2 l Z a0 hw [] r1 pp h0 n0 Z0) hZ (hw _ (List.mem_of_getElem? (i := 8) rfl)) (hw _ (List.mem_of_getElem? (i := 7) rfl)) (by decide) (by decide)) (g := (mkF m 21 #[.val (.int p1), .val (.int p2), .val (.int r1), .val (.int pp), .unset, .unset, .unset, .unset, .unset, .unset, .unset, .unset] [(.int pp), (.int r1)])) rfl (by rw [hml]; rfl) (argsL := [(.int r1), (.int pp)]) (rest := []) (lenOf pd_rm0_0 rfl) rfl (by show 2 * 0 + _ ≤ _; exact Nat.le_of_eq rfl) (hb hby at_21) (fun _ _ => ⟨rfl, hh1, (by decide : 0 + 0 ≤ _), (by decide : 0 + 0 ≤ _)⟩)
  dsimp only [Pt.U, Pt.locs, Pt.cells, Pt.slots] at X2 l2 y2 z2 st2 hQ2
  subst l2 y2 z2
  obtain ⟨rfl, N2q, hh2⟩ := hQ2
  have N2 := Fr.app N1 N2q
  refine own_go (fun t k => st2 t k) ?_
  refine own_go (B := T2.setTop (mkF m 26 #[.val (.int p1), .val (.int p2), .val (.int r1), .val (.int pp), .val (.int ((((((pp.toInt64) * (r1.toInt64)) + (99 : Int64)) / (100 : Int64)).toInt32) - (1 : Int32))), .unset, .unset, .unset, .unset, .unset, .unset, .unset] [])) (fun t k => ?_) ?_
  · show Steps p.tables e below (T2.setTop (mkF m 24 #[.val (.int p1), .val (.int p2), .val (.int r1), .val (.int pp), .unset, .unset, .unset, .unset, .unset, .unset, .unset, .unset] [(.int ((((((pp.toInt64) * (r1.toInt64)) + (99 : Int64)) / (100 : Int64)).toInt32) - (1 : Int32)))])) t
    refine XS.istore X2.here hx rfl (hb hby at_24) rfl (l' := #[.val (.int p1), .val (.int p2), .val (.int r1), .val (.int pp), .val (.int ((((((pp.toInt64) * (r1.toInt64)) + (99 : Int64)) / (100 : Int64)).toInt32) - (1 : Int32))), .unset, .unset, .unset, .unset, .unset, .unset, .unset]) rfl ?_
    exact k
  obtain ⟨res, hres⟩ : ∃ z : Int32, z = ((((((pp.toInt64) * (r1.toInt64)) + (99 : Int64)) / (100 : Int64)).toInt32) - (1 : Int32)) := ⟨_, rfl⟩
  rw [← hres]
  obtain ⟨rk1, rk2, rk3, rk4⟩ := own_rank r1 pp hcount hp2.1 hp2.2 hres
  refine own_go (B := T2.setTop (mkF m 122 #[.val (.int p1), .val (.int p2), .val (.int r1), .val (.int pp), .val (.int res), .val (.long (res.toInt64)), .second, .val (.long ((pp.toInt64) * (r1.toInt64))), .second, .val (.int (1 : Int32)), .val (.int (1 : Int32)), .val (.int (1 : Int32))] [(.int (1 : Int32))])) (fun t k => ?_) ?_
  · show Steps p.tables e below (T2.setTop (mkF m 26 #[.val (.int p1), .val (.int p2), .val (.int r1), .val (.int pp), .val (.int res), .unset, .unset, .unset, .unset, .unset, .unset, .unset] [])) t
    refine XS.iload X2.here hx rfl (hb hby at_26) rfl ?_
    show Steps p.tables e below (T2.setTop (mkF m 28 #[.val (.int p1), .val (.int p2), .val (.int r1), .val (.int pp), .val (.int res), .unset, .unset, .unset, .unset, .unset, .unset, .unset] [(.int res)])) t
    refine XS.i2l X2.here hx rfl (hb hby at_28) rfl ?_
    show Steps p.tables e below (T2.setTop (mkF m 29 #[.val (.int p1), .val (.int p2), .val (.int r1), .val (.int pp), .val (.int res), .unset, .unset, .unset, .unset, .unset, .unset, .unset] [(.long (res.toInt64))])) t
    refine XS.lstore X2.here hx rfl (hb hby at_29) rfl (l' := #[.val (.int p1), .val (.int p2), .val (.int r1), .val (.int pp), .val (.int res), .val (.long (res.toInt64)), .second, .unset, .unset, .unset, .unset, .unset]) rfl ?_
    show Steps p.tables e below (T2.setTop (mkF m 31 #[.val (.int p1), .val (.int p2), .val (.int r1), .val (.int pp), .val (.int res), .val (.long (res.toInt64)), .second, .unset, .unset, .unset, .unset, .unset] [])) t
    refine XS.iloadN X2.here hx rfl (hb hby at_31) rfl ?_
    show Steps p.tables e below (T2.setTop (mkF m 32 #[.val (.int p1), .val (.int p2), .val (.int r1), .val (.int pp), .val (.int res), .val (.long (res.toInt64)), .second, .unset, .unset, .unset, .unset, .unset] [(.int pp)])) t
    refine XS.i2l X2.here hx rfl (hb hby at_32) rfl ?_
    show Steps p.tables e below (T2.setTop (mkF m 33 #[.val (.int p1), .val (.int p2), .val (.int r1), .val (.int pp), .val (.int res), .val (.long (res.toInt64)), .second, .unset, .unset, .unset, .unset, .unset] [(.long (pp.toInt64))])) t
    refine XS.iloadN X2.here hx rfl (hb hby at_33) rfl ?_
    show Steps p.tables e below (T2.setTop (mkF m 34 #[.val (.int p1), .val (.int p2), .val (.int r1), .val (.int pp), .val (.int res), .val (.long (res.toInt64)), .second, .unset, .unset, .unset, .unset, .unset] [(.int r1), (.long (pp.toInt64))])) t
    refine XS.i2l X2.here hx rfl (hb hby at_34) rfl ?_
    show Steps p.tables e below (T2.setTop (mkF m 35 #[.val (.int p1), .val (.int p2), .val (.int r1), .val (.int pp), .val (.int res), .val (.long (res.toInt64)), .second, .unset, .unset, .unset, .unset, .unset] [(.long (r1.toInt64)), (.long (pp.toInt64))])) t
    refine XS.lmul X2.here hx rfl (hb hby at_35) rfl ?_
    show Steps p.tables e below (T2.setTop (mkF m 36 #[.val (.int p1), .val (.int p2), .val (.int r1), .val (.int pp), .val (.int res), .val (.long (res.toInt64)), .second, .unset, .unset, .unset, .unset, .unset] [(.long ((pp.toInt64) * (r1.toInt64)))])) t
    refine XS.lstore X2.here hx rfl (hb hby at_36) rfl (l' := #[.val (.int p1), .val (.int p2), .val (.int r1), .val (.int pp), .val (.int res), .val (.long (res.toInt64)), .second, .val (.long ((pp.toInt64) * (r1.toInt64))), .second, .unset, .unset, .unset]) rfl ?_
    show Steps p.tables e below (T2.setTop (mkF m 38 #[.val (.int p1), .val (.int p2), .val (.int r1), .val (.int pp), .val (.int res), .val (.long (res.toInt64)), .second, .val (.long ((pp.toInt64) * (r1.toInt64))), .second, .unset, .unset, .unset] [])) t
    refine XS.lload X2.here hx rfl (hb hby at_38) rfl ?_
    show Steps p.tables e below (T2.setTop (mkF m 40 #[.val (.int p1), .val (.int p2), .val (.int r1), .val (.int pp), .val (.int res), .val (.long (res.toInt64)), .second, .val (.long ((pp.toInt64) * (r1.toInt64))), .second, .unset, .unset, .unset] [(.long (res.toInt64))])) t
    refine XS.lconst X2.here hx rfl (hb hby at_40) ?_
    show Steps p.tables e below (T2.setTop (mkF m 41 #[.val (.int p1), .val (.int p2), .val (.int r1), .val (.int pp), .val (.int res), .val (.long (res.toInt64)), .second, .val (.long ((pp.toInt64) * (r1.toInt64))), .second, .unset, .unset, .unset] [(.long (0 : Int64)), (.long (res.toInt64))])) t
    refine XS.lcmp X2.here hx rfl (hb hby at_41) rfl ?_
    show Steps p.tables e below (T2.setTop (mkF m 42 #[.val (.int p1), .val (.int p2), .val (.int r1), .val (.int pp), .val (.int res), .val (.long (res.toInt64)), .second, .val (.long ((pp.toInt64) * (r1.toInt64))), .second, .unset, .unset, .unset] [(.int (lcmpW (res.toInt64) (0 : Int64)))])) t
    refine XS.ifNo X2.here hx rfl (hb hby at_42) rfl ((if0 _ _).trans (flt (fun q => (rk1 : ¬ ((res.toInt64) < (0 : Int64))) ((lw_lt (res.toInt64) (0 : Int64)).mp q))).1) ?_
    show Steps p.tables e below (T2.setTop (mkF m 45 #[.val (.int p1), .val (.int p2), .val (.int r1), .val (.int pp), .val (.int res), .val (.long (res.toInt64)), .second, .val (.long ((pp.toInt64) * (r1.toInt64))), .second, .unset, .unset, .unset] [])) t
    refine XS.lload X2.here hx rfl (hb hby at_45) rfl ?_
    show Steps p.tables e below (T2.setTop (mkF m 47 #[.val (.int p1), .val (.int p2), .val (.int r1), .val (.int pp), .val (.int res), .val (.long (res.toInt64)), .second, .val (.long ((pp.toInt64) * (r1.toInt64))), .second, .unset, .unset, .unset] [(.long (res.toInt64))])) t
    refine XS.iloadN X2.here hx rfl (hb hby at_47) rfl ?_
    show Steps p.tables e below (T2.setTop (mkF m 48 #[.val (.int p1), .val (.int p2), .val (.int r1), .val (.int pp), .val (.int res), .val (.long (res.toInt64)), .second, .val (.long ((pp.toInt64) * (r1.toInt64))), .second, .unset, .unset, .unset] [(.int r1), (.long (res.toInt64))])) t
    refine XS.i2l X2.here hx rfl (hb hby at_48) rfl ?_
    show Steps p.tables e below (T2.setTop (mkF m 49 #[.val (.int p1), .val (.int p2), .val (.int r1), .val (.int pp), .val (.int res), .val (.long (res.toInt64)), .second, .val (.long ((pp.toInt64) * (r1.toInt64))), .second, .unset, .unset, .unset] [(.long (r1.toInt64)), (.long (res.toInt64))])) t
    refine XS.lconst X2.here hx rfl (hb hby at_49) ?_
    show Steps p.tables e below (T2.setTop (mkF m 50 #[.val (.int p1), .val (.int p2), .val (.int r1), .val (.int pp), .val (.int res), .val (.long (res.toInt64)), .second, .val (.long ((pp.toInt64) * (r1.toInt64))), .second, .unset, .unset, .unset] [(.long (1 : Int64)), (.long (r1.toInt64)), (.long (res.toInt64))])) t
    refine XS.lsub X2.here hx rfl (hb hby at_50) rfl ?_
    show Steps p.tables e below (T2.setTop (mkF m 51 #[.val (.int p1), .val (.int p2), .val (.int r1), .val (.int pp), .val (.int res), .val (.long (res.toInt64)), .second, .val (.long ((pp.toInt64) * (r1.toInt64))), .second, .unset, .unset, .unset] [(.long ((r1.toInt64) - (1 : Int64))), (.long (res.toInt64))])) t
    refine XS.lcmp X2.here hx rfl (hb hby at_51) rfl ?_
    show Steps p.tables e below (T2.setTop (mkF m 52 #[.val (.int p1), .val (.int p2), .val (.int r1), .val (.int pp), .val (.int res), .val (.long (res.toInt64)), .second, .val (.long ((pp.toInt64) * (r1.toInt64))), .second, .unset, .unset, .unset] [(.int (lcmpW (res.toInt64) ((r1.toInt64) - (1 : Int64))))])) t
    refine XS.ifNo X2.here hx rfl (hb hby at_52) rfl ((if0 _ _).trans (flt (fun q => (rk2 : ¬ (((r1.toInt64) - (1 : Int64)) < (res.toInt64))) ((lw_gt (res.toInt64) ((r1.toInt64) - (1 : Int64))).mp q))).2.2.1) ?_
    show Steps p.tables e below (T2.setTop (mkF m 55 #[.val (.int p1), .val (.int p2), .val (.int r1), .val (.int pp), .val (.int res), .val (.long (res.toInt64)), .second, .val (.long ((pp.toInt64) * (r1.toInt64))), .second, .unset, .unset, .unset] [])) t
    refine XS.iconst X2.here hx rfl (hb hby at_55) ?_
    show Steps p.tables e below (T2.setTop (mkF m 56 #[.val (.int p1), .val (.int p2), .val (.int r1), .val (.int pp), .val (.int res), .val (.long (res.toInt64)), .second, .val (.long ((pp.toInt64) * (r1.toInt64))), .second, .unset, .unset, .unset] [(.int (1 : Int32))])) t
    refine XS.goto X2.here hx rfl (pc0 := 56) (pc' := 60) rfl (hb hby at_56) (by decide) (by decide) ?_
    show Steps p.tables e below (T2.setTop (mkF m 60 #[.val (.int p1), .val (.int p2), .val (.int r1), .val (.int pp), .val (.int res), .val (.long (res.toInt64)), .second, .val (.long ((pp.toInt64) * (r1.toInt64))), .second, .unset, .unset, .unset] [(.int (1 : Int32))])) t
    refine XS.istore X2.here hx rfl (hb hby at_60) rfl (l' := #[.val (.int p1), .val (.int p2), .val (.int r1), .val (.int pp), .val (.int res), .val (.long (res.toInt64)), .second, .val (.long ((pp.toInt64) * (r1.toInt64))), .second, .val (.int (1 : Int32)), .unset, .unset]) rfl ?_
    show Steps p.tables e below (T2.setTop (mkF m 62 #[.val (.int p1), .val (.int p2), .val (.int r1), .val (.int pp), .val (.int res), .val (.long (res.toInt64)), .second, .val (.long ((pp.toInt64) * (r1.toInt64))), .second, .val (.int (1 : Int32)), .unset, .unset] [])) t
    refine XS.lload X2.here hx rfl (hb hby at_62) rfl ?_
    show Steps p.tables e below (T2.setTop (mkF m 64 #[.val (.int p1), .val (.int p2), .val (.int r1), .val (.int pp), .val (.int res), .val (.long (res.toInt64)), .second, .val (.long ((pp.toInt64) * (r1.toInt64))), .second, .val (.int (1 : Int32)), .unset, .unset] [(.long (res.toInt64))])) t
    refine XS.lconst X2.here hx rfl (hb hby at_64) ?_
    show Steps p.tables e below (T2.setTop (mkF m 65 #[.val (.int p1), .val (.int p2), .val (.int r1), .val (.int pp), .val (.int res), .val (.long (res.toInt64)), .second, .val (.long ((pp.toInt64) * (r1.toInt64))), .second, .val (.int (1 : Int32)), .unset, .unset] [(.long (1 : Int64)), (.long (res.toInt64))])) t
    refine XS.ladd X2.here hx rfl (hb hby at_65) rfl ?_
    show Steps p.tables e below (T2.setTop (mkF m 66 #[.val (.int p1), .val (.int p2), .val (.int r1), .val (.int pp), .val (.int res), .val (.long (res.toInt64)), .second, .val (.long ((pp.toInt64) * (r1.toInt64))), .second, .val (.int (1 : Int32)), .unset, .unset] [(.long ((res.toInt64) + (1 : Int64)))])) t
    refine X2.ldc2Long hx hown (mvT hZ (hw _ (List.mem_of_getElem? (i := 11) rfl))) (g := (mkF m 66 #[.val (.int p1), .val (.int p2), .val (.int r1), .val (.int pp), .val (.int res), .val (.long (res.toInt64)), .second, .val (.long ((pp.toInt64) * (r1.toInt64))), .second, .val (.int (1 : Int32)), .unset, .unset] [(.long ((res.toInt64) + (1 : Int64)))])) rfl (hb hby at_66) _ ?_
    show Steps p.tables e below (T2.setTop (mkF m 69 #[.val (.int p1), .val (.int p2), .val (.int r1), .val (.int pp), .val (.int res), .val (.long (res.toInt64)), .second, .val (.long ((pp.toInt64) * (r1.toInt64))), .second, .val (.int (1 : Int32)), .unset, .unset] [(.long (100 : Int64)), (.long ((res.toInt64) + (1 : Int64)))])) t
    refine XS.lmul X2.here hx rfl (hb hby at_69) rfl ?_
    show Steps p.tables e below (T2.setTop (mkF m 70 #[.val (.int p1), .val (.int p2), .val (.int r1), .val (.int pp), .val (.int res), .val (.long (res.toInt64)), .second, .val (.long ((pp.toInt64) * (r1.toInt64))), .second, .val (.int (1 : Int32)), .unset, .unset] [(.long (((res.toInt64) + (1 : Int64)) * (100 : Int64)))])) t
    refine XS.lload X2.here hx rfl (hb hby at_70) rfl ?_
    show Steps p.tables e below (T2.setTop (mkF m 72 #[.val (.int p1), .val (.int p2), .val (.int r1), .val (.int pp), .val (.int res), .val (.long (res.toInt64)), .second, .val (.long ((pp.toInt64) * (r1.toInt64))), .second, .val (.int (1 : Int32)), .unset, .unset] [(.long ((pp.toInt64) * (r1.toInt64))), (.long (((res.toInt64) + (1 : Int64)) * (100 : Int64)))])) t
    refine XS.lcmp X2.here hx rfl (hb hby at_72) rfl ?_
    show Steps p.tables e below (T2.setTop (mkF m 73 #[.val (.int p1), .val (.int p2), .val (.int r1), .val (.int pp), .val (.int res), .val (.long (res.toInt64)), .second, .val (.long ((pp.toInt64) * (r1.toInt64))), .second, .val (.int (1 : Int32)), .unset, .unset] [(.int (lcmpW (((res.toInt64) + (1 : Int64)) * (100 : Int64)) ((pp.toInt64) * (r1.toInt64))))])) t
    refine XS.ifNo X2.here hx rfl (hb hby at_73) rfl ((if0 _ _).trans (flt (fun q => (rk3 : ¬ ((((res.toInt64) + (1 : Int64)) * (100 : Int64)) < ((pp.toInt64) * (r1.toInt64)))) ((lw_lt (((res.toInt64) + (1 : Int64)) * (100 : Int64)) ((pp.toInt64) * (r1.toInt64))).mp q))).1) ?_
    show Steps p.tables e below (T2.setTop (mkF m 76 #[.val (.int p1), .val (.int p2), .val (.int r1), .val (.int pp), .val (.int res), .val (.long (res.toInt64)), .second, .val (.long ((pp.toInt64) * (r1.toInt64))), .second, .val (.int (1 : Int32)), .unset, .unset] [])) t
    refine XS.iconst X2.here hx rfl (hb hby at_76) ?_
    show Steps p.tables e below (T2.setTop (mkF m 77 #[.val (.int p1), .val (.int p2), .val (.int r1), .val (.int pp), .val (.int res), .val (.long (res.toInt64)), .second, .val (.long ((pp.toInt64) * (r1.toInt64))), .second, .val (.int (1 : Int32)), .unset, .unset] [(.int (1 : Int32))])) t
    refine XS.goto X2.here hx rfl (pc0 := 77) (pc' := 81) rfl (hb hby at_77) (by decide) (by decide) ?_
    show Steps p.tables e below (T2.setTop (mkF m 81 #[.val (.int p1), .val (.int p2), .val (.int r1), .val (.int pp), .val (.int res), .val (.long (res.toInt64)), .second, .val (.long ((pp.toInt64) * (r1.toInt64))), .second, .val (.int (1 : Int32)), .unset, .unset] [(.int (1 : Int32))])) t
    refine XS.istore X2.here hx rfl (hb hby at_81) rfl (l' := #[.val (.int p1), .val (.int p2), .val (.int r1), .val (.int pp), .val (.int res), .val (.long (res.toInt64)), .second, .val (.long ((pp.toInt64) * (r1.toInt64))), .second, .val (.int (1 : Int32)), .val (.int (1 : Int32)), .unset]) rfl ?_
    show Steps p.tables e below (T2.setTop (mkF m 83 #[.val (.int p1), .val (.int p2), .val (.int r1), .val (.int pp), .val (.int res), .val (.long (res.toInt64)), .second, .val (.long ((pp.toInt64) * (r1.toInt64))), .second, .val (.int (1 : Int32)), .val (.int (1 : Int32)), .unset] [])) t
    refine XS.lload X2.here hx rfl (hb hby at_83) rfl ?_
    show Steps p.tables e below (T2.setTop (mkF m 85 #[.val (.int p1), .val (.int p2), .val (.int r1), .val (.int pp), .val (.int res), .val (.long (res.toInt64)), .second, .val (.long ((pp.toInt64) * (r1.toInt64))), .second, .val (.int (1 : Int32)), .val (.int (1 : Int32)), .unset] [(.long (res.toInt64))])) t
    refine X2.ldc2Long hx hown (mvT hZ (hw _ (List.mem_of_getElem? (i := 11) rfl))) (g := (mkF m 85 #[.val (.int p1), .val (.int p2), .val (.int r1), .val (.int pp), .val (.int res), .val (.long (res.toInt64)), .second, .val (.long ((pp.toInt64) * (r1.toInt64))), .second, .val (.int (1 : Int32)), .val (.int (1 : Int32)), .unset] [(.long (res.toInt64))])) rfl (hb hby at_85) _ ?_
    show Steps p.tables e below (T2.setTop (mkF m 88 #[.val (.int p1), .val (.int p2), .val (.int r1), .val (.int pp), .val (.int res), .val (.long (res.toInt64)), .second, .val (.long ((pp.toInt64) * (r1.toInt64))), .second, .val (.int (1 : Int32)), .val (.int (1 : Int32)), .unset] [(.long (100 : Int64)), (.long (res.toInt64))])) t
    refine XS.lmul X2.here hx rfl (hb hby at_88) rfl ?_
    show Steps p.tables e below (T2.setTop (mkF m 89 #[.val (.int p1), .val (.int p2), .val (.int r1), .val (.int pp), .val (.int res), .val (.long (res.toInt64)), .second, .val (.long ((pp.toInt64) * (r1.toInt64))), .second, .val (.int (1 : Int32)), .val (.int (1 : Int32)), .unset] [(.long ((res.toInt64) * (100 : Int64)))])) t
    refine XS.lload X2.here hx rfl (hb hby at_89) rfl ?_
    show Steps p.tables e below (T2.setTop (mkF m 91 #[.val (.int p1), .val (.int p2), .val (.int r1), .val (.int pp), .val (.int res), .val (.long (res.toInt64)), .second, .val (.long ((pp.toInt64) * (r1.toInt64))), .second, .val (.int (1 : Int32)), .val (.int (1 : Int32)), .unset] [(.long ((pp.toInt64) * (r1.toInt64))), (.long ((res.toInt64) * (100 : Int64)))])) t
    refine XS.lcmp X2.here hx rfl (hb hby at_91) rfl ?_
    show Steps p.tables e below (T2.setTop (mkF m 92 #[.val (.int p1), .val (.int p2), .val (.int r1), .val (.int pp), .val (.int res), .val (.long (res.toInt64)), .second, .val (.long ((pp.toInt64) * (r1.toInt64))), .second, .val (.int (1 : Int32)), .val (.int (1 : Int32)), .unset] [(.int (lcmpW ((res.toInt64) * (100 : Int64)) ((pp.toInt64) * (r1.toInt64))))])) t
    refine XS.ifNo X2.here hx rfl (hb hby at_92) rfl ((if0 _ _).trans (tlt ((lw_lt ((res.toInt64) * (100 : Int64)) ((pp.toInt64) * (r1.toInt64))).mpr (rk4 : ((res.toInt64) * (100 : Int64)) < ((pp.toInt64) * (r1.toInt64))))).2.1) ?_
    show Steps p.tables e below (T2.setTop (mkF m 95 #[.val (.int p1), .val (.int p2), .val (.int r1), .val (.int pp), .val (.int res), .val (.long (res.toInt64)), .second, .val (.long ((pp.toInt64) * (r1.toInt64))), .second, .val (.int (1 : Int32)), .val (.int (1 : Int32)), .unset] [])) t
    refine XS.iconst X2.here hx rfl (hb hby at_95) ?_
    show Steps p.tables e below (T2.setTop (mkF m 96 #[.val (.int p1), .val (.int p2), .val (.int r1), .val (.int pp), .val (.int res), .val (.long (res.toInt64)), .second, .val (.long ((pp.toInt64) * (r1.toInt64))), .second, .val (.int (1 : Int32)), .val (.int (1 : Int32)), .unset] [(.int (1 : Int32))])) t
    refine XS.goto X2.here hx rfl (pc0 := 96) (pc' := 100) rfl (hb hby at_96) (by decide) (by decide) ?_
    show Steps p.tables e below (T2.setTop (mkF m 100 #[.val (.int p1), .val (.int p2), .val (.int r1), .val (.int pp), .val (.int res), .val (.long (res.toInt64)), .second, .val (.long ((pp.toInt64) * (r1.toInt64))), .second, .val (.int (1 : Int32)), .val (.int (1 : Int32)), .unset] [(.int (1 : Int32))])) t
    refine XS.istore X2.here hx rfl (hb hby at_100) rfl (l' := #[.val (.int p1), .val (.int p2), .val (.int r1), .val (.int pp), .val (.int res), .val (.long (res.toInt64)), .second, .val (.long ((pp.toInt64) * (r1.toInt64))), .second, .val (.int (1 : Int32)), .val (.int (1 : Int32)), .val (.int (1 : Int32))]) rfl ?_
    show Steps p.tables e below (T2.setTop (mkF m 102 #[.val (.int p1), .val (.int p2), .val (.int r1), .val (.int pp), .val (.int res), .val (.long (res.toInt64)), .second, .val (.long ((pp.toInt64) * (r1.toInt64))), .second, .val (.int (1 : Int32)), .val (.int (1 : Int32)), .val (.int (1 : Int32))] [])) t
    refine XS.iload X2.here hx rfl (hb hby at_102) rfl ?_
    show Steps p.tables e below (T2.setTop (mkF m 104 #[.val (.int p1), .val (.int p2), .val (.int r1), .val (.int pp), .val (.int res), .val (.long (res.toInt64)), .second, .val (.long ((pp.toInt64) * (r1.toInt64))), .second, .val (.int (1 : Int32)), .val (.int (1 : Int32)), .val (.int (1 : Int32))] [(.int (1 : Int32))])) t
    refine XS.ifNo X2.here hx rfl (hb hby at_104) rfl ((if0 _ _).trans (feq (by decide : ¬ ((1 : Int32) = (0 : Int32)))).1) ?_
    show Steps p.tables e below (T2.setTop (mkF m 107 #[.val (.int p1), .val (.int p2), .val (.int r1), .val (.int pp), .val (.int res), .val (.long (res.toInt64)), .second, .val (.long ((pp.toInt64) * (r1.toInt64))), .second, .val (.int (1 : Int32)), .val (.int (1 : Int32)), .val (.int (1 : Int32))] [])) t
    refine XS.iload X2.here hx rfl (hb hby at_107) rfl ?_
    show Steps p.tables e below (T2.setTop (mkF m 109 #[.val (.int p1), .val (.int p2), .val (.int r1), .val (.int pp), .val (.int res), .val (.long (res.toInt64)), .second, .val (.long ((pp.toInt64) * (r1.toInt64))), .second, .val (.int (1 : Int32)), .val (.int (1 : Int32)), .val (.int (1 : Int32))] [(.int (1 : Int32))])) t
    refine XS.ifNo X2.here hx rfl (hb hby at_109) rfl ((if0 _ _).trans (feq (by decide : ¬ ((1 : Int32) = (0 : Int32)))).1) ?_
    show Steps p.tables e below (T2.setTop (mkF m 112 #[.val (.int p1), .val (.int p2), .val (.int r1), .val (.int pp), .val (.int res), .val (.long (res.toInt64)), .second, .val (.long ((pp.toInt64) * (r1.toInt64))), .second, .val (.int (1 : Int32)), .val (.int (1 : Int32)), .val (.int (1 : Int32))] [])) t
    refine XS.iload X2.here hx rfl (hb hby at_112) rfl ?_
    show Steps p.tables e below (T2.setTop (mkF m 114 #[.val (.int p1), .val (.int p2), .val (.int r1), .val (.int pp), .val (.int res), .val (.long (res.toInt64)), .second, .val (.long ((pp.toInt64) * (r1.toInt64))), .second, .val (.int (1 : Int32)), .val (.int (1 : Int32)), .val (.int (1 : Int32))] [(.int (1 : Int32))])) t
    refine XS.ifNo X2.here hx rfl (hb hby at_114) rfl ((if0 _ _).trans (feq (by decide : ¬ ((1 : Int32) = (0 : Int32)))).1) ?_
    show Steps p.tables e below (T2.setTop (mkF m 117 #[.val (.int p1), .val (.int p2), .val (.int r1), .val (.int pp), .val (.int res), .val (.long (res.toInt64)), .second, .val (.long ((pp.toInt64) * (r1.toInt64))), .second, .val (.int (1 : Int32)), .val (.int (1 : Int32)), .val (.int (1 : Int32))] [])) t
    refine XS.iconst X2.here hx rfl (hb hby at_117) ?_
    show Steps p.tables e below (T2.setTop (mkF m 118 #[.val (.int p1), .val (.int p2), .val (.int r1), .val (.int pp), .val (.int res), .val (.long (res.toInt64)), .second, .val (.long ((pp.toInt64) * (r1.toInt64))), .second, .val (.int (1 : Int32)), .val (.int (1 : Int32)), .val (.int (1 : Int32))] [(.int (1 : Int32))])) t
    refine XS.goto X2.here hx rfl (pc0 := 118) (pc' := 122) rfl (hb hby at_118) (by decide) (by decide) ?_
    exact k
  obtain ⟨fs, hr, hrun, hended, hW, hsame⟩ := X2.leave (v := some (.int (1 : Int32))) (fun h => by rw [Bd.returns] at h; cases h)
  refine ⟨_, _, ?_, hrun, hended, _, _, rfl, ?_, ⟨_, rfl⟩, hW, hsame.mono (by decide) (by decide)⟩
  · show Steps p.tables e below (T2.setTop (mkF m 122 #[.val (.int p1), .val (.int p2), .val (.int r1), .val (.int pp), .val (.int res), .val (.long (res.toInt64)), .second, .val (.long ((pp.toInt64) * (r1.toInt64))), .second, .val (.int (1 : Int32)), .val (.int (1 : Int32)), .val (.int (1 : Int32))] [(.int (1 : Int32))])) _
    exact retN X2 hx (t := .boolean) Bd.returns (by simp) (hb hby at_122) hr
  · show Q0 Z p1 p2 h0 n0 _ T2.heap _
    rw [hh2]
    exact ⟨rfl, N2⟩
set_option maxRecDepth 65536 in
set_option maxHeartbeats 40000000 in
theorem comes_1 {Post : Tables → Env → Array Value → State → Outcome → State → Prop} (hpost : ∀ tb e args s v u, (limb_1_1.after args s (.returned v) u = true ∧ limb_1_2.after args s (.returned v) u = true ∧ True) → FrameEnd s (.returned v) u (Jvm.fieldLocs frame_1_writes args s ++ Jvm.arrayLocs frame_1_arrays args s ++ Jvm.staticLocs frame_1_statics s) 0 0 → Post tb e args s (.returned v) u) :
    ArmFor flags0 classFile x code maxLocals ret World_1 tables_1 room_1 Calls_1 rest_1 Pre_1 Post := by
  intro l hfl _ _ p e ha hc hk s m args below hf hA hF happ hP
  obtain ⟨hcalls, hrest, hpre⟩ := hP
  obtain ⟨-, -, -, hnamed, -, -, -, hat⟩ := (Spec.applies_iff hf).mp happ
  obtain ⟨hg, hn⟩ := and_e (Cond.before_iff.mp (show (Jvm.Cond.and given_1 narrow_1).before args s = true from hpre))
  obtain ⟨gc, g0⟩ := and_e hg
  obtain ⟨a0, g1⟩ := and_e g0
  have a1 := g1
  obtain ⟨w0, w1, rfl⟩ : ∃ w0 w1 : Value, args = #[w0, w1] := by
    have hs : args.size = 2 := by simpa [Cond.value, given_1] using gc
    obtain ⟨L⟩ := args
    match L, hs with
    | [w0, w1], _ => exact ⟨w0, w1, rfl⟩
  have hw := fun d (hd : d ∈ tables_1) => atoms_spec (ws := Jvm.Cond.code x code maxLocals ret :: tables_1) hat d (List.mem_cons_of_mem _ hd)
  have hfit : Fit s := fun {y c} hc i hi => by
    obtain ⟨ha, rfl⟩ := Array.getElem?_eq_some_iff.mp hc
    have q := List.all_eq_true.mp ((Array.all_eq_true_iff_forall_mem.mp hF) _ (Array.getElem_mem ha)) i (List.mem_range.mpr hi)
    simpa [Array.getElem?_eq_getElem hi] using q
  obtain ⟨i0, ei0⟩ := is_v a0
  obtain rfl : w0 = (.int i0) := Option.some.inj ei0
  obtain ⟨i1, ei1⟩ := is_v a1
  obtain rfl : w1 = (.int i1) := Option.some.inj ei1
  obtain ⟨n, o, h1, h2, h3, _, L, rfl, ⟨rfl, N⟩, hq⟩ := rm0 l s _ hw tables_1 i0 i1 s.heap s.heap.size (Nat.le_refl _) p e ha hc hk s m _ below hf ((Spec.applies_iff_loose hf).mp happ).1 ⟨rfl, State.Warmed39.refl s, rfl⟩ trivial
  refine ⟨n, _, h1, h2, h3, hpost _ _ _ _ _ _ ⟨Cond.after_iff.mpr rfl, Cond.after_iff.mpr (eq_i res_at (Term.int_eval (1)) rfl), trivial⟩ ⟨hq.1, hq.2.1, (hq.2.2.sift fun y hy => Or.inr (N y hy)).mono (by decide) (by decide)⟩⟩
theorem main_1_1 : Claimed_1_1 := comes_1 fun _ _ _ _ _ _ h hF => ⟨h.1, hF⟩
theorem main_1_2 : Claimed_1_2 := comes_1 fun _ _ _ _ _ _ h hF => ⟨h.2.1, hF⟩
end Jvm.Pilot.@@N@@
namespace Jvm.Pilot.@@N@@
open Jvm Jvm.ClassFile Sem Op Lib Jvm.Free Jvm.Stand Jvm.Pilot.@@N@@.Jvm.D
/-! MADE BY PROGRAM (witnessworld.py) out of the Statement's table words and the real class files: 10 classes; the members and pool entries that the words name. The judged class is class 1, her method 1. -/
namespace start1
open Jvm.ClassFile
def u (s : String) : CpInfo := .utf8 (stringToUtf16 s)
/-- a pool by its gaps: so many unusable entries, then the entry; so many at the end -/
def gap : Nat → List CpInfo → List CpInfo
  | 0, r => r
  | n + 1, r => .unusable :: gap n r
def poolList (es : List (Nat × CpInfo)) (last : Nat) : List CpInfo := es.foldr (fun e r => gap e.1 (e.2 :: r)) (gap last [])
def pool (es : List (Nat × CpInfo)) (last : Nat) : Array CpInfo := ⟨poolList es last⟩
def fileOf (pool : Array CpInfo) (this : Nat) (attrs : Array Attribute := #[]) (ms : Array MethodInfo := #[]) (fl : Nat := 33) (sup : Nat := 0) (ifs : Array Nat := #[]) (fds : Array FieldInfo := #[]) : ClassFile where
  minorVersion := 0
  majorVersion := 65
  constantPool := pool
  accessFlags := fl
  thisClass := this
  superClass := sup
  interfaces := ifs
  fields := fds
  methods := ms
  attributes := attrs
def plain (name : String) (sup : Option ClassId) : Class where
  name := name
  kind := .ordinary
  loader := none
  accessFlags := 33
  super := sup
  interfaces := #[]
  cf := none
  fields := #[]
  methods := #[]
  instanceTypes := #[]
  staticTypes := #[]
  resolved := #[]
  callSites := []
  init := .initialized
  statics := none
  mirror := none

def pool0 : Array CpInfo := pool [(5, u "<init>"), (0, u "()V"), (1, .class_ 10), (1, u "java/lang/Object")] 113

def k0m0 : Method := { name := "<init>", desc := "()V", sig := { parameters := [], returnType := none }, accessFlags := 1, code := none }
/-- java/lang/Object -/
def k0 : Class := { plain "java/lang/Object" none with
  accessFlags := 33
  interfaces := #[]
  cf := some (fileOf pool0 8 #[] #[{ accessFlags := 1, nameIndex := 5, descriptorIndex := 6, attributes := #[] }] 33 0 #[] #[])
  fields := #[]
  methods := #[k0m0]
  instanceTypes := #[]
  staticTypes := #[]
  resolved := Array.replicate 124 none
  statics := none }

def pool1 : Array CpInfo := pool [(2, .class_ 4), (1, u "java/lang/Object"), (0, u "<init>"), (0, u "()V"), (0, .integer 2147483647), (0, .methodref 9 10), (0, .class_ 11), (0, .nameAndType 12 13), (0, u "java/lang/Math"), (0, u "max"), (0, u "(II)I"), (0, .methodref 15 16), (0, .class_ 17), (0, .nameAndType 18 13), (0, u "com/example/wary_mutex/warymutex/cli/Percentiles"), (0, u "nearestRank"), (0, .long 100), (1, .class_ 22), (0, u "com/example/wary_mutex/warymutex/cli/PercentilesNearestRankPinLaw"), (2, u "law"), (0, u "(II)Z")] 3

def k1m0 : Method := { name := "<init>", desc := "()V", sig := { parameters := [], returnType := none }, accessFlags := 2, code := none }
def k1c1 : Code := { maxStack := 6, maxLocals := 12, code := code, exceptionTable := #[], attributes := #[] }
def k1m1 : Method := { name := "law", desc := "(II)Z", sig := { parameters := [.int, .int], returnType := some .boolean }, accessFlags := 9, code := some k1c1 }
/-- com/example/wary_mutex/warymutex/cli/PercentilesNearestRankPinLaw -/
def k1 : Class := { plain "com/example/wary_mutex/warymutex/cli/PercentilesNearestRankPinLaw" (some 0) with
  accessFlags := 49
  interfaces := #[]
  cf := some (fileOf pool1 21 #[] #[{ accessFlags := 2, nameIndex := 5, descriptorIndex := 6, attributes := #[] }, { accessFlags := 9, nameIndex := 25, descriptorIndex := 26, attributes := #[] }] 49 2 #[] #[])
  fields := #[]
  methods := #[k1m0, k1m1]
  instanceTypes := #[]
  staticTypes := #[]
  resolved := Array.replicate 30 none
  statics := none }

def pool2 : Array CpInfo := pool [(1, .class_ 2), (0, u "java/lang/Math"), (1, .class_ 6), (1, u "java/lang/Object"), (0, u "<init>"), (0, u "()V"), (89, .class_ 100), (1, u "java/lang/Math$RandomNumberGeneratorHolder"), (71, u "negativeZeroFloatBits"), (0, u "J"), (2, u "negativeZeroDoubleBits"), (21, u "max"), (46, u "$assertionsDisabled"), (0, u "Z"), (88, u "(II)I"), (2, u "twoToTheDoubleScaleDown"), (0, u "D"), (4, u "twoToTheDoubleScaleUp"), (9, u "E"), (3, u "PI"), (2, u "TAU"), (2, u "DEGREES_TO_RADIANS"), (0, u "RADIANS_TO_DEGREES")] 94

def k2m0 : Method := { name := "<init>", desc := "()V", sig := { parameters := [], returnType := none }, accessFlags := 2, code := none }
def k2c1 : Code := { maxStack := 2, maxLocals := 2, code := jdk_29_method_65_code, exceptionTable := #[], attributes := #[] }
def k2m1 : Method := { name := "max", desc := "(II)I", sig := { parameters := [.int, .int], returnType := some .int }, accessFlags := 9, code := some k2c1 }
/-- java/lang/Math -/
def k2 : Class := { plain "java/lang/Math" (some 0) with
  accessFlags := 49
  interfaces := #[]
  cf := some (fileOf pool2 1 #[.nestMembers #[98]] #[{ accessFlags := 2, nameIndex := 7, descriptorIndex := 8, attributes := #[] }, { accessFlags := 9, nameIndex := 198, descriptorIndex := 335, attributes := #[] }] 49 4 #[] #[{ accessFlags := 25, nameIndex := 354, descriptorIndex := 339, attributes := #[] }, { accessFlags := 25, nameIndex := 358, descriptorIndex := 339, attributes := #[] }, { accessFlags := 25, nameIndex := 361, descriptorIndex := 339, attributes := #[] }, { accessFlags := 26, nameIndex := 364, descriptorIndex := 339, attributes := #[] }, { accessFlags := 26, nameIndex := 365, descriptorIndex := 339, attributes := #[] }, { accessFlags := 26, nameIndex := 172, descriptorIndex := 173, attributes := #[] }, { accessFlags := 26, nameIndex := 176, descriptorIndex := 173, attributes := #[] }, { accessFlags := 8, nameIndex := 344, descriptorIndex := 339, attributes := #[] }, { accessFlags := 8, nameIndex := 338, descriptorIndex := 339, attributes := #[] }, { accessFlags := 4120, nameIndex := 245, descriptorIndex := 246, attributes := #[] }])
  fields := #[{ name := "E", type := .double, accessFlags := 25, slot := 0, constantValue := 0 }, { name := "PI", type := .double, accessFlags := 25, slot := 1, constantValue := 0 }, { name := "TAU", type := .double, accessFlags := 25, slot := 2, constantValue := 0 }, { name := "DEGREES_TO_RADIANS", type := .double, accessFlags := 26, slot := 3, constantValue := 0 }, { name := "RADIANS_TO_DEGREES", type := .double, accessFlags := 26, slot := 4, constantValue := 0 }, { name := "negativeZeroFloatBits", type := .long, accessFlags := 26, slot := 5, constantValue := 0 }, { name := "negativeZeroDoubleBits", type := .long, accessFlags := 26, slot := 6, constantValue := 0 }, { name := "twoToTheDoubleScaleUp", type := .double, accessFlags := 8, slot := 7, constantValue := 0 }, { name := "twoToTheDoubleScaleDown", type := .double, accessFlags := 8, slot := 8, constantValue := 0 }, { name := "$assertionsDisabled", type := .boolean, accessFlags := 4120, slot := 9, constantValue := 0 }]
  methods := #[k2m0, k2m1]
  instanceTypes := #[]
  staticTypes := #[.double, .double, .double, .double, .double, .long, .long, .double, .double, .boolean]
  resolved := Array.replicate 460 none
  statics := none }

def pool3 : Array CpInfo := pool [(2, .class_ 4), (1, u "java/lang/Object"), (0, u "<init>"), (0, u "()V"), (0, .long 99), (1, .long 100), (2, .class_ 14), (1, u "com/example/wary_mutex/warymutex/cli/Percentiles"), (0, u "nearestRank"), (0, u "(II)I")] 10

def k3m0 : Method := { name := "<init>", desc := "()V", sig := { parameters := [], returnType := none }, accessFlags := 2, code := none }
def k3c1 : Code := { maxStack := 4, maxLocals := 4, code := prog_17_method_2_code, exceptionTable := #[], attributes := #[] }
def k3m1 : Method := { name := "nearestRank", desc := "(II)I", sig := { parameters := [.int, .int], returnType := some .int }, accessFlags := 9, code := some k3c1 }
/-- com/example/wary_mutex/warymutex/cli/Percentiles -/
def k3 : Class := { plain "com/example/wary_mutex/warymutex/cli/Percentiles" (some 0) with
  accessFlags := 49
  interfaces := #[]
  cf := some (fileOf pool3 12 #[] #[{ accessFlags := 2, nameIndex := 5, descriptorIndex := 6, attributes := #[] }, { accessFlags := 9, nameIndex := 15, descriptorIndex := 16, attributes := #[] }] 49 2 #[] #[])
  fields := #[]
  methods := #[k3m0, k3m1]
  instanceTypes := #[]
  staticTypes := #[]
  resolved := Array.replicate 27 none
  statics := none }

def pool4 : Array CpInfo := pool [(1, u "java/lang/Cloneable"), (0, .class_ 1), (0, u "java/lang/Object"), (0, .class_ 3)] 3

/-- java/lang/Cloneable -/
def k4 : Class := { plain "java/lang/Cloneable" (some 0) with
  accessFlags := 1537
  interfaces := #[]
  cf := some (fileOf pool4 2 #[] #[] 1537 4 #[] #[])
  fields := #[]
  methods := #[]
  instanceTypes := #[]
  staticTypes := #[]
  resolved := Array.replicate 8 none
  statics := none }

def pool5 : Array CpInfo := pool [(1, u "java/io/Serializable"), (0, .class_ 1), (0, u "java/lang/Object"), (0, .class_ 3)] 3

/-- java/io/Serializable -/
def k5 : Class := { plain "java/io/Serializable" (some 0) with
  accessFlags := 1537
  interfaces := #[]
  cf := some (fileOf pool5 2 #[] #[] 1537 4 #[] #[])
  fields := #[]
  methods := #[]
  instanceTypes := #[]
  staticTypes := #[]
  resolved := Array.replicate 8 none
  statics := none }

/-- the primitive byte -/
def k6 : Class := { plain "byte" none with kind := .primitive 'B', accessFlags := 0x411 }
/-- [B -/
def k7 : Class := { plain "[B" (some 0) with kind := .array 6 .byte, interfaces := #[4, 5], accessFlags := 1041 }

/-- the primitive int -/
def k8 : Class := { plain "int" none with kind := .primitive 'I', accessFlags := 0x411 }
/-- [I -/
def k9 : Class := { plain "[I" (some 0) with kind := .array 8 .int, interfaces := #[4, 5], accessFlags := 1041 }

def heap : Heap := #[]
def classes : Array Class := #[k0, k1, k2, k3, k4, k5, k6, k7, k8, k9]
def interned : List (Array UInt16 × Addr) := []
def slotsUsed : Nat := 0
def theMethod : MethodId := ⟨1, 1⟩
def args0 : Array Value := #[.int 5, .int 7]
def aboutOver (below : List Frame) : State where
  vm := { classes := classes, interned := interned.toArray }
  heap := heap
  slotsUsed := slotsUsed
  threads := #[{ frames := .invoking theMethod args0 :: below }]
def below0 : List Frame := [.native { method := ⟨0, 0⟩, args := #[] }]
def about1 : State := aboutOver below0
def p0 : Program := .bare "" "" ""
def e0 : Env := launch0.env 0 0 0
theorem w_frames : about1.frames = Frame.invoking theMethod args0 :: below0 := rfl
set_option maxRecDepth 65536 in
theorem w_args : argsFit about1.vm theMethod args0 = true := by decide +kernel
set_option maxRecDepth 65536 in
theorem w_heap : heapFits about1 = true := by decide +kernel
set_option maxRecDepth 65536 in
theorem w_runnable : about1.curStatus? = some .runnable := by decide +kernel
set_option maxRecDepth 65536 in
theorem w_alone : about1.alone = true := by decide +kernel
set_option maxRecDepth 65536 in
theorem w_named : about1.methodNamed? x = some theMethod := by decide +kernel
set_option maxRecDepth 65536 in
theorem w_hears : about1.hears theMethod below0 = true := by decide +kernel
set_option maxRecDepth 65536 in
theorem w_ripe : about1.ripe theMethod args0 below0 = true := by decide +kernel
theorem w_running : about1.status = .running := rfl
set_option maxRecDepth 65536 in
theorem w_room : about1.hasRoom e0.platform room_1 = true :=
  launch0.hasRoom_least _ room_1 (by decide +kernel) (by decide +kernel) (by decide +kernel) (by decide +kernel) (by decide +kernel) (by decide +kernel)
theorem allAtoms_all (ts : List Jvm.Cond) (a : Array Jvm.Value) (st : Jvm.State) : (allAtoms ts).before a st = ts.all (fun c => c.before a st) := by
  induction ts with
  | nil => rfl
  | cons c t ih =>
    show (Jvm.Cond.and c (allAtoms t)).before a st = _
    rw [Jvm.Cond.before_and, ih, List.all_cons]
def words1 : List Jvm.Cond := Jvm.Cond.code x code maxLocals ret :: tables_1
/-- a 'code' word, met by the world's own term for the bytes: nothing is compared byte by byte -/
theorem code_word {y : MethodName} {bytes : ByteArray} {mx : Nat} {rt : Option FieldType} {a : Array Value} {s : State} {m : MethodId} {meth : Method} {c : Code} (h1 : s.methodNamed? y = some m) (h2 : s.vm.method? m = some meth) (h3 : meth.code = some c) (h4 : c.code = bytes)
    (h5 : (c.maxLocals == mx && c.exceptionTable.isEmpty && decide (c.maxStack ≤ mostOperands) && decide (meth.sig.returnType = rt) && !meth.locks && decide (parseMethodDescriptor y.desc = some meth.sig)) = true) : (Jvm.Cond.code y bytes mx rt).before a s = true := by
  simp only [Bool.and_eq_true, beq_iff_eq, Bool.not_eq_true', decide_eq_true_eq] at h5
  obtain ⟨⟨⟨⟨⟨g1, g2⟩, g3⟩, g4⟩, g5⟩, g6⟩ := h5
  simp [Cond.before, Cond.holds, Cond.value, h1, h2, h3, h4, g1, g2, g3, g4, g5, g6]
def isCode : Jvm.Cond → Bool
  | .code _ _ _ _ => true
  | _ => false
theorem all_split {L : List Jvm.Cond} {P : Jvm.Cond → Bool} (h1 : L.all (fun c => isCode c || P c) = true) (h2 : ∀ c ∈ L.filter isCode, P c = true) : L.all P = true := by
  refine List.all_eq_true.mpr fun c hc => ?_
  have h := List.all_eq_true.mp h1 c hc
  rcases Bool.eq_false_or_eq_true (isCode c) with hi | hi
  · exact h2 c (List.mem_filter.mpr ⟨hc, hi⟩)
  · simpa [hi] using h
set_option maxRecDepth 65536 in
theorem w_c0 : (Jvm.Cond.code x code maxLocals ret).before args0 about1 = true := code_word (m := ⟨1, 1⟩) (meth := k1m1) (c := k1c1) (by decide +kernel) rfl rfl rfl (by decide +kernel)
set_option maxRecDepth 65536 in
theorem w_c1 : (Jvm.Cond.code ({ cls := "java/lang/Math", name := "max", desc := "(II)I" } : Jvm.MethodName) jdk_29_method_65_code (2 : Nat) (Option.some Jvm.ClassFile.FieldType.int)).before args0 about1 = true := code_word (m := ⟨2, 1⟩) (meth := k2m1) (c := k2c1) (by decide +kernel) rfl rfl rfl (by decide +kernel)
set_option maxRecDepth 65536 in
theorem w_c2 : (Jvm.Cond.code ({ cls := "com/example/wary_mutex/warymutex/cli/Percentiles", name := "nearestRank", desc := "(II)I" } : Jvm.MethodName) prog_17_method_2_code (4 : Nat) (Option.some Jvm.ClassFile.FieldType.int)).before args0 about1 = true := code_word (m := ⟨3, 1⟩) (meth := k3m1) (c := k3c1) (by decide +kernel) rfl rfl rfl (by decide +kernel)
def codes1 : List Jvm.Cond := [Jvm.Cond.code x code maxLocals ret, Jvm.Cond.code ({ cls := "java/lang/Math", name := "max", desc := "(II)I" } : Jvm.MethodName) jdk_29_method_65_code (2 : Nat) (Option.some Jvm.ClassFile.FieldType.int), Jvm.Cond.code ({ cls := "com/example/wary_mutex/warymutex/cli/Percentiles", name := "nearestRank", desc := "(II)I" } : Jvm.MethodName) prog_17_method_2_code (4 : Nat) (Option.some Jvm.ClassFile.FieldType.int)]
set_option maxRecDepth 65536 in
theorem codes_eq : words1.filter isCode = codes1 := rfl
theorem w_codes : ∀ c ∈ words1.filter isCode, c.before args0 about1 = true := by
  rw [codes_eq]
  intro c hc
  simp only [codes1, List.mem_cons, List.not_mem_nil, or_false] at hc
  rcases hc with rfl | rfl | rfl
  · exact w_c0
  · exact w_c1
  · exact w_c2
set_option maxRecDepth 65536 in
theorem w_t1 : words1.all (fun c => isCode c || c.before args0 about1) = true := by decide +kernel
theorem w_tables : (allAtoms (Jvm.Cond.code x code maxLocals ret :: tables_1)).before args0 about1 = true := by
  rw [allAtoms_all]
  show words1.all (fun c => c.before args0 about1) = true
  refine all_split ?_ w_codes
  rw [w_t1]
set_option maxRecDepth 65536 in
theorem w_case : (Jvm.Cond.and given_1 narrow_1).before args0 about1 = true := by decide +kernel
theorem w_applies : (headSpec (Jvm.Cond.code x code maxLocals ret :: tables_1) room_1).applies x e0.platform about1 = true :=
  (Spec.applies_iff w_frames).mpr ⟨w_running, w_runnable, w_alone, w_named, w_hears, w_ripe, w_room, w_tables⟩
theorem atStart : AtStart classFile x code maxLocals ret World_1 tables_1 room_1 Calls_1 rest_1 Pre_1 launch0 p0 e0 about1 theMethod args0 below0 :=
  ⟨lists_1, trivial, launch0.admits_env _ _ _, launch0.least_env, fairChoices_fair.cas, fairChoices_fair.clock, w_frames, w_args, w_heap, w_applies, trivial, trivial, w_case⟩
end start1
theorem witness_1 : WitnessClaimed_1 := ⟨start1.p0, start1.e0, start1.about1, start1.theMethod, start1.args0, start1.below0, start1.atStart⟩
end Jvm.Pilot.@@N@@
