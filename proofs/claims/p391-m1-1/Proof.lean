import JvmDerived
import JvmDerived.Pilot.@@N@@Statement
import JvmDerived.Pilot.@@N@@Code
set_option linter.unusedVariables false
set_option linter.unusedSimpArgs false
namespace Jvm.RoadKit
open Sem ClassFile Op Lib Jvm.Stand Jvm.Free Jvm.LawKit
section New
variable {p : Program} {l : Launch} {e : Env} {R : Room} {s : State} {m : MethodId} {args : Array Value} {below : List Frame} {meth : Method} {c : Code} {T : State} {locs : List Loc} {cells slots : Nat}
theorem retI (X : Stand p l e R s m args below meth c T locs cells slots) (hx : p.tables.exec = Jvm.exec) {pc : Nat} {Ls : Array Slot} {z : Int32} {rest : List Value} (hret : meth.sig.returnType = some .int) (hd : decode c.code pc = .ok (.ireturn, 1)) {fs : List Frame}
    (hl : ∀ (f : JFrame) (acts : List Action), f.method = m → f.locked = none → f.entered = [] → (doReturn e (T.setTop f) acts (some (.int z))).1 = T.setFrames fs) : Steps p.tables e below (T.setTop (mkF m pc Ls (.int z :: rest))) (T.setFrames fs) := by
  have hm' : T.vm.method? m = some meth := X.method'
  have hn : narrow .int (.int z) = .int z := rfl
  show Steps p.tables e below (T.setTop { method := m, pc := pc, locals := Ls, stack := _ :: rest, locked := none }) _
  jvm_step X.here [X.here.top, hx, hd, hm', hret, hn]
  first | (intro acts; rw [hl _ acts rfl rfl rfl]) | rw [hl _ _ rfl rfl rfl]
  exact Steps.refl _
/-- from A the run ends as K says -/
abbrev own_Fin (p : Program) (e : Env) (below : List Frame) (K : Outcome → State → Prop) (A : State) : Prop := ∃ s₂ o, Steps p.tables e below A s₂ ∧ s₂.status = .running ∧ Ended s₂ below o ∧ K o s₂
theorem own_go {K : Outcome → State → Prop} {A B : State} (h : ∀ t, Steps p.tables e below B t → Steps p.tables e below A t) (k : own_Fin p e below K B) : own_Fin p e below K A := by
  obtain ⟨s₂, o, hs, r⟩ := k
  exact ⟨s₂, o, h _ hs, r⟩
end New
end Jvm.RoadKit

namespace Jvm.RoadKit
open Sem ClassFile Op Lib Jvm.Stand Jvm.Free Jvm.LawKit
/-- an array of known length whose components are what g says -/
def own_Ag {α : Type} (mk : α → Value) (Z : State) (h : Heap) (a : Addr) (ty : FieldType) (n : Int32) (g : Nat → α) : Prop := ∃ c : Cell, Arr Z h a c ty ∧ c.slots.size = n.toNatClampNeg ∧ ¬ n < 0 ∧ ∀ i, i < c.slots.size → c.slots[i]? = some (mk (g i))
section Ag
variable {α : Type} {mk : α → Value} {Z : State} {h h' : Heap} {a b : Addr} {ty : FieldType} {n : Int32} {g : Nat → α} {sl : Nat} {v : Value} {ws : List Addr}
theorem own_Ag.lt (F : own_Ag mk Z h a ty n g) : a < h.size := by obtain ⟨c, A, -⟩ := F; exact A.lt
theorem own_Ag.ext (F : own_Ag mk Z h a ty n g) (E : Ext h h') : own_Ag mk Z h' a ty n g := by obtain ⟨c, A, r⟩ := F; exact ⟨c, A.ext E, r⟩
theorem own_Ag.other (F : own_Ag mk Z h b ty n g) (W : Wr h h' a sl v) (q : b ≠ a) : own_Ag mk Z h' b ty n g := by obtain ⟨c, A, r⟩ := F; exact ⟨c, A.other W q, r⟩
theorem own_Ag.keep (F : own_Ag mk Z h a ty n g) (K : Keep h h' ws) (q : a ∉ ws) : own_Ag mk Z h' a ty n g := by obtain ⟨c, A, r⟩ := F; exact ⟨c, ⟨K.2.1 a c A.1 q, A.2⟩, r⟩
theorem own_Ag.set {x : α} (F : own_Ag mk Z h a ty n g) (W : Wr h h' a sl (mk x)) : own_Ag mk Z h' a ty n (fun i => if i = sl then x else g i) := by
  obtain ⟨c, A, S, q, H⟩ := F
  obtain ⟨cw, w1, w2, w3, w4⟩ := id W
  have hc : cw = c := Option.some.inj (w1.symm.trans A.1)
  subst hc
  have hs : (cw.setSlot sl (mk x)).slots.size = cw.slots.size := by simp [Cell.setSlot]
  refine ⟨cw.setSlot sl (mk x), A.same W, hs.trans S, q, fun i hi => ?_⟩
  by_cases e : i = sl
  · subst e; simp [Cell.setSlot, w3]
  · simp only [if_neg e]
    rw [← H i (hs ▸ hi)]
    exact Array.getElem?_setIfInBounds_ne (Ne.symm e)
theorem own_Ag.setk {x : α} {j : Int32} (F : own_Ag mk Z h a ty n g) (W : Wr h h' a j.toNatClampNeg (mk x)) (k : Nat) (e : j.toNatClampNeg = k) : own_Ag mk Z h' a ty n (fun i => if i = k then x else g i) := by subst e; exact F.set W
theorem own_Ag.get (F : own_Ag mk Z h a ty n g) {j : Int32} (h1 : ¬ j < 0) (h2 : j < n) : ∃ cl : Cell, Arr Z h a cl ty ∧ ¬ (j < 0 ∨ cl.slots.size ≤ j.toNatClampNeg) ∧ cl.slots[j.toNatClampNeg]? = some (mk (g j.toNatClampNeg)) ∧ cl.slots.size = n.toNatClampNeg ∧ ¬ n < 0 := by
  obtain ⟨c, A, S, q, H⟩ := F
  have i := inb_of S ⟨h1, h2⟩
  exact ⟨c, A, i, H _ (Nat.lt_of_not_le fun y => i (Or.inr y)), S, q⟩
theorem own_Ag.len (F : own_Ag mk Z h a ty n g) : ∃ cl : Cell, Arr Z h a cl ty ∧ cl.slots.size = n.toNatClampNeg ∧ ¬ n < 0 := by
  obtain ⟨c, A, S, q, H⟩ := F
  exact ⟨c, A, S, q⟩
theorem own_Ag.new {k : ClassId} {d : α} (F : Arv Z h a k ty n [] (mk d)) : own_Ag mk Z h a ty n (fun _ => d) := by
  obtain ⟨c, A, -, S, q, H, -⟩ := F
  exact ⟨c, A, S, q, fun i hi => by simpa using H i hi⟩
theorem own_Ag.eqv {g' : Nat → α} (F : own_Ag mk Z h a ty n g) (e : ∀ i, i < n.toNatClampNeg → g' i = g i) : own_Ag mk Z h a ty n g' := by
  obtain ⟨c, A, S, q, H⟩ := F
  exact ⟨c, A, S, q, fun i hi => by rw [e i (S ▸ hi)]; exact H i hi⟩
theorem own_Ag.nestat (F : own_Ag mk Z h a ty n g) : ∀ cell : Cell, h[a]? = some cell → cell.vm.isStatics = false := by obtain ⟨c, A, -⟩ := F; exact A.nostat
end Ag
end Jvm.RoadKit

namespace Jvm.Pilot.@@N@@
open Jvm Jvm.ClassFile Sem Op Lib Jvm.Free Jvm.Stand Jvm.LawKit Jvm.RoadKit Bundle Jvm.Pilot.@@N@@.Jvm.D
def own_rate (k : Int32) : UInt64 := if k = (9 : Int32) then (9223372036854775808 : UInt64) else (FP.ddiv (FP.i2d k) (4625196817309499392 : UInt64))
def own_good (d : UInt64) : Prop := ¬ (cmpValue (FP.dcmp d (0 : UInt64)) .l) < (0 : Int32) ∧ ¬ (0 : Int32) < (cmpValue (FP.dcmp d (4602678819172646912 : UInt64)) .g)
def own_pos (k : Int32) : Int32 := if k < (1 : Int32) then (0 : Int32) else (if (8 : Int32) < k then (0 : Int32) else (1 : Int32))
theorem own_all : ∀ i : Fin 10, (¬ (cmpValue (FP.dcmp (own_rate (Int32.ofInt (i.1 : Int))) (0 : UInt64)) .l) < (0 : Int32) ∧ ¬ (0 : Int32) < (cmpValue (FP.dcmp (own_rate (Int32.ofInt (i.1 : Int))) (4602678819172646912 : UInt64)) .g)) ∧ (0 < (cmpValue (FP.dcmp (own_rate (Int32.ofInt (i.1 : Int))) (0 : UInt64)) .l) ↔ own_pos (Int32.ofInt (i.1 : Int)) ≠ 0) := by decide +kernel
theorem own_k {a k : Int32} (h : k = (a &&& (2147483647 : Int32)) % (10 : Int32)) : ∃ i : Fin 10, k = Int32.ofInt (i.1 : Int) := by
  subst h
  have h1 := c_mask a 2147483647 31 (by decide) (by decide)
  have h2 := (c_irem (a &&& 2147483647) 10 10 (by decide)).1
  have h6 := rng32 a
  have e : 0 ≤ ((a &&& 2147483647) % 10).toInt ∧ ((a &&& 2147483647) % 10).toInt < 10 := by omega
  refine ⟨⟨((a &&& 2147483647) % 10).toInt.toNat, by omega⟩, Int32.toInt_inj.mp ?_⟩
  rw [show ((((a &&& 2147483647) % 10).toInt.toNat : Nat) : Int) = ((a &&& 2147483647) % 10).toInt by omega, Int32.ofInt_toInt]
theorem own_rg {a k : Int32} (h : k = (a &&& (2147483647 : Int32)) % (10 : Int32)) : own_good (own_rate k) ∧ (0 < (cmpValue (FP.dcmp (own_rate k) (0 : UInt64)) .l) ↔ own_pos k ≠ 0) := by
  obtain ⟨i, rfl⟩ := own_k h
  exact own_all i
theorem own_nn (k : Int32) : Jvm.Free.Fl.NoNaN64 (FP.ddiv (FP.i2d k) (4625196817309499392 : UInt64)) :=
  Jvm.Free.Fl.ddiv_out (Jvm.Free.Fl.i2d_fin k).noNaN (by unfold Jvm.Free.Fl.Fin64; decide) (by unfold Jvm.Free.Fl.Nz64; decide)
theorem own_any {ka kb kc r : Int32} (ha : 0 < (cmpValue (FP.dcmp (own_rate ka) (0 : UInt64)) .l) ↔ own_pos ka ≠ 0) (hb : 0 < (cmpValue (FP.dcmp (own_rate kb) (0 : UInt64)) .l) ↔ own_pos kb ≠ 0) (hc : 0 < (cmpValue (FP.dcmp (own_rate kc) (0 : UInt64)) .l) ↔ own_pos kc ≠ 0) (hr : r = (if (0 : Int32) < (cmpValue (FP.dcmp (own_rate ka) (0 : UInt64)) .l) then (1 : Int32) else (if (0 : Int32) < (cmpValue (FP.dcmp (own_rate kb) (0 : UInt64)) .l) then (1 : Int32) else (if (0 : Int32) < (cmpValue (FP.dcmp (own_rate kc) (0 : UInt64)) .l) then (1 : Int32) else (0 : Int32))))) : (own_pos ka ≠ 0 ∨ own_pos kb ≠ 0 ∨ own_pos kc ≠ 0 → r = (1 : Int32)) ∧ (own_pos ka = 0 → own_pos kb = 0 → own_pos kc = 0 → r = (0 : Int32)) := by
  rw [hr]
  by_cases p : own_pos ka ≠ 0
  · rw [if_pos (ha.mpr p)]
    exact ⟨fun _ => rfl, fun z => absurd z p⟩
  · rw [if_neg (fun z => p (ha.mp z))]
    by_cases q : own_pos kb ≠ 0
    · rw [if_pos (hb.mpr q)]
      exact ⟨fun _ => rfl, fun _ z => absurd z q⟩
    · rw [if_neg (fun z => q (hb.mp z))]
      by_cases u : own_pos kc ≠ 0
      · rw [if_pos (hc.mpr u)]
        exact ⟨fun _ => rfl, fun _ _ z => absurd z u⟩
      · rw [if_neg (fun z => u (hc.mp z))]
        exact ⟨fun z => by rcases z with z | z | z <;> contradiction, fun _ _ _ => rfl⟩
theorem d1_0 : decode method_2_code 0 = .ok (.iload_n 0, 1) := by decide +kernel
theorem d1_1 : decode method_2_code 1 = .ok (.ldc 7, 2) := by decide +kernel
theorem d1_3 : decode method_2_code 3 = .ok (.iand, 1) := by decide +kernel
theorem d1_4 : decode method_2_code 4 = .ok (.bipush 10, 2) := by decide +kernel
theorem d1_6 : decode method_2_code 6 = .ok (.irem, 1) := by decide +kernel
theorem d1_7 : decode method_2_code 7 = .ok (.ireturn, 1) := by decide +kernel
theorem pn_rm1 : plainName "com/example/quorumline/quorumline/server/RatesAnyPinLaw" = true := by first | (simp [plainName, overriddenIn]; done) | decide +kernel
theorem ef_rm1 (m : MethodId) (x0 : Int32) : entryFrame m #[(.int x0)] 1 = mkF m 0 #[.val (.int x0)] [] := by first | (simp [entryFrame, mkF, argsToLocals, Value.category]; done) | rfl
def Q1 (Z : State) (p1 : Int32) (h0 : Heap) (n0 : Nat) (v : Option Value) (h : Heap) (L : List Loc) : Prop := v = some (.int ((p1 &&& (2147483647 : Int32)) % (10 : Int32))) ∧ Fr n0 L ∧ h = h0
set_option maxRecDepth 65536 in
set_option maxHeartbeats 40000000 in
theorem rm1 (l : Launch) (Z : State) (a0 : Array Value) (hw : ∀ d ∈ tables_1, d.before a0 Z = true) (ws : List Jvm.Cond) (p1 : Int32) (h0 : Heap) (n0 : Nat) (Z0 : n0 ≤ h0.size) :
    MetFree l (⟨"com/example/quorumline/quorumline/server/RatesAnyPinLaw", "pick", "(I)I"⟩ : MethodName) (head1 (Jvm.Cond.code (⟨"com/example/quorumline/quorumline/server/RatesAnyPinLaw", "pick", "(I)I"⟩ : MethodName) method_2_code 1 (some .int) :: ws) ({ frames := 0, cells := 0, slots := 0, locals := 0 } : Room)) (fun a U => a = #[(.int p1)] ∧ Z.Warmed39 U.vm ∧ U.heap = h0) (fun _ _ _ _ _ => True) (fun _ U o U' => ∃ v L, o = .returned v ∧ Q1 Z p1 h0 n0 v U'.heap L ∧ FrameEnd U o U' L ({ frames := 0, cells := 0, slots := 0, locals := 0 } : Room).cells ({ frames := 0, cells := 0, slots := 0, locals := 0 } : Room).slots) := by
  refine MetFree.of_bodySF (plainFor_of_name pn_rm1) hisR ?_
  intro p e s m args below meth c s₁ Bd hml0 hP hK
  obtain ⟨rfl, hZ, hh⟩ := hP
  have hx := Bd.exec
  have hby := Bd.bytes
  have hml : c.maxLocals = 1 := hml0
  have hown : s.vm.findClass "com/example/quorumline/quorumline/server/RatesAnyPinLaw" = some m.cls := findClass_of_methodNamed Bd.named
  have hnm := (name_of_methodNamed Bd.named Bd.method).1
  have X0 : Stand p l e ({ frames := 0, cells := 0, slots := 0, locals := 0 } : Room) s m #[(.int p1)] below meth c s₁ [] 0 0 := Stand.of_body Bd
  have e0 : s₁.heap = h0 := by rw [← hh, Bd.state]; rfl
  have N0 := Fr.nil n0
  have pre0 : ∀ t, Steps p.tables e below (s₁.setTop (mkF m 0 #[.val (.int p1)] [])) t → Steps p.tables e below (s₁.setTop (entryFrame m #[(.int p1)] 1)) t := fun t k => castTop (ef_rm1 m p1) k
  show own_Fin p e below _ _
  refine own_go pre0 ?_
  refine own_go (B := s₁.setTop (mkF m 7 #[.val (.int p1)] [(.int ((p1 &&& (2147483647 : Int32)) % (10 : Int32)))])) (fun t k => ?_) ?_
  · show Steps p.tables e below (s₁.setTop (mkF m 0 #[.val (.int p1)] [])) t
    refine XS.iloadN X0.here hx rfl (hb hby d1_0) rfl ?_
    show Steps p.tables e below (s₁.setTop (mkF m 1 #[.val (.int p1)] [(.int p1)])) t
    refine X0.ldcInt hx hown (mvT hZ (hw _ (List.mem_of_getElem? (i := 4) rfl))) (g := (mkF m 1 #[.val (.int p1)] [(.int p1)])) rfl (hb hby d1_1) _ ?_
    show Steps p.tables e below (s₁.setTop (mkF m 3 #[.val (.int p1)] [(.int (2147483647 : Int32)), (.int p1)])) t
    refine XS.iand X0.here hx rfl (hb hby d1_3) rfl ?_
    show Steps p.tables e below (s₁.setTop (mkF m 4 #[.val (.int p1)] [(.int (p1 &&& (2147483647 : Int32)))])) t
    refine XS.bipush X0.here hx rfl (hb hby d1_4) ?_
    show Steps p.tables e below (s₁.setTop (mkF m 6 #[.val (.int p1)] [(.int (10 : Int32)), (.int (p1 &&& (2147483647 : Int32)))])) t
    refine iremM X0 hx rfl (hb hby d1_6) rfl (by decide) ?_
    exact k
  obtain ⟨fs, hr, hrun, hended, hW, hsame⟩ := X0.leave (v := some (.int ((p1 &&& (2147483647 : Int32)) % (10 : Int32)))) (fun h => by rw [Bd.returns] at h; cases h)
  refine ⟨_, _, ?_, hrun, hended, _, _, rfl, ?_, ⟨_, rfl⟩, hW, hsame.mono (by decide) (by decide)⟩
  · show Steps p.tables e below (s₁.setTop (mkF m 7 #[.val (.int p1)] [(.int ((p1 &&& (2147483647 : Int32)) % (10 : Int32)))])) _
    exact retI X0 hx Bd.returns (hb hby d1_7) hr
  · show Q1 Z p1 h0 n0 _ s₁.heap _
    rw [e0]
    exact ⟨rfl, N0, rfl⟩
theorem d2_0 : decode method_3_code 0 = .ok (.iload_n 0, 1) := by decide +kernel
theorem d2_1 : decode method_3_code 1 = .ok (.bipush 9, 2) := by decide +kernel
theorem d2_3 : decode method_3_code 3 = .ok (.if_icmp .ne 7, 3) := by decide +kernel
theorem d2_6 : decode method_3_code 6 = .ok (.ldc2_w 8, 3) := by decide +kernel
theorem d2_9 : decode method_3_code 9 = .ok (.dreturn, 1) := by decide +kernel
theorem d2_10 : decode method_3_code 10 = .ok (.iload_n 0, 1) := by decide +kernel
theorem d2_11 : decode method_3_code 11 = .ok (.i2d, 1) := by decide +kernel
theorem d2_12 : decode method_3_code 12 = .ok (.ldc2_w 10, 3) := by decide +kernel
theorem d2_15 : decode method_3_code 15 = .ok (.ddiv, 1) := by decide +kernel
theorem d2_16 : decode method_3_code 16 = .ok (.dreturn, 1) := by decide +kernel
theorem pn_rm2 : plainName "com/example/quorumline/quorumline/server/RatesAnyPinLaw" = true := by first | (simp [plainName, overriddenIn]; done) | decide +kernel
theorem ef_rm2 (m : MethodId) (x0 : Int32) : entryFrame m #[(.int x0)] 1 = mkF m 0 #[.val (.int x0)] [] := by first | (simp [entryFrame, mkF, argsToLocals, Value.category]; done) | rfl
def Q2 (Z : State) (p1 : Int32) (h0 : Heap) (n0 : Nat) (v : Option Value) (h : Heap) (L : List Loc) : Prop := v = some (.double (own_rate p1)) ∧ Fr n0 L ∧ h = h0
set_option maxRecDepth 65536 in
set_option maxHeartbeats 40000000 in
theorem rm2 (l : Launch) (Z : State) (a0 : Array Value) (hw : ∀ d ∈ tables_1, d.before a0 Z = true) (ws : List Jvm.Cond) (p1 : Int32) (h0 : Heap) (n0 : Nat) (Z0 : n0 ≤ h0.size) :
    MetFree l (⟨"com/example/quorumline/quorumline/server/RatesAnyPinLaw", "rate", "(I)D"⟩ : MethodName) (head1 (Jvm.Cond.code (⟨"com/example/quorumline/quorumline/server/RatesAnyPinLaw", "rate", "(I)D"⟩ : MethodName) method_3_code 1 (some .double) :: ws) ({ frames := 0, cells := 0, slots := 0, locals := 0 } : Room)) (fun a U => a = #[(.int p1)] ∧ Z.Warmed39 U.vm ∧ U.heap = h0) (fun _ _ _ _ _ => True) (fun _ U o U' => ∃ v L, o = .returned v ∧ Q2 Z p1 h0 n0 v U'.heap L ∧ FrameEnd U o U' L ({ frames := 0, cells := 0, slots := 0, locals := 0 } : Room).cells ({ frames := 0, cells := 0, slots := 0, locals := 0 } : Room).slots) := by
  refine MetFree.of_bodySF (plainFor_of_name pn_rm2) hisR ?_
  intro p e s m args below meth c s₁ Bd hml0 hP hK
  obtain ⟨rfl, hZ, hh⟩ := hP
  have hx := Bd.exec
  have hby := Bd.bytes
  have hml : c.maxLocals = 1 := hml0
  have hown : s.vm.findClass "com/example/quorumline/quorumline/server/RatesAnyPinLaw" = some m.cls := findClass_of_methodNamed Bd.named
  have hnm := (name_of_methodNamed Bd.named Bd.method).1
  have X0 : Stand p l e ({ frames := 0, cells := 0, slots := 0, locals := 0 } : Room) s m #[(.int p1)] below meth c s₁ [] 0 0 := Stand.of_body Bd
  have e0 : s₁.heap = h0 := by rw [← hh, Bd.state]; rfl
  have N0 := Fr.nil n0
  have pre0 : ∀ t, Steps p.tables e below (s₁.setTop (mkF m 0 #[.val (.int p1)] [])) t → Steps p.tables e below (s₁.setTop (entryFrame m #[(.int p1)] 1)) t := fun t k => castTop (ef_rm2 m p1) k
  show own_Fin p e below _ _
  refine own_go pre0 ?_
  refine own_go (B := s₁.setTop (mkF m 3 #[.val (.int p1)] [(.int (9 : Int32)), (.int p1)])) (fun t k => ?_) ?_
  · show Steps p.tables e below (s₁.setTop (mkF m 0 #[.val (.int p1)] [])) t
    refine XS.iloadN X0.here hx rfl (hb hby d2_0) rfl ?_
    show Steps p.tables e below (s₁.setTop (mkF m 1 #[.val (.int p1)] [(.int p1)])) t
    refine XS.bipush X0.here hx rfl (hb hby d2_1) ?_
    exact k
  by_cases hc3_1 : p1 = (9 : Int32)
  · refine own_go (B := s₁.setTop (mkF m 6 #[.val (.int p1)] [])) (fun t k => ?_) ?_
    · show Steps p.tables e below (s₁.setTop (mkF m 3 #[.val (.int p1)] [(.int (9 : Int32)), (.int p1)])) t
      refine XS.icmpNo X0.here hx rfl (hb hby d2_3) rfl (teq hc3_1).2 ?_
      exact k
    refine own_go (B := s₁.setTop (mkF m 9 #[.val (.int p1)] [(.double (9223372036854775808 : UInt64))])) (fun t k => ?_) ?_
    · show Steps p.tables e below (s₁.setTop (mkF m 6 #[.val (.int p1)] [])) t
      refine X0.ldc2DoubleC hx hown (mvT hZ (hw _ (List.mem_of_getElem? (i := 39) rfl))) (g := (mkF m 6 #[.val (.int p1)] [])) rfl (hb hby d2_6) _ ?_
      exact k
    obtain ⟨fs, hr, hrun, hended, hW, hsame⟩ := X0.leave (v := some (.double (9223372036854775808 : UInt64))) (fun h => by rw [Bd.returns] at h; cases h)
    refine ⟨_, _, ?_, hrun, hended, _, _, rfl, ?_, ⟨_, rfl⟩, hW, hsame.mono (by decide) (by decide)⟩
    · show Steps p.tables e below (s₁.setTop (mkF m 9 #[.val (.int p1)] [(.double (9223372036854775808 : UInt64))])) _
      jvm_step X0.here [X0.here.top, hx, (hb hby d2_9), X0.method', Bd.returns, narrow]
      first | (intro acts; rw [hr _ acts rfl rfl rfl]) | rw [hr _ _ rfl rfl rfl]
      exact Steps.refl _
    · show Q2 Z p1 h0 n0 _ s₁.heap _
      rw [e0]
      exact ⟨by rw [own_rate, if_pos hc3_1], N0, rfl⟩
  · refine own_go (B := s₁.setTop (mkF m 10 #[.val (.int p1)] [])) (fun t k => ?_) ?_
    · show Steps p.tables e below (s₁.setTop (mkF m 3 #[.val (.int p1)] [(.int (9 : Int32)), (.int p1)])) t
      refine XS.icmpYes X0.here hx rfl (pc0 := 3) (pc' := 10) rfl (hb hby d2_3) rfl (feq hc3_1).2 (by decide) (by decide) ?_
      exact k
    refine own_go (B := s₁.setTop (mkF m 16 #[.val (.int p1)] [(.double (FP.ddiv (FP.i2d p1) (4625196817309499392 : UInt64)))])) (fun t k => ?_) ?_
    · show Steps p.tables e below (s₁.setTop (mkF m 10 #[.val (.int p1)] [])) t
      refine XS.iloadN X0.here hx rfl (hb hby d2_10) rfl ?_
      show Steps p.tables e below (s₁.setTop (mkF m 11 #[.val (.int p1)] [(.int p1)])) t
      refine XS.i2dS X0.here hx rfl (hb hby d2_11) rfl rfl ?_
      show Steps p.tables e below (s₁.setTop (mkF m 12 #[.val (.int p1)] [(.double (FP.i2d p1))])) t
      refine X0.ldc2DoubleC hx hown (mvT hZ (hw _ (List.mem_of_getElem? (i := 11) rfl))) (g := (mkF m 12 #[.val (.int p1)] [(.double (FP.i2d p1))])) rfl (hb hby d2_12) _ ?_
      show Steps p.tables e below (s₁.setTop (mkF m 15 #[.val (.int p1)] [(.double (4625196817309499392 : UInt64)), (.double (FP.i2d p1))])) t
      refine XS.ddivS X0.here hx rfl (hb hby d2_15) rfl (own_nn p1) rfl ?_
      exact k
    obtain ⟨fs, hr, hrun, hended, hW, hsame⟩ := X0.leave (v := some (.double (FP.ddiv (FP.i2d p1) (4625196817309499392 : UInt64)))) (fun h => by rw [Bd.returns] at h; cases h)
    refine ⟨_, _, ?_, hrun, hended, _, _, rfl, ?_, ⟨_, rfl⟩, hW, hsame.mono (by decide) (by decide)⟩
    · show Steps p.tables e below (s₁.setTop (mkF m 16 #[.val (.int p1)] [(.double (FP.ddiv (FP.i2d p1) (4625196817309499392 : UInt64)))])) _
      jvm_step X0.here [X0.here.top, hx, (hb hby d2_16), X0.method', Bd.returns, narrow]
      first | (intro acts; rw [hr _ acts rfl rfl rfl]) | rw [hr _ _ rfl rfl rfl]
      exact Steps.refl _
    · show Q2 Z p1 h0 n0 _ s₁.heap _
      rw [e0]
      exact ⟨by rw [own_rate, if_neg hc3_1], N0, rfl⟩
theorem d6_0 : decode method_4_code 0 = .ok (.iload_n 0, 1) := by decide +kernel
theorem d6_1 : decode method_4_code 1 = .ok (.iconst 1, 1) := by decide +kernel
theorem d6_2 : decode method_4_code 2 = .ok (.if_icmp .lt 13, 3) := by decide +kernel
theorem d6_5 : decode method_4_code 5 = .ok (.iload_n 0, 1) := by decide +kernel
theorem d6_6 : decode method_4_code 6 = .ok (.bipush 8, 2) := by decide +kernel
theorem d6_8 : decode method_4_code 8 = .ok (.if_icmp .gt 7, 3) := by decide +kernel
theorem d6_11 : decode method_4_code 11 = .ok (.iconst 1, 1) := by decide +kernel
theorem d6_12 : decode method_4_code 12 = .ok (.goto 4, 3) := by decide +kernel
theorem d6_15 : decode method_4_code 15 = .ok (.iconst 0, 1) := by decide +kernel
theorem d6_16 : decode method_4_code 16 = .ok (.ireturn, 1) := by decide +kernel
theorem pn_rm6 : plainName "com/example/quorumline/quorumline/server/RatesAnyPinLaw" = true := by first | (simp [plainName, overriddenIn]; done) | decide +kernel
theorem ef_rm6 (m : MethodId) (x0 : Int32) : entryFrame m #[(.int x0)] 1 = mkF m 0 #[.val (.int x0)] [] := by first | (simp [entryFrame, mkF, argsToLocals, Value.category]; done) | rfl
def Q6 (Z : State) (p1 : Int32) (h0 : Heap) (n0 : Nat) (v : Option Value) (h : Heap) (L : List Loc) : Prop := ∃ r : Int32, v = some (.int r) ∧ Fr n0 L ∧ h = h0 ∧ r = own_pos p1
set_option maxRecDepth 65536 in
set_option maxHeartbeats 40000000 in
theorem rm6 (l : Launch) (Z : State) (a0 : Array Value) (hw : ∀ d ∈ tables_1, d.before a0 Z = true) (ws : List Jvm.Cond) (p1 : Int32) (h0 : Heap) (n0 : Nat) (Z0 : n0 ≤ h0.size) :
    MetFree l (⟨"com/example/quorumline/quorumline/server/RatesAnyPinLaw", "positive", "(I)Z"⟩ : MethodName) (head1 (Jvm.Cond.code (⟨"com/example/quorumline/quorumline/server/RatesAnyPinLaw", "positive", "(I)Z"⟩ : MethodName) method_4_code 1 (some .boolean) :: ws) ({ frames := 0, cells := 0, slots := 0, locals := 0 } : Room)) (fun a U => a = #[(.int p1)] ∧ Z.Warmed39 U.vm ∧ U.heap = h0) (fun _ _ _ _ _ => True) (fun _ U o U' => ∃ v L, o = .returned v ∧ Q6 Z p1 h0 n0 v U'.heap L ∧ FrameEnd U o U' L ({ frames := 0, cells := 0, slots := 0, locals := 0 } : Room).cells ({ frames := 0, cells := 0, slots := 0, locals := 0 } : Room).slots) := by
  refine MetFree.of_bodySF (plainFor_of_name pn_rm6) hisR ?_
  intro p e s m args below meth c s₁ Bd hml0 hP hK
  obtain ⟨rfl, hZ, hh⟩ := hP
  have hx := Bd.exec
  have hby := Bd.bytes
  have hml : c.maxLocals = 1 := hml0
  have hown : s.vm.findClass "com/example/quorumline/quorumline/server/RatesAnyPinLaw" = some m.cls := findClass_of_methodNamed Bd.named
  have hnm := (name_of_methodNamed Bd.named Bd.method).1
  have X0 : Stand p l e ({ frames := 0, cells := 0, slots := 0, locals := 0 } : Room) s m #[(.int p1)] below meth c s₁ [] 0 0 := Stand.of_body Bd
  have e0 : s₁.heap = h0 := by rw [← hh, Bd.state]; rfl
  have N0 := Fr.nil n0
  have pre0 : ∀ t, Steps p.tables e below (s₁.setTop (mkF m 0 #[.val (.int p1)] [])) t → Steps p.tables e below (s₁.setTop (entryFrame m #[(.int p1)] 1)) t := fun t k => castTop (ef_rm6 m p1) k
  show own_Fin p e below _ _
  refine own_go pre0 ?_
  refine own_go (B := s₁.setTop (mkF m 2 #[.val (.int p1)] [(.int (1 : Int32)), (.int p1)])) (fun t k => ?_) ?_
  · show Steps p.tables e below (s₁.setTop (mkF m 0 #[.val (.int p1)] [])) t
    refine XS.iloadN X0.here hx rfl (hb hby d6_0) rfl ?_
    show Steps p.tables e below (s₁.setTop (mkF m 1 #[.val (.int p1)] [(.int p1)])) t
    refine XS.iconst X0.here hx rfl (hb hby d6_1) ?_
    exact k
  by_cases hc2_1 : p1 < (1 : Int32)
  · refine own_go (B := s₁.setTop (mkF m 15 #[.val (.int p1)] [])) (fun t k => ?_) ?_
    · show Steps p.tables e below (s₁.setTop (mkF m 2 #[.val (.int p1)] [(.int (1 : Int32)), (.int p1)])) t
      refine XS.icmpYes X0.here hx rfl (pc0 := 2) (pc' := 15) rfl (hb hby d6_2) rfl (tlt hc2_1).1 (by decide) (by decide) ?_
      exact k
    refine own_go (B := s₁.setTop (mkF m 16 #[.val (.int p1)] [(.int (0 : Int32))])) (fun t k => ?_) ?_
    · show Steps p.tables e below (s₁.setTop (mkF m 15 #[.val (.int p1)] [])) t
      refine XS.iconst X0.here hx rfl (hb hby d6_15) ?_
      exact k
    obtain ⟨fs, hr, hrun, hended, hW, hsame⟩ := X0.leave (v := some (.int (0 : Int32))) (fun h => by rw [Bd.returns] at h; cases h)
    refine ⟨_, _, ?_, hrun, hended, _, _, rfl, ?_, ⟨_, rfl⟩, hW, hsame.mono (by decide) (by decide)⟩
    · show Steps p.tables e below (s₁.setTop (mkF m 16 #[.val (.int p1)] [(.int (0 : Int32))])) _
      exact retN X0 hx (t := .boolean) Bd.returns (by simp) (hb hby d6_16) hr
    · show Q6 Z p1 h0 n0 _ s₁.heap _
      rw [e0]
      exact ⟨_, rfl, N0, rfl, by rw [own_pos, if_pos hc2_1]⟩
  · refine own_go (B := s₁.setTop (mkF m 5 #[.val (.int p1)] [])) (fun t k => ?_) ?_
    · show Steps p.tables e below (s₁.setTop (mkF m 2 #[.val (.int p1)] [(.int (1 : Int32)), (.int p1)])) t
      refine XS.icmpNo X0.here hx rfl (hb hby d6_2) rfl (flt hc2_1).1 ?_
      exact k
    refine own_go (B := s₁.setTop (mkF m 8 #[.val (.int p1)] [(.int (8 : Int32)), (.int p1)])) (fun t k => ?_) ?_
    · show Steps p.tables e below (s₁.setTop (mkF m 5 #[.val (.int p1)] [])) t
      refine XS.iloadN X0.here hx rfl (hb hby d6_5) rfl ?_
      show Steps p.tables e below (s₁.setTop (mkF m 6 #[.val (.int p1)] [(.int p1)])) t
      refine XS.bipush X0.here hx rfl (hb hby d6_6) ?_
      exact k
    by_cases hc8_2 : (8 : Int32) < p1
    · refine own_go (B := s₁.setTop (mkF m 15 #[.val (.int p1)] [])) (fun t k => ?_) ?_
      · show Steps p.tables e below (s₁.setTop (mkF m 8 #[.val (.int p1)] [(.int (8 : Int32)), (.int p1)])) t
        refine XS.icmpYes X0.here hx rfl (pc0 := 8) (pc' := 15) rfl (hb hby d6_8) rfl (tlt hc8_2).2.2.1 (by decide) (by decide) ?_
        exact k
      refine own_go (B := s₁.setTop (mkF m 16 #[.val (.int p1)] [(.int (0 : Int32))])) (fun t k => ?_) ?_
      · show Steps p.tables e below (s₁.setTop (mkF m 15 #[.val (.int p1)] [])) t
        refine XS.iconst X0.here hx rfl (hb hby d6_15) ?_
        exact k
      obtain ⟨fs, hr, hrun, hended, hW, hsame⟩ := X0.leave (v := some (.int (0 : Int32))) (fun h => by rw [Bd.returns] at h; cases h)
      refine ⟨_, _, ?_, hrun, hended, _, _, rfl, ?_, ⟨_, rfl⟩, hW, hsame.mono (by decide) (by decide)⟩
      · show Steps p.tables e below (s₁.setTop (mkF m 16 #[.val (.int p1)] [(.int (0 : Int32))])) _
        exact retN X0 hx (t := .boolean) Bd.returns (by simp) (hb hby d6_16) hr
      · show Q6 Z p1 h0 n0 _ s₁.heap _
        rw [e0]
        exact ⟨_, rfl, N0, rfl, by rw [own_pos, if_neg hc2_1, if_pos hc8_2]⟩
    · refine own_go (B := s₁.setTop (mkF m 11 #[.val (.int p1)] [])) (fun t k => ?_) ?_
      · show Steps p.tables e below (s₁.setTop (mkF m 8 #[.val (.int p1)] [(.int (8 : Int32)), (.int p1)])) t
        refine XS.icmpNo X0.here hx rfl (hb hby d6_8) rfl (flt hc8_2).2.2.1 ?_
        exact k
      refine own_go (B := s₁.setTop (mkF m 16 #[.val (.int p1)] [(.int (1 : Int32))])) (fun t k => ?_) ?_
      · show Steps p.tables e below (s₁.setTop (mkF m 11 #[.val (.int p1)] [])) t
        refine XS.iconst X0.here hx rfl (hb hby d6_11) ?_
        show Steps p.tables e below (s₁.setTop (mkF m 12 #[.val (.int p1)] [(.int (1 : Int32))])) t
        refine XS.goto X0.here hx rfl (pc0 := 12) (pc' := 16) rfl (hb hby d6_12) (by decide) (by decide) ?_
        exact k
      obtain ⟨fs, hr, hrun, hended, hW, hsame⟩ := X0.leave (v := some (.int (1 : Int32))) (fun h => by rw [Bd.returns] at h; cases h)
      refine ⟨_, _, ?_, hrun, hended, _, _, rfl, ?_, ⟨_, rfl⟩, hW, hsame.mono (by decide) (by decide)⟩
      · show Steps p.tables e below (s₁.setTop (mkF m 16 #[.val (.int p1)] [(.int (1 : Int32))])) _
        exact retN X0 hx (t := .boolean) Bd.returns (by simp) (hb hby d6_16) hr
      · show Q6 Z p1 h0 n0 _ s₁.heap _
        rw [e0]
        exact ⟨_, rfl, N0, rfl, by rw [own_pos, if_neg hc2_1, if_neg hc8_2]⟩
theorem d4_0 : decode jdk_30_method_1_code 0 = .ok (.aload_n 0, 1) := by decide +kernel
theorem d4_1 : decode jdk_30_method_1_code 1 = .ok (.invokespecial 1, 3) := by decide +kernel
theorem d4_4 : decode jdk_30_method_1_code 4 = .ok (.return_, 1) := by decide +kernel
theorem pn_rm4 : plainName "java/lang/Record" = true := by first | (simp [plainName, overriddenIn]; done) | decide +kernel
theorem ef_rm4 (m : MethodId) (x0 : Addr) : entryFrame m #[(.ref x0)] 1 = mkF m 0 #[.val (.ref x0)] [] := by first | (simp [entryFrame, mkF, argsToLocals, Value.category]; done) | rfl
def Q4 (Z : State) (a1 : Addr) (h0 : Heap) (n0 : Nat) (v : Option Value) (h : Heap) (L : List Loc) : Prop := v = none ∧ Fr n0 L ∧ h = h0
set_option maxRecDepth 65536 in
set_option maxHeartbeats 40000000 in
theorem rm4 (l : Launch) (Z : State) (a0 : Array Value) (hw : ∀ d ∈ tables_1, d.before a0 Z = true) (ws : List Jvm.Cond) (a1 : Addr) (h0 : Heap) (n0 : Nat) (Z0 : n0 ≤ h0.size) :
    MetFree l (⟨"java/lang/Record", "<init>", "()V"⟩ : MethodName) (head1 (Jvm.Cond.code (⟨"java/lang/Record", "<init>", "()V"⟩ : MethodName) jdk_30_method_1_code 1 none :: ws) ({ frames := 1, cells := 0, slots := 0, locals := 12 } : Room)) (fun a U => a = #[(.ref a1)] ∧ Z.Warmed39 U.vm ∧ U.heap = h0) (fun _ _ _ _ _ => True) (fun _ U o U' => ∃ v L, o = .returned v ∧ Q4 Z a1 h0 n0 v U'.heap L ∧ FrameEnd U o U' L ({ frames := 1, cells := 0, slots := 0, locals := 12 } : Room).cells ({ frames := 1, cells := 0, slots := 0, locals := 12 } : Room).slots) := by
  refine MetFree.of_bodySF (plainFor_of_name pn_rm4) hisR ?_
  intro p e s m args below meth c s₁ Bd hml0 hP hK
  obtain ⟨rfl, hZ, hh⟩ := hP
  have hx := Bd.exec
  have hby := Bd.bytes
  have hml : c.maxLocals = 1 := hml0
  have hown : s.vm.findClass "java/lang/Record" = some m.cls := findClass_of_methodNamed Bd.named
  have hnm := (name_of_methodNamed Bd.named Bd.method).1
  have X0 : Stand p l e ({ frames := 1, cells := 0, slots := 0, locals := 12 } : Room) s m #[(.ref a1)] below meth c s₁ [] 0 0 := Stand.of_body Bd
  have e0 : s₁.heap = h0 := by rw [← hh, Bd.state]; rfl
  have N0 := Fr.nil n0
  have pre0 : ∀ t, Steps p.tables e below (s₁.setTop (mkF m 0 #[.val (.ref a1)] [])) t → Steps p.tables e below (s₁.setTop (entryFrame m #[(.ref a1)] 1)) t := fun t k => castTop (ef_rm4 m a1) k
  show own_Fin p e below _ _
  refine own_go pre0 ?_
  refine own_go (B := s₁.setTop (mkF m 1 #[.val (.ref a1)] [(.ref a1)])) (fun t k => ?_) ?_
  · show Steps p.tables e below (s₁.setTop (mkF m 0 #[.val (.ref a1)] [])) t
    refine XS.aloadN X0.here hx rfl (hb hby d4_0) rfl rfl ?_
    exact k
  obtain ⟨T1, X1, e1, st1⟩ := initO X0 hx hZ hown (hw _ (List.mem_of_getElem? (i := 20) rfl)) (hw _ (List.mem_of_getElem? (i := 21) rfl)) (hw _ (List.mem_of_getElem? (i := 22) rfl)) e0 (g := (mkF m 1 #[.val (.ref a1)] [(.ref a1)])) rfl (by rw [hml]; rfl) rfl (hb hby d4_1) (by decide) (W := 0) (by show 2 * 0 + _ ≤ _; exact Nat.le_of_eq rfl) (by decide)
  refine own_go (fun t k => st1 t k) ?_
  obtain ⟨fs, hr, hrun, hended, hW, hsame⟩ := X1.leave (v := none) (fun _ => rfl)
  refine ⟨_, _, ?_, hrun, hended, _, _, rfl, ?_, ⟨_, rfl⟩, hW, hsame.mono (by decide) (by decide)⟩
  · show Steps p.tables e below (T1.setTop (mkF m 4 #[.val (.ref a1)] [])) _
    exact X1.returnOut hx Bd.returns (hb hby d4_4) hr
  · show Q4 Z a1 h0 n0 _ T1.heap _
    rw [e1]
    exact ⟨rfl, N0, rfl⟩
theorem d3_0 : decode prog_132_method_1_code 0 = .ok (.aload_n 0, 1) := by decide +kernel
theorem d3_1 : decode prog_132_method_1_code 1 = .ok (.invokespecial 3, 3) := by decide +kernel
theorem d3_4 : decode prog_132_method_1_code 4 = .ok (.iconst 3, 1) := by decide +kernel
theorem d3_5 : decode prog_132_method_1_code 5 = .ok (.newarray .double, 2) := by decide +kernel
theorem d3_7 : decode prog_132_method_1_code 7 = .ok (.dup, 1) := by decide +kernel
theorem d3_8 : decode prog_132_method_1_code 8 = .ok (.iconst 0, 1) := by decide +kernel
theorem d3_9 : decode prog_132_method_1_code 9 = .ok (.dload_n 1, 1) := by decide +kernel
theorem d3_10 : decode prog_132_method_1_code 10 = .ok (.dastore, 1) := by decide +kernel
theorem d3_11 : decode prog_132_method_1_code 11 = .ok (.dup, 1) := by decide +kernel
theorem d3_12 : decode prog_132_method_1_code 12 = .ok (.iconst 1, 1) := by decide +kernel
theorem d3_13 : decode prog_132_method_1_code 13 = .ok (.dload_n 3, 1) := by decide +kernel
theorem d3_14 : decode prog_132_method_1_code 14 = .ok (.dastore, 1) := by decide +kernel
theorem d3_15 : decode prog_132_method_1_code 15 = .ok (.dup, 1) := by decide +kernel
theorem d3_16 : decode prog_132_method_1_code 16 = .ok (.iconst 2, 1) := by decide +kernel
theorem d3_17 : decode prog_132_method_1_code 17 = .ok (.dload 5, 2) := by decide +kernel
theorem d3_19 : decode prog_132_method_1_code 19 = .ok (.dastore, 1) := by decide +kernel
theorem d3_20 : decode prog_132_method_1_code 20 = .ok (.astore 7, 2) := by decide +kernel
theorem d3_22 : decode prog_132_method_1_code 22 = .ok (.aload 7, 2) := by decide +kernel
theorem d3_24 : decode prog_132_method_1_code 24 = .ok (.arraylength, 1) := by decide +kernel
theorem d3_25 : decode prog_132_method_1_code 25 = .ok (.istore 8, 2) := by decide +kernel
theorem d3_27 : decode prog_132_method_1_code 27 = .ok (.iconst 0, 1) := by decide +kernel
theorem d3_28 : decode prog_132_method_1_code 28 = .ok (.istore 9, 2) := by decide +kernel
theorem d3_30 : decode prog_132_method_1_code 30 = .ok (.iload 9, 2) := by decide +kernel
theorem d3_32 : decode prog_132_method_1_code 32 = .ok (.iload 8, 2) := by decide +kernel
theorem d3_34 : decode prog_132_method_1_code 34 = .ok (.if_icmp .ge 47, 3) := by decide +kernel
theorem d3_37 : decode prog_132_method_1_code 37 = .ok (.aload 7, 2) := by decide +kernel
theorem d3_39 : decode prog_132_method_1_code 39 = .ok (.iload 9, 2) := by decide +kernel
theorem d3_41 : decode prog_132_method_1_code 41 = .ok (.daload, 1) := by decide +kernel
theorem d3_42 : decode prog_132_method_1_code 42 = .ok (.dstore 10, 2) := by decide +kernel
theorem d3_44 : decode prog_132_method_1_code 44 = .ok (.dload 10, 2) := by decide +kernel
theorem d3_46 : decode prog_132_method_1_code 46 = .ok (.dconst 0, 1) := by decide +kernel
theorem d3_47 : decode prog_132_method_1_code 47 = .ok (.dcmp .l, 1) := by decide +kernel
theorem d3_48 : decode prog_132_method_1_code 48 = .ok (.ifCond .lt 12, 3) := by decide +kernel
theorem d3_51 : decode prog_132_method_1_code 51 = .ok (.dload 10, 2) := by decide +kernel
theorem d3_53 : decode prog_132_method_1_code 53 = .ok (.ldc2_w 9, 3) := by decide +kernel
theorem d3_56 : decode prog_132_method_1_code 56 = .ok (.dcmp .g, 1) := by decide +kernel
theorem d3_57 : decode prog_132_method_1_code 57 = .ok (.ifCond .le 18, 3) := by decide +kernel
theorem d3_75 : decode prog_132_method_1_code 75 = .ok (.iinc 9 1, 3) := by decide +kernel
theorem d3_78 : decode prog_132_method_1_code 78 = .ok (.goto (-48), 3) := by decide +kernel
theorem d3_81 : decode prog_132_method_1_code 81 = .ok (.aload_n 0, 1) := by decide +kernel
theorem d3_82 : decode prog_132_method_1_code 82 = .ok (.dload_n 1, 1) := by decide +kernel
theorem d3_83 : decode prog_132_method_1_code 83 = .ok (.putfield 20, 3) := by decide +kernel
theorem d3_86 : decode prog_132_method_1_code 86 = .ok (.aload_n 0, 1) := by decide +kernel
theorem d3_87 : decode prog_132_method_1_code 87 = .ok (.dload_n 3, 1) := by decide +kernel
theorem d3_88 : decode prog_132_method_1_code 88 = .ok (.putfield 26, 3) := by decide +kernel
theorem d3_91 : decode prog_132_method_1_code 91 = .ok (.aload_n 0, 1) := by decide +kernel
theorem d3_92 : decode prog_132_method_1_code 92 = .ok (.dload 5, 2) := by decide +kernel
theorem d3_94 : decode prog_132_method_1_code 94 = .ok (.putfield 29, 3) := by decide +kernel
theorem d3_97 : decode prog_132_method_1_code 97 = .ok (.return_, 1) := by decide +kernel
theorem pn_rm3 : plainName "com/example/quorumline/quorumline/server/SeededFaults$Rates" = true := by first | (simp [plainName, overriddenIn]; done) | decide +kernel
theorem pd_rm3_0 : parseMethodDescriptor "()V" = some ⟨[], none⟩ := by decide +kernel
theorem ef_rm3 (m : MethodId) (x0 : Addr) (x1 : UInt64) (x2 : UInt64) (x3 : UInt64) : entryFrame m #[(.ref x0), (.double x1), (.double x2), (.double x3)] 12 = mkF m 0 #[.val (.ref x0), .val (.double x1), .second, .val (.double x2), .second, .val (.double x3), .second, .unset, .unset, .unset, .unset, .unset] [] := by first | (simp [entryFrame, mkF, argsToLocals, Value.category]; done) | rfl
def Q3 (Z : State) (a1 : Addr) (d2 : UInt64) (d3 : UInt64) (d4 : UInt64) (u0 : Value) (u1 : Value) (u2 : Value) (h0 : Heap) (n0 : Nat) (v : Option Value) (h : Heap) (L : List Loc) : Prop := v = none ∧ Fr n0 L ∧ Keep h0 h [a1] ∧ Exa Z h a1 "com/example/quorumline/quorumline/server/SeededFaults$Rates" ∧ Fld Z h a1 "com/example/quorumline/quorumline/server/SeededFaults$Rates" "loss" "D" (.double d2) ∧ Fld Z h a1 "com/example/quorumline/quorumline/server/SeededFaults$Rates" "duplicate" "D" (.double d3) ∧ Fld Z h a1 "com/example/quorumline/quorumline/server/SeededFaults$Rates" "reorder" "D" (.double d4)
set_option maxRecDepth 65536 in
set_option maxHeartbeats 40000000 in
theorem rm3 (l : Launch) (Z : State) (a0 : Array Value) (hw : ∀ d ∈ tables_1, d.before a0 Z = true) (ws : List Jvm.Cond) (a1 : Addr) (d2 : UInt64) (d3 : UInt64) (d4 : UInt64) (u0 : Value) (u1 : Value) (u2 : Value) (h0 : Heap) (n0 : Nat) (Z0 : n0 ≤ h0.size) (E_a1 : Exa Z h0 a1 "com/example/quorumline/quorumline/server/SeededFaults$Rates") (F0 : Fld Z h0 a1 "com/example/quorumline/quorumline/server/SeededFaults$Rates" "loss" "D" u0) (F1 : Fld Z h0 a1 "com/example/quorumline/quorumline/server/SeededFaults$Rates" "duplicate" "D" u1) (F2 : Fld Z h0 a1 "com/example/quorumline/quorumline/server/SeededFaults$Rates" "reorder" "D" u2) (g_a1 : n0 ≤ a1) (c1 : own_good d2) (c2 : own_good d3) (c3 : own_good d4) :
    MetFree l (⟨"com/example/quorumline/quorumline/server/SeededFaults$Rates", "<init>", "(DDD)V"⟩ : MethodName) (head1 (Jvm.Cond.code (⟨"com/example/quorumline/quorumline/server/SeededFaults$Rates", "<init>", "(DDD)V"⟩ : MethodName) prog_132_method_1_code 12 none :: ws) ({ frames := 2, cells := 1, slots := 3, locals := 24 } : Room)) (fun a U => a = #[(.ref a1), (.double d2), (.double d3), (.double d4)] ∧ Z.Warmed39 U.vm ∧ U.heap = h0) (fun _ _ _ _ _ => True) (fun _ U o U' => ∃ v L, o = .returned v ∧ Q3 Z a1 d2 d3 d4 u0 u1 u2 h0 n0 v U'.heap L ∧ FrameEnd U o U' L ({ frames := 2, cells := 1, slots := 3, locals := 24 } : Room).cells ({ frames := 2, cells := 1, slots := 3, locals := 24 } : Room).slots) := by
  refine MetFree.of_bodySF (plainFor_of_name pn_rm3) hisR ?_
  intro p e s m args below meth c s₁ Bd hml0 hP hK
  obtain ⟨rfl, hZ, hh⟩ := hP
  have hx := Bd.exec
  have hby := Bd.bytes
  have hml : c.maxLocals = 12 := hml0
  have hown : s.vm.findClass "com/example/quorumline/quorumline/server/SeededFaults$Rates" = some m.cls := findClass_of_methodNamed Bd.named
  have hnm := (name_of_methodNamed Bd.named Bd.method).1
  have X0 : Stand p l e ({ frames := 2, cells := 1, slots := 3, locals := 24 } : Room) s m #[(.ref a1), (.double d2), (.double d3), (.double d4)] below meth c s₁ [] 0 0 := Stand.of_body Bd
  have e0 : s₁.heap = h0 := by rw [← hh, Bd.state]; rfl
  have N0 := Fr.nil n0
  have pre0 : ∀ t, Steps p.tables e below (s₁.setTop (mkF m 0 #[.val (.ref a1), .val (.double d2), .second, .val (.double d3), .second, .val (.double d4), .second, .unset, .unset, .unset, .unset, .unset] [])) t → Steps p.tables e below (s₁.setTop (entryFrame m #[(.ref a1), (.double d2), (.double d3), (.double d4)] 12)) t := fun t k => castTop (ef_rm3 m a1 d2 d3 d4) k
  show own_Fin p e below _ _
  refine own_go pre0 ?_
  refine own_go (B := s₁.setTop (mkF m 1 #[.val (.ref a1), .val (.double d2), .second, .val (.double d3), .second, .val (.double d4), .second, .unset, .unset, .unset, .unset, .unset] [(.ref a1)])) (fun t k => ?_) ?_
  · show Steps p.tables e below (s₁.setTop (mkF m 0 #[.val (.ref a1), .val (.double d2), .second, .val (.double d3), .second, .val (.double d4), .second, .unset, .unset, .unset, .unset, .unset] [])) t
    refine XS.aloadN X0.here hx rfl (hb hby d3_0) rfl rfl ?_
    exact k
  obtain ⟨_, _, ⟨T1, L1, k1, n1⟩, -, X1, ⟨Lc1, hQ1, l1, y1, z1⟩, st1⟩ := X0.specialBack hx (y := (⟨"java/lang/Record", "<init>", "()V"⟩ : MethodName)) rfl hown (mvT hZ (hw _ (List.mem_of_getElem? (i := 15) rfl))) (mvT hZ (hw _ (List.mem_of_getElem? (i := 16) rfl))) (mvT hZ (hw _ (List.mem_of_getElem? (i := 19) rfl))) (by decide) (backOf (W := 0) (rm4 l Z a0 hw [] a1 h0 n0 Z0) hZ (hw _ (List.mem_of_getElem? (i := 19) rfl)) (hw _ (List.mem_of_getElem? (i := 18) rfl)) (by decide) (by decide)) (g := (mkF m 1 #[.val (.ref a1), .val (.double d2), .second, .val (.double d3), .second, .val (.double d4), .second, .unset, .unset, .unset, .unset, .unset] [(.ref a1)])) rfl (by rw [hml]; rfl) (Steps.refl _) (a := a1) (argsL := []) (rest := []) (lenOf pd_rm3_0 rfl) rfl (by show 2 * 0 + _ ≤ _; exact Nat.le_of_eq rfl) (hb hby d3_1) (fun _ _ => ⟨rfl, e0, (by decide : 0 + 0 ≤ _), (by decide : 0 + 0 ≤ _)⟩)
  dsimp only [Pt.U, Pt.locs, Pt.cells, Pt.slots] at X1 l1 y1 z1 st1 hQ1
  subst l1 y1 z1
  obtain ⟨rfl, N1q, hh1⟩ := hQ1
  have N1 := Fr.app N0 N1q
  refine own_go (fun t k => st1.trans k) ?_
  refine own_go (B := T1.setTop (mkF m 5 #[.val (.ref a1), .val (.double d2), .second, .val (.double d3), .second, .val (.double d4), .second, .unset, .unset, .unset, .unset, .unset] [(.int (3 : Int32))])) (fun t k => ?_) ?_
  · show Steps p.tables e below (T1.setTop (mkF m 4 #[.val (.ref a1), .val (.double d2), .second, .val (.double d3), .second, .val (.double d4), .second, .unset, .unset, .unset, .unset, .unset] [])) t
    refine XS.iconst X1.here hx rfl (hb hby d3_4) ?_
    exact k
  obtain ⟨T2, h2, k2, X2, e2, E2, A2, st2⟩ := newP X1 hx hZ (hw _ (List.mem_of_getElem? (i := 23) rfl)) hh1 (g := (mkF m 5 #[.val (.ref a1), .val (.double d2), .second, .val (.double d3), .second, .val (.double d4), .second, .unset, .unset, .unset, .unset, .unset] [(.int (3 : Int32))])) rfl (hb hby d3_5) rfl (by decide) (cap := 3) (by decide) (by decide) (by decide) (by decide)
  obtain ⟨b2, g2⟩ : ∃ z, z = h0.size := ⟨_, rfl⟩
  rw [← g2] at A2 st2
  refine own_go (fun t k => st2 t k) ?_
  have g_b2 : n0 ≤ b2 := Nat.le_trans Z0 (Nat.le_of_eq g2.symm)
  have sz_b2 : h0.size ≤ b2 := Nat.le_trans (Keep.refl h0 [a1]).1 (Nat.le_of_eq g2.symm)
  have ne2_a1 : a1 ≠ b2 := Nat.ne_of_lt (Nat.lt_of_lt_of_le E_a1.lt (Nat.le_of_eq g2.symm))
  have K2 : Keep h0 h2 [a1] := (Keep.refl h0 [a1]).ext E2
  have f2_0 := E_a1.ext E2
  have f2_1 := F0.ext E2
  have f2_2 := F1.ext E2
  have f2_3 := F2.ext E2
  have V2 : own_Ag Value.double Z h2 b2 .double (3 : Int32) (fun _ => (0 : UInt64)) := own_Ag.new (Arv.new A2 (by decide))
  refine own_go (B := T2.setTop (mkF m 10 #[.val (.ref a1), .val (.double d2), .second, .val (.double d3), .second, .val (.double d4), .second, .unset, .unset, .unset, .unset, .unset] [(.double d2), (.int (0 : Int32)), (.ref b2), (.ref b2)])) (fun t k => ?_) ?_
  · show Steps p.tables e below (T2.setTop (mkF m 7 #[.val (.ref a1), .val (.double d2), .second, .val (.double d3), .second, .val (.double d4), .second, .unset, .unset, .unset, .unset, .unset] [(.ref b2)])) t
    refine XS.dup X2.here hx rfl (hb hby d3_7) rfl rfl ?_
    show Steps p.tables e below (T2.setTop (mkF m 8 #[.val (.ref a1), .val (.double d2), .second, .val (.double d3), .second, .val (.double d4), .second, .unset, .unset, .unset, .unset, .unset] [(.ref b2), (.ref b2)])) t
    refine XS.iconst X2.here hx rfl (hb hby d3_8) ?_
    show Steps p.tables e below (T2.setTop (mkF m 9 #[.val (.ref a1), .val (.double d2), .second, .val (.double d3), .second, .val (.double d4), .second, .unset, .unset, .unset, .unset, .unset] [(.int (0 : Int32)), (.ref b2), (.ref b2)])) t
    refine XS.dloadN X2.here hx rfl (hb hby d3_9) rfl ?_
    exact k
  obtain ⟨cl3, Ar3, hin3, -, -, -⟩ := V2.get (j := (0 : Int32)) (by decide) (by decide)
  obtain ⟨T3, h3, X3, e3, W3, st3⟩ := stD X2 hx hZ e2 Ar3 (j := (0 : Int32)) hin3 (g := (mkF m 10 #[.val (.ref a1), .val (.double d2), .second, .val (.double d3), .second, .val (.double d4), .second, .unset, .unset, .unset, .unset, .unset] [(.double d2), (.int (0 : Int32)), (.ref b2), (.ref b2)])) rfl rfl (hb hby d3_10)
  refine own_go (fun t k => st3 t k) ?_
  have N3 := Fr.snoc X3 N1 g_b2
  have K3 : Keep h0 h3 [a1] := K2.wr W3 (Or.inr sz_b2)
  have f3_0 := f2_0.wr W3
  have f3_1 := f2_1.other W3 (Or.inl ne2_a1)
  have f3_2 := f2_2.other W3 (Or.inl ne2_a1)
  have f3_3 := f2_3.other W3 (Or.inl ne2_a1)
  have f3_4 := V2.setk W3 0 (by decide)
  refine own_go (B := T3.setTop (mkF m 14 #[.val (.ref a1), .val (.double d2), .second, .val (.double d3), .second, .val (.double d4), .second, .unset, .unset, .unset, .unset, .unset] [(.double d3), (.int (1 : Int32)), (.ref b2), (.ref b2)])) (fun t k => ?_) ?_
  · show Steps p.tables e below (T3.setTop (mkF m 11 #[.val (.ref a1), .val (.double d2), .second, .val (.double d3), .second, .val (.double d4), .second, .unset, .unset, .unset, .unset, .unset] [(.ref b2)])) t
    refine XS.dup X3.here hx rfl (hb hby d3_11) rfl rfl ?_
    show Steps p.tables e below (T3.setTop (mkF m 12 #[.val (.ref a1), .val (.double d2), .second, .val (.double d3), .second, .val (.double d4), .second, .unset, .unset, .unset, .unset, .unset] [(.ref b2), (.ref b2)])) t
    refine XS.iconst X3.here hx rfl (hb hby d3_12) ?_
    show Steps p.tables e below (T3.setTop (mkF m 13 #[.val (.ref a1), .val (.double d2), .second, .val (.double d3), .second, .val (.double d4), .second, .unset, .unset, .unset, .unset, .unset] [(.int (1 : Int32)), (.ref b2), (.ref b2)])) t
    refine XS.dloadN X3.here hx rfl (hb hby d3_13) rfl ?_
    exact k
  obtain ⟨cl4, Ar4, hin4, -, -, -⟩ := f3_4.get (j := (1 : Int32)) (by decide) (by decide)
  obtain ⟨T4, h4, X4, e4, W4, st4⟩ := stD X3 hx hZ e3 Ar4 (j := (1 : Int32)) hin4 (g := (mkF m 14 #[.val (.ref a1), .val (.double d2), .second, .val (.double d3), .second, .val (.double d4), .second, .unset, .unset, .unset, .unset, .unset] [(.double d3), (.int (1 : Int32)), (.ref b2), (.ref b2)])) rfl rfl (hb hby d3_14)
  refine own_go (fun t k => st4 t k) ?_
  have N4 := Fr.snoc X4 N3 g_b2
  have K4 : Keep h0 h4 [a1] := K3.wr W4 (Or.inr sz_b2)
  have f4_0 := f3_0.wr W4
  have f4_1 := f3_1.other W4 (Or.inl ne2_a1)
  have f4_2 := f3_2.other W4 (Or.inl ne2_a1)
  have f4_3 := f3_3.other W4 (Or.inl ne2_a1)
  have f4_4 := f3_4.setk W4 1 (by decide)
  refine own_go (B := T4.setTop (mkF m 19 #[.val (.ref a1), .val (.double d2), .second, .val (.double d3), .second, .val (.double d4), .second, .unset, .unset, .unset, .unset, .unset] [(.double d4), (.int (2 : Int32)), (.ref b2), (.ref b2)])) (fun t k => ?_) ?_
  · show Steps p.tables e below (T4.setTop (mkF m 15 #[.val (.ref a1), .val (.double d2), .second, .val (.double d3), .second, .val (.double d4), .second, .unset, .unset, .unset, .unset, .unset] [(.ref b2)])) t
    refine XS.dup X4.here hx rfl (hb hby d3_15) rfl rfl ?_
    show Steps p.tables e below (T4.setTop (mkF m 16 #[.val (.ref a1), .val (.double d2), .second, .val (.double d3), .second, .val (.double d4), .second, .unset, .unset, .unset, .unset, .unset] [(.ref b2), (.ref b2)])) t
    refine XS.iconst X4.here hx rfl (hb hby d3_16) ?_
    show Steps p.tables e below (T4.setTop (mkF m 17 #[.val (.ref a1), .val (.double d2), .second, .val (.double d3), .second, .val (.double d4), .second, .unset, .unset, .unset, .unset, .unset] [(.int (2 : Int32)), (.ref b2), (.ref b2)])) t
    refine XS.dload X4.here hx rfl (hb hby d3_17) rfl ?_
    exact k
  obtain ⟨cl5, Ar5, hin5, -, -, -⟩ := f4_4.get (j := (2 : Int32)) (by decide) (by decide)
  obtain ⟨T5, h5, X5, e5, W5, st5⟩ := stD X4 hx hZ e4 Ar5 (j := (2 : Int32)) hin5 (g := (mkF m 19 #[.val (.ref a1), .val (.double d2), .second, .val (.double d3), .second, .val (.double d4), .second, .unset, .unset, .unset, .unset, .unset] [(.double d4), (.int (2 : Int32)), (.ref b2), (.ref b2)])) rfl rfl (hb hby d3_19)
  refine own_go (fun t k => st5 t k) ?_
  have N5 := Fr.snoc X5 N4 g_b2
  have K5 : Keep h0 h5 [a1] := K4.wr W5 (Or.inr sz_b2)
  have f5_0 := f4_0.wr W5
  have f5_1 := f4_1.other W5 (Or.inl ne2_a1)
  have f5_2 := f4_2.other W5 (Or.inl ne2_a1)
  have f5_3 := f4_3.other W5 (Or.inl ne2_a1)
  have f5_4 := f4_4.setk W5 2 (by decide)
  refine own_go (B := T5.setTop (mkF m 24 #[.val (.ref a1), .val (.double d2), .second, .val (.double d3), .second, .val (.double d4), .second, .val (.ref b2), .unset, .unset, .unset, .unset] [(.ref b2)])) (fun t k => ?_) ?_
  · show Steps p.tables e below (T5.setTop (mkF m 20 #[.val (.ref a1), .val (.double d2), .second, .val (.double d3), .second, .val (.double d4), .second, .unset, .unset, .unset, .unset, .unset] [(.ref b2)])) t
    refine XS.astore X5.here hx rfl (hb hby d3_20) rfl rfl (l' := #[.val (.ref a1), .val (.double d2), .second, .val (.double d3), .second, .val (.double d4), .second, .val (.ref b2), .unset, .unset, .unset, .unset]) rfl ?_
    show Steps p.tables e below (T5.setTop (mkF m 22 #[.val (.ref a1), .val (.double d2), .second, .val (.double d3), .second, .val (.double d4), .second, .val (.ref b2), .unset, .unset, .unset, .unset] [])) t
    refine XS.aload X5.here hx rfl (hb hby d3_22) rfl rfl ?_
    exact k
  obtain ⟨cl6, Ar6, S6, q6⟩ := f5_4.len
  refine own_go (X5.arraylength hx (by rw [e5]; exact Ar6.1) (State.isArrayOf_alike hZ.alike Ar6.2.1) (g := (mkF m 24 #[.val (.ref a1), .val (.double d2), .second, .val (.double d3), .second, .val (.double d4), .second, .val (.ref b2), .unset, .unset, .unset, .unset] [(.ref b2)])) rfl rfl (hb hby d3_24)) ?_
  rw [len_of S6 q6]
  refine own_go (B := T5.setTop (mkF m 41 #[.val (.ref a1), .val (.double d2), .second, .val (.double d3), .second, .val (.double d4), .second, .val (.ref b2), .val (.int (3 : Int32)), .val (.int (0 : Int32)), .unset, .unset] [(.int (0 : Int32)), (.ref b2)])) (fun t k => ?_) ?_
  · show Steps p.tables e below (T5.setTop (mkF m 25 #[.val (.ref a1), .val (.double d2), .second, .val (.double d3), .second, .val (.double d4), .second, .val (.ref b2), .unset, .unset, .unset, .unset] [(.int (3 : Int32))])) t
    refine XS.istore X5.here hx rfl (hb hby d3_25) rfl (l' := #[.val (.ref a1), .val (.double d2), .second, .val (.double d3), .second, .val (.double d4), .second, .val (.ref b2), .val (.int (3 : Int32)), .unset, .unset, .unset]) rfl ?_
    show Steps p.tables e below (T5.setTop (mkF m 27 #[.val (.ref a1), .val (.double d2), .second, .val (.double d3), .second, .val (.double d4), .second, .val (.ref b2), .val (.int (3 : Int32)), .unset, .unset, .unset] [])) t
    refine XS.iconst X5.here hx rfl (hb hby d3_27) ?_
    show Steps p.tables e below (T5.setTop (mkF m 28 #[.val (.ref a1), .val (.double d2), .second, .val (.double d3), .second, .val (.double d4), .second, .val (.ref b2), .val (.int (3 : Int32)), .unset, .unset, .unset] [(.int (0 : Int32))])) t
    refine XS.istore X5.here hx rfl (hb hby d3_28) rfl (l' := #[.val (.ref a1), .val (.double d2), .second, .val (.double d3), .second, .val (.double d4), .second, .val (.ref b2), .val (.int (3 : Int32)), .val (.int (0 : Int32)), .unset, .unset]) rfl ?_
    show Steps p.tables e below (T5.setTop (mkF m 30 #[.val (.ref a1), .val (.double d2), .second, .val (.double d3), .second, .val (.double d4), .second, .val (.ref b2), .val (.int (3 : Int32)), .val (.int (0 : Int32)), .unset, .unset] [])) t
    refine XS.iload X5.here hx rfl (hb hby d3_30) rfl ?_
    show Steps p.tables e below (T5.setTop (mkF m 32 #[.val (.ref a1), .val (.double d2), .second, .val (.double d3), .second, .val (.double d4), .second, .val (.ref b2), .val (.int (3 : Int32)), .val (.int (0 : Int32)), .unset, .unset] [(.int (0 : Int32))])) t
    refine XS.iload X5.here hx rfl (hb hby d3_32) rfl ?_
    show Steps p.tables e below (T5.setTop (mkF m 34 #[.val (.ref a1), .val (.double d2), .second, .val (.double d3), .second, .val (.double d4), .second, .val (.ref b2), .val (.int (3 : Int32)), .val (.int (0 : Int32)), .unset, .unset] [(.int (3 : Int32)), (.int (0 : Int32))])) t
    refine XS.icmpNo X5.here hx rfl (hb hby d3_34) rfl (tlt (by decide : (0 : Int32) < (3 : Int32))).2.1 ?_
    show Steps p.tables e below (T5.setTop (mkF m 37 #[.val (.ref a1), .val (.double d2), .second, .val (.double d3), .second, .val (.double d4), .second, .val (.ref b2), .val (.int (3 : Int32)), .val (.int (0 : Int32)), .unset, .unset] [])) t
    refine XS.aload X5.here hx rfl (hb hby d3_37) rfl rfl ?_
    show Steps p.tables e below (T5.setTop (mkF m 39 #[.val (.ref a1), .val (.double d2), .second, .val (.double d3), .second, .val (.double d4), .second, .val (.ref b2), .val (.int (3 : Int32)), .val (.int (0 : Int32)), .unset, .unset] [(.ref b2)])) t
    refine XS.iload X5.here hx rfl (hb hby d3_39) rfl ?_
    exact k
  obtain ⟨cl7, Ar7, hin7, hat7, -, -⟩ := f5_4.get (j := (0 : Int32)) (by decide) (by decide)
  have hat7 : cl7.slots[((0 : Int32)).toNatClampNeg]? = some (.double d2) := hat7.trans (by rw [show ((0 : Int32)).toNatClampNeg = 0 from by decide]; rfl)
  refine own_go (X5.daload hx (j := (0 : Int32)) (v := (.double d2)) (by rw [e5]; exact Ar7.1) (State.isArrayOf_alike hZ.alike Ar7.2.1) Ar7.2.2 hin7 hat7 (g := (mkF m 41 #[.val (.ref a1), .val (.double d2), .second, .val (.double d3), .second, .val (.double d4), .second, .val (.ref b2), .val (.int (3 : Int32)), .val (.int (0 : Int32)), .unset, .unset] [(.int (0 : Int32)), (.ref b2)])) rfl rfl (hb hby d3_41)) ?_
  refine own_go (B := T5.setTop (mkF m 41 #[.val (.ref a1), .val (.double d2), .second, .val (.double d3), .second, .val (.double d4), .second, .val (.ref b2), .val (.int (3 : Int32)), .val (.int ((0 : Int32) + (1 : Int32))), .val (.double d2), .second] [(.int ((0 : Int32) + (1 : Int32))), (.ref b2)])) (fun t k => ?_) ?_
  · show Steps p.tables e below (T5.setTop (mkF m 42 #[.val (.ref a1), .val (.double d2), .second, .val (.double d3), .second, .val (.double d4), .second, .val (.ref b2), .val (.int (3 : Int32)), .val (.int (0 : Int32)), .unset, .unset] [(.double d2)])) t
    refine XS.dstore X5.here hx rfl (hb hby d3_42) rfl (l' := #[.val (.ref a1), .val (.double d2), .second, .val (.double d3), .second, .val (.double d4), .second, .val (.ref b2), .val (.int (3 : Int32)), .val (.int (0 : Int32)), .val (.double d2), .second]) rfl ?_
    show Steps p.tables e below (T5.setTop (mkF m 44 #[.val (.ref a1), .val (.double d2), .second, .val (.double d3), .second, .val (.double d4), .second, .val (.ref b2), .val (.int (3 : Int32)), .val (.int (0 : Int32)), .val (.double d2), .second] [])) t
    refine XS.dload X5.here hx rfl (hb hby d3_44) rfl ?_
    show Steps p.tables e below (T5.setTop (mkF m 46 #[.val (.ref a1), .val (.double d2), .second, .val (.double d3), .second, .val (.double d4), .second, .val (.ref b2), .val (.int (3 : Int32)), .val (.int (0 : Int32)), .val (.double d2), .second] [(.double d2)])) t
    refine XS.dconst0 X5.here hx rfl (v := (0 : UInt64)) (hb hby d3_46) (by decide +kernel) ?_
    show Steps p.tables e below (T5.setTop (mkF m 47 #[.val (.ref a1), .val (.double d2), .second, .val (.double d3), .second, .val (.double d4), .second, .val (.ref b2), .val (.int (3 : Int32)), .val (.int (0 : Int32)), .val (.double d2), .second] [(.double (0 : UInt64)), (.double d2)])) t
    refine XS.dcmpS X5.here hx rfl (hb hby d3_47) rfl rfl ?_
    show Steps p.tables e below (T5.setTop (mkF m 48 #[.val (.ref a1), .val (.double d2), .second, .val (.double d3), .second, .val (.double d4), .second, .val (.ref b2), .val (.int (3 : Int32)), .val (.int (0 : Int32)), .val (.double d2), .second] [(.int (cmpValue (FP.dcmp d2 (0 : UInt64)) .l))])) t
    refine XS.ifNo X5.here hx rfl (hb hby d3_48) rfl ((if0 _ _).trans (flt (c1.1 : ¬ ((cmpValue (FP.dcmp d2 (0 : UInt64)) .l) < (0 : Int32)))).1) ?_
    show Steps p.tables e below (T5.setTop (mkF m 51 #[.val (.ref a1), .val (.double d2), .second, .val (.double d3), .second, .val (.double d4), .second, .val (.ref b2), .val (.int (3 : Int32)), .val (.int (0 : Int32)), .val (.double d2), .second] [])) t
    refine XS.dload X5.here hx rfl (hb hby d3_51) rfl ?_
    show Steps p.tables e below (T5.setTop (mkF m 53 #[.val (.ref a1), .val (.double d2), .second, .val (.double d3), .second, .val (.double d4), .second, .val (.ref b2), .val (.int (3 : Int32)), .val (.int (0 : Int32)), .val (.double d2), .second] [(.double d2)])) t
    refine X5.ldc2DoubleC hx hown (mvT hZ (hw _ (List.mem_of_getElem? (i := 24) rfl))) (g := (mkF m 53 #[.val (.ref a1), .val (.double d2), .second, .val (.double d3), .second, .val (.double d4), .second, .val (.ref b2), .val (.int (3 : Int32)), .val (.int (0 : Int32)), .val (.double d2), .second] [(.double d2)])) rfl (hb hby d3_53) _ ?_
    show Steps p.tables e below (T5.setTop (mkF m 56 #[.val (.ref a1), .val (.double d2), .second, .val (.double d3), .second, .val (.double d4), .second, .val (.ref b2), .val (.int (3 : Int32)), .val (.int (0 : Int32)), .val (.double d2), .second] [(.double (4602678819172646912 : UInt64)), (.double d2)])) t
    refine XS.dcmpS X5.here hx rfl (hb hby d3_56) rfl rfl ?_
    show Steps p.tables e below (T5.setTop (mkF m 57 #[.val (.ref a1), .val (.double d2), .second, .val (.double d3), .second, .val (.double d4), .second, .val (.ref b2), .val (.int (3 : Int32)), .val (.int (0 : Int32)), .val (.double d2), .second] [(.int (cmpValue (FP.dcmp d2 (4602678819172646912 : UInt64)) .g))])) t
    refine XS.ifYes X5.here hx rfl (pc0 := 57) (pc' := 75) rfl (hb hby d3_57) rfl ((if0 _ _).trans (flt (c1.2 : ¬ ((0 : Int32) < (cmpValue (FP.dcmp d2 (4602678819172646912 : UInt64)) .g)))).2.2.2) (by decide) (by decide) ?_
    show Steps p.tables e below (T5.setTop (mkF m 75 #[.val (.ref a1), .val (.double d2), .second, .val (.double d3), .second, .val (.double d4), .second, .val (.ref b2), .val (.int (3 : Int32)), .val (.int (0 : Int32)), .val (.double d2), .second] [])) t
    refine XS.iinc X5.here hx rfl (hb hby d3_75) rfl (l' := #[.val (.ref a1), .val (.double d2), .second, .val (.double d3), .second, .val (.double d4), .second, .val (.ref b2), .val (.int (3 : Int32)), .val (.int ((0 : Int32) + (1 : Int32))), .val (.double d2), .second]) rfl ?_
    show Steps p.tables e below (T5.setTop (mkF m 78 #[.val (.ref a1), .val (.double d2), .second, .val (.double d3), .second, .val (.double d4), .second, .val (.ref b2), .val (.int (3 : Int32)), .val (.int ((0 : Int32) + (1 : Int32))), .val (.double d2), .second] [])) t
    refine XS.goto X5.here hx rfl (pc0 := 78) (pc' := 30) rfl (hb hby d3_78) (by decide) (by decide) ?_
    show Steps p.tables e below (T5.setTop (mkF m 30 #[.val (.ref a1), .val (.double d2), .second, .val (.double d3), .second, .val (.double d4), .second, .val (.ref b2), .val (.int (3 : Int32)), .val (.int ((0 : Int32) + (1 : Int32))), .val (.double d2), .second] [])) t
    refine XS.iload X5.here hx rfl (hb hby d3_30) rfl ?_
    show Steps p.tables e below (T5.setTop (mkF m 32 #[.val (.ref a1), .val (.double d2), .second, .val (.double d3), .second, .val (.double d4), .second, .val (.ref b2), .val (.int (3 : Int32)), .val (.int ((0 : Int32) + (1 : Int32))), .val (.double d2), .second] [(.int ((0 : Int32) + (1 : Int32)))])) t
    refine XS.iload X5.here hx rfl (hb hby d3_32) rfl ?_
    show Steps p.tables e below (T5.setTop (mkF m 34 #[.val (.ref a1), .val (.double d2), .second, .val (.double d3), .second, .val (.double d4), .second, .val (.ref b2), .val (.int (3 : Int32)), .val (.int ((0 : Int32) + (1 : Int32))), .val (.double d2), .second] [(.int (3 : Int32)), (.int ((0 : Int32) + (1 : Int32)))])) t
    refine XS.icmpNo X5.here hx rfl (hb hby d3_34) rfl (tlt (by decide : ((0 : Int32) + (1 : Int32)) < (3 : Int32))).2.1 ?_
    show Steps p.tables e below (T5.setTop (mkF m 37 #[.val (.ref a1), .val (.double d2), .second, .val (.double d3), .second, .val (.double d4), .second, .val (.ref b2), .val (.int (3 : Int32)), .val (.int ((0 : Int32) + (1 : Int32))), .val (.double d2), .second] [])) t
    refine XS.aload X5.here hx rfl (hb hby d3_37) rfl rfl ?_
    show Steps p.tables e below (T5.setTop (mkF m 39 #[.val (.ref a1), .val (.double d2), .second, .val (.double d3), .second, .val (.double d4), .second, .val (.ref b2), .val (.int (3 : Int32)), .val (.int ((0 : Int32) + (1 : Int32))), .val (.double d2), .second] [(.ref b2)])) t
    refine XS.iload X5.here hx rfl (hb hby d3_39) rfl ?_
    exact k
  obtain ⟨cl8, Ar8, hin8, hat8, -, -⟩ := f5_4.get (j := ((0 : Int32) + (1 : Int32))) (by decide) (by decide)
  have hat8 : cl8.slots[(((0 : Int32) + (1 : Int32))).toNatClampNeg]? = some (.double d3) := hat8.trans (by rw [show (((0 : Int32) + (1 : Int32))).toNatClampNeg = 1 from by decide]; rfl)
  refine own_go (X5.daload hx (j := ((0 : Int32) + (1 : Int32))) (v := (.double d3)) (by rw [e5]; exact Ar8.1) (State.isArrayOf_alike hZ.alike Ar8.2.1) Ar8.2.2 hin8 hat8 (g := (mkF m 41 #[.val (.ref a1), .val (.double d2), .second, .val (.double d3), .second, .val (.double d4), .second, .val (.ref b2), .val (.int (3 : Int32)), .val (.int ((0 : Int32) + (1 : Int32))), .val (.double d2), .second] [(.int ((0 : Int32) + (1 : Int32))), (.ref b2)])) rfl rfl (hb hby d3_41)) ?_
  refine own_go (B := T5.setTop (mkF m 41 #[.val (.ref a1), .val (.double d2), .second, .val (.double d3), .second, .val (.double d4), .second, .val (.ref b2), .val (.int (3 : Int32)), .val (.int (((0 : Int32) + (1 : Int32)) + (1 : Int32))), .val (.double d3), .second] [(.int (((0 : Int32) + (1 : Int32)) + (1 : Int32))), (.ref b2)])) (fun t k => ?_) ?_
  · show Steps p.tables e below (T5.setTop (mkF m 42 #[.val (.ref a1), .val (.double d2), .second, .val (.double d3), .second, .val (.double d4), .second, .val (.ref b2), .val (.int (3 : Int32)), .val (.int ((0 : Int32) + (1 : Int32))), .val (.double d2), .second] [(.double d3)])) t
    refine XS.dstore X5.here hx rfl (hb hby d3_42) rfl (l' := #[.val (.ref a1), .val (.double d2), .second, .val (.double d3), .second, .val (.double d4), .second, .val (.ref b2), .val (.int (3 : Int32)), .val (.int ((0 : Int32) + (1 : Int32))), .val (.double d3), .second]) rfl ?_
    show Steps p.tables e below (T5.setTop (mkF m 44 #[.val (.ref a1), .val (.double d2), .second, .val (.double d3), .second, .val (.double d4), .second, .val (.ref b2), .val (.int (3 : Int32)), .val (.int ((0 : Int32) + (1 : Int32))), .val (.double d3), .second] [])) t
    refine XS.dload X5.here hx rfl (hb hby d3_44) rfl ?_
    show Steps p.tables e below (T5.setTop (mkF m 46 #[.val (.ref a1), .val (.double d2), .second, .val (.double d3), .second, .val (.double d4), .second, .val (.ref b2), .val (.int (3 : Int32)), .val (.int ((0 : Int32) + (1 : Int32))), .val (.double d3), .second] [(.double d3)])) t
    refine XS.dconst0 X5.here hx rfl (v := (0 : UInt64)) (hb hby d3_46) (by decide +kernel) ?_
    show Steps p.tables e below (T5.setTop (mkF m 47 #[.val (.ref a1), .val (.double d2), .second, .val (.double d3), .second, .val (.double d4), .second, .val (.ref b2), .val (.int (3 : Int32)), .val (.int ((0 : Int32) + (1 : Int32))), .val (.double d3), .second] [(.double (0 : UInt64)), (.double d3)])) t
    refine XS.dcmpS X5.here hx rfl (hb hby d3_47) rfl rfl ?_
    show Steps p.tables e below (T5.setTop (mkF m 48 #[.val (.ref a1), .val (.double d2), .second, .val (.double d3), .second, .val (.double d4), .second, .val (.ref b2), .val (.int (3 : Int32)), .val (.int ((0 : Int32) + (1 : Int32))), .val (.double d3), .second] [(.int (cmpValue (FP.dcmp d3 (0 : UInt64)) .l))])) t
    refine XS.ifNo X5.here hx rfl (hb hby d3_48) rfl ((if0 _ _).trans (flt (c2.1 : ¬ ((cmpValue (FP.dcmp d3 (0 : UInt64)) .l) < (0 : Int32)))).1) ?_
    show Steps p.tables e below (T5.setTop (mkF m 51 #[.val (.ref a1), .val (.double d2), .second, .val (.double d3), .second, .val (.double d4), .second, .val (.ref b2), .val (.int (3 : Int32)), .val (.int ((0 : Int32) + (1 : Int32))), .val (.double d3), .second] [])) t
    refine XS.dload X5.here hx rfl (hb hby d3_51) rfl ?_
    show Steps p.tables e below (T5.setTop (mkF m 53 #[.val (.ref a1), .val (.double d2), .second, .val (.double d3), .second, .val (.double d4), .second, .val (.ref b2), .val (.int (3 : Int32)), .val (.int ((0 : Int32) + (1 : Int32))), .val (.double d3), .second] [(.double d3)])) t
    refine X5.ldc2DoubleC hx hown (mvT hZ (hw _ (List.mem_of_getElem? (i := 24) rfl))) (g := (mkF m 53 #[.val (.ref a1), .val (.double d2), .second, .val (.double d3), .second, .val (.double d4), .second, .val (.ref b2), .val (.int (3 : Int32)), .val (.int ((0 : Int32) + (1 : Int32))), .val (.double d3), .second] [(.double d3)])) rfl (hb hby d3_53) _ ?_
    show Steps p.tables e below (T5.setTop (mkF m 56 #[.val (.ref a1), .val (.double d2), .second, .val (.double d3), .second, .val (.double d4), .second, .val (.ref b2), .val (.int (3 : Int32)), .val (.int ((0 : Int32) + (1 : Int32))), .val (.double d3), .second] [(.double (4602678819172646912 : UInt64)), (.double d3)])) t
    refine XS.dcmpS X5.here hx rfl (hb hby d3_56) rfl rfl ?_
    show Steps p.tables e below (T5.setTop (mkF m 57 #[.val (.ref a1), .val (.double d2), .second, .val (.double d3), .second, .val (.double d4), .second, .val (.ref b2), .val (.int (3 : Int32)), .val (.int ((0 : Int32) + (1 : Int32))), .val (.double d3), .second] [(.int (cmpValue (FP.dcmp d3 (4602678819172646912 : UInt64)) .g))])) t
    refine XS.ifYes X5.here hx rfl (pc0 := 57) (pc' := 75) rfl (hb hby d3_57) rfl ((if0 _ _).trans (flt (c2.2 : ¬ ((0 : Int32) < (cmpValue (FP.dcmp d3 (4602678819172646912 : UInt64)) .g)))).2.2.2) (by decide) (by decide) ?_
    show Steps p.tables e below (T5.setTop (mkF m 75 #[.val (.ref a1), .val (.double d2), .second, .val (.double d3), .second, .val (.double d4), .second, .val (.ref b2), .val (.int (3 : Int32)), .val (.int ((0 : Int32) + (1 : Int32))), .val (.double d3), .second] [])) t
    refine XS.iinc X5.here hx rfl (hb hby d3_75) rfl (l' := #[.val (.ref a1), .val (.double d2), .second, .val (.double d3), .second, .val (.double d4), .second, .val (.ref b2), .val (.int (3 : Int32)), .val (.int (((0 : Int32) + (1 : Int32)) + (1 : Int32))), .val (.double d3), .second]) rfl ?_
    show Steps p.tables e below (T5.setTop (mkF m 78 #[.val (.ref a1), .val (.double d2), .second, .val (.double d3), .second, .val (.double d4), .second, .val (.ref b2), .val (.int (3 : Int32)), .val (.int (((0 : Int32) + (1 : Int32)) + (1 : Int32))), .val (.double d3), .second] [])) t
    refine XS.goto X5.here hx rfl (pc0 := 78) (pc' := 30) rfl (hb hby d3_78) (by decide) (by decide) ?_
    show Steps p.tables e below (T5.setTop (mkF m 30 #[.val (.ref a1), .val (.double d2), .second, .val (.double d3), .second, .val (.double d4), .second, .val (.ref b2), .val (.int (3 : Int32)), .val (.int (((0 : Int32) + (1 : Int32)) + (1 : Int32))), .val (.double d3), .second] [])) t
    refine XS.iload X5.here hx rfl (hb hby d3_30) rfl ?_
    show Steps p.tables e below (T5.setTop (mkF m 32 #[.val (.ref a1), .val (.double d2), .second, .val (.double d3), .second, .val (.double d4), .second, .val (.ref b2), .val (.int (3 : Int32)), .val (.int (((0 : Int32) + (1 : Int32)) + (1 : Int32))), .val (.double d3), .second] [(.int (((0 : Int32) + (1 : Int32)) + (1 : Int32)))])) t
    refine XS.iload X5.here hx rfl (hb hby d3_32) rfl ?_
    show Steps p.tables e below (T5.setTop (mkF m 34 #[.val (.ref a1), .val (.double d2), .second, .val (.double d3), .second, .val (.double d4), .second, .val (.ref b2), .val (.int (3 : Int32)), .val (.int (((0 : Int32) + (1 : Int32)) + (1 : Int32))), .val (.double d3), .second] [(.int (3 : Int32)), (.int (((0 : Int32) + (1 : Int32)) + (1 : Int32)))])) t
    refine XS.icmpNo X5.here hx rfl (hb hby d3_34) rfl (tlt (by decide : (((0 : Int32) + (1 : Int32)) + (1 : Int32)) < (3 : Int32))).2.1 ?_
    show Steps p.tables e below (T5.setTop (mkF m 37 #[.val (.ref a1), .val (.double d2), .second, .val (.double d3), .second, .val (.double d4), .second, .val (.ref b2), .val (.int (3 : Int32)), .val (.int (((0 : Int32) + (1 : Int32)) + (1 : Int32))), .val (.double d3), .second] [])) t
    refine XS.aload X5.here hx rfl (hb hby d3_37) rfl rfl ?_
    show Steps p.tables e below (T5.setTop (mkF m 39 #[.val (.ref a1), .val (.double d2), .second, .val (.double d3), .second, .val (.double d4), .second, .val (.ref b2), .val (.int (3 : Int32)), .val (.int (((0 : Int32) + (1 : Int32)) + (1 : Int32))), .val (.double d3), .second] [(.ref b2)])) t
    refine XS.iload X5.here hx rfl (hb hby d3_39) rfl ?_
    exact k
  obtain ⟨cl9, Ar9, hin9, hat9, -, -⟩ := f5_4.get (j := (((0 : Int32) + (1 : Int32)) + (1 : Int32))) (by decide) (by decide)
  have hat9 : cl9.slots[((((0 : Int32) + (1 : Int32)) + (1 : Int32))).toNatClampNeg]? = some (.double d4) := hat9.trans (by rw [show ((((0 : Int32) + (1 : Int32)) + (1 : Int32))).toNatClampNeg = 2 from by decide]; rfl)
  refine own_go (X5.daload hx (j := (((0 : Int32) + (1 : Int32)) + (1 : Int32))) (v := (.double d4)) (by rw [e5]; exact Ar9.1) (State.isArrayOf_alike hZ.alike Ar9.2.1) Ar9.2.2 hin9 hat9 (g := (mkF m 41 #[.val (.ref a1), .val (.double d2), .second, .val (.double d3), .second, .val (.double d4), .second, .val (.ref b2), .val (.int (3 : Int32)), .val (.int (((0 : Int32) + (1 : Int32)) + (1 : Int32))), .val (.double d3), .second] [(.int (((0 : Int32) + (1 : Int32)) + (1 : Int32))), (.ref b2)])) rfl rfl (hb hby d3_41)) ?_
  refine own_go (B := T5.setTop (mkF m 83 #[.val (.ref a1), .val (.double d2), .second, .val (.double d3), .second, .val (.double d4), .second, .val (.ref b2), .val (.int (3 : Int32)), .val (.int ((((0 : Int32) + (1 : Int32)) + (1 : Int32)) + (1 : Int32))), .val (.double d4), .second] [(.double d2), (.ref a1)])) (fun t k => ?_) ?_
  · show Steps p.tables e below (T5.setTop (mkF m 42 #[.val (.ref a1), .val (.double d2), .second, .val (.double d3), .second, .val (.double d4), .second, .val (.ref b2), .val (.int (3 : Int32)), .val (.int (((0 : Int32) + (1 : Int32)) + (1 : Int32))), .val (.double d3), .second] [(.double d4)])) t
    refine XS.dstore X5.here hx rfl (hb hby d3_42) rfl (l' := #[.val (.ref a1), .val (.double d2), .second, .val (.double d3), .second, .val (.double d4), .second, .val (.ref b2), .val (.int (3 : Int32)), .val (.int (((0 : Int32) + (1 : Int32)) + (1 : Int32))), .val (.double d4), .second]) rfl ?_
    show Steps p.tables e below (T5.setTop (mkF m 44 #[.val (.ref a1), .val (.double d2), .second, .val (.double d3), .second, .val (.double d4), .second, .val (.ref b2), .val (.int (3 : Int32)), .val (.int (((0 : Int32) + (1 : Int32)) + (1 : Int32))), .val (.double d4), .second] [])) t
    refine XS.dload X5.here hx rfl (hb hby d3_44) rfl ?_
    show Steps p.tables e below (T5.setTop (mkF m 46 #[.val (.ref a1), .val (.double d2), .second, .val (.double d3), .second, .val (.double d4), .second, .val (.ref b2), .val (.int (3 : Int32)), .val (.int (((0 : Int32) + (1 : Int32)) + (1 : Int32))), .val (.double d4), .second] [(.double d4)])) t
    refine XS.dconst0 X5.here hx rfl (v := (0 : UInt64)) (hb hby d3_46) (by decide +kernel) ?_
    show Steps p.tables e below (T5.setTop (mkF m 47 #[.val (.ref a1), .val (.double d2), .second, .val (.double d3), .second, .val (.double d4), .second, .val (.ref b2), .val (.int (3 : Int32)), .val (.int (((0 : Int32) + (1 : Int32)) + (1 : Int32))), .val (.double d4), .second] [(.double (0 : UInt64)), (.double d4)])) t
    refine XS.dcmpS X5.here hx rfl (hb hby d3_47) rfl rfl ?_
    show Steps p.tables e below (T5.setTop (mkF m 48 #[.val (.ref a1), .val (.double d2), .second, .val (.double d3), .second, .val (.double d4), .second, .val (.ref b2), .val (.int (3 : Int32)), .val (.int (((0 : Int32) + (1 : Int32)) + (1 : Int32))), .val (.double d4), .second] [(.int (cmpValue (FP.dcmp d4 (0 : UInt64)) .l))])) t
    refine XS.ifNo X5.here hx rfl (hb hby d3_48) rfl ((if0 _ _).trans (flt (c3.1 : ¬ ((cmpValue (FP.dcmp d4 (0 : UInt64)) .l) < (0 : Int32)))).1) ?_
    show Steps p.tables e below (T5.setTop (mkF m 51 #[.val (.ref a1), .val (.double d2), .second, .val (.double d3), .second, .val (.double d4), .second, .val (.ref b2), .val (.int (3 : Int32)), .val (.int (((0 : Int32) + (1 : Int32)) + (1 : Int32))), .val (.double d4), .second] [])) t
    refine XS.dload X5.here hx rfl (hb hby d3_51) rfl ?_
    show Steps p.tables e below (T5.setTop (mkF m 53 #[.val (.ref a1), .val (.double d2), .second, .val (.double d3), .second, .val (.double d4), .second, .val (.ref b2), .val (.int (3 : Int32)), .val (.int (((0 : Int32) + (1 : Int32)) + (1 : Int32))), .val (.double d4), .second] [(.double d4)])) t
    refine X5.ldc2DoubleC hx hown (mvT hZ (hw _ (List.mem_of_getElem? (i := 24) rfl))) (g := (mkF m 53 #[.val (.ref a1), .val (.double d2), .second, .val (.double d3), .second, .val (.double d4), .second, .val (.ref b2), .val (.int (3 : Int32)), .val (.int (((0 : Int32) + (1 : Int32)) + (1 : Int32))), .val (.double d4), .second] [(.double d4)])) rfl (hb hby d3_53) _ ?_
    show Steps p.tables e below (T5.setTop (mkF m 56 #[.val (.ref a1), .val (.double d2), .second, .val (.double d3), .second, .val (.double d4), .second, .val (.ref b2), .val (.int (3 : Int32)), .val (.int (((0 : Int32) + (1 : Int32)) + (1 : Int32))), .val (.double d4), .second] [(.double (4602678819172646912 : UInt64)), (.double d4)])) t
    refine XS.dcmpS X5.here hx rfl (hb hby d3_56) rfl rfl ?_
    show Steps p.tables e below (T5.setTop (mkF m 57 #[.val (.ref a1), .val (.double d2), .second, .val (.double d3), .second, .val (.double d4), .second, .val (.ref b2), .val (.int (3 : Int32)), .val (.int (((0 : Int32) + (1 : Int32)) + (1 : Int32))), .val (.double d4), .second] [(.int (cmpValue (FP.dcmp d4 (4602678819172646912 : UInt64)) .g))])) t
    refine XS.ifYes X5.here hx rfl (pc0 := 57) (pc' := 75) rfl (hb hby d3_57) rfl ((if0 _ _).trans (flt (c3.2 : ¬ ((0 : Int32) < (cmpValue (FP.dcmp d4 (4602678819172646912 : UInt64)) .g)))).2.2.2) (by decide) (by decide) ?_
    show Steps p.tables e below (T5.setTop (mkF m 75 #[.val (.ref a1), .val (.double d2), .second, .val (.double d3), .second, .val (.double d4), .second, .val (.ref b2), .val (.int (3 : Int32)), .val (.int (((0 : Int32) + (1 : Int32)) + (1 : Int32))), .val (.double d4), .second] [])) t
    refine XS.iinc X5.here hx rfl (hb hby d3_75) rfl (l' := #[.val (.ref a1), .val (.double d2), .second, .val (.double d3), .second, .val (.double d4), .second, .val (.ref b2), .val (.int (3 : Int32)), .val (.int ((((0 : Int32) + (1 : Int32)) + (1 : Int32)) + (1 : Int32))), .val (.double d4), .second]) rfl ?_
    show Steps p.tables e below (T5.setTop (mkF m 78 #[.val (.ref a1), .val (.double d2), .second, .val (.double d3), .second, .val (.double d4), .second, .val (.ref b2), .val (.int (3 : Int32)), .val (.int ((((0 : Int32) + (1 : Int32)) + (1 : Int32)) + (1 : Int32))), .val (.double d4), .second] [])) t
    refine XS.goto X5.here hx rfl (pc0 := 78) (pc' := 30) rfl (hb hby d3_78) (by decide) (by decide) ?_
    show Steps p.tables e below (T5.setTop (mkF m 30 #[.val (.ref a1), .val (.double d2), .second, .val (.double d3), .second, .val (.double d4), .second, .val (.ref b2), .val (.int (3 : Int32)), .val (.int ((((0 : Int32) + (1 : Int32)) + (1 : Int32)) + (1 : Int32))), .val (.double d4), .second] [])) t
    refine XS.iload X5.here hx rfl (hb hby d3_30) rfl ?_
    show Steps p.tables e below (T5.setTop (mkF m 32 #[.val (.ref a1), .val (.double d2), .second, .val (.double d3), .second, .val (.double d4), .second, .val (.ref b2), .val (.int (3 : Int32)), .val (.int ((((0 : Int32) + (1 : Int32)) + (1 : Int32)) + (1 : Int32))), .val (.double d4), .second] [(.int ((((0 : Int32) + (1 : Int32)) + (1 : Int32)) + (1 : Int32)))])) t
    refine XS.iload X5.here hx rfl (hb hby d3_32) rfl ?_
    show Steps p.tables e below (T5.setTop (mkF m 34 #[.val (.ref a1), .val (.double d2), .second, .val (.double d3), .second, .val (.double d4), .second, .val (.ref b2), .val (.int (3 : Int32)), .val (.int ((((0 : Int32) + (1 : Int32)) + (1 : Int32)) + (1 : Int32))), .val (.double d4), .second] [(.int (3 : Int32)), (.int ((((0 : Int32) + (1 : Int32)) + (1 : Int32)) + (1 : Int32)))])) t
    refine XS.icmpYes X5.here hx rfl (pc0 := 34) (pc' := 81) rfl (hb hby d3_34) rfl (flt (by decide : ¬ (((((0 : Int32) + (1 : Int32)) + (1 : Int32)) + (1 : Int32)) < (3 : Int32)))).2.1 (by decide) (by decide) ?_
    show Steps p.tables e below (T5.setTop (mkF m 81 #[.val (.ref a1), .val (.double d2), .second, .val (.double d3), .second, .val (.double d4), .second, .val (.ref b2), .val (.int (3 : Int32)), .val (.int ((((0 : Int32) + (1 : Int32)) + (1 : Int32)) + (1 : Int32))), .val (.double d4), .second] [])) t
    refine XS.aloadN X5.here hx rfl (hb hby d3_81) rfl rfl ?_
    show Steps p.tables e below (T5.setTop (mkF m 82 #[.val (.ref a1), .val (.double d2), .second, .val (.double d3), .second, .val (.double d4), .second, .val (.ref b2), .val (.int (3 : Int32)), .val (.int ((((0 : Int32) + (1 : Int32)) + (1 : Int32)) + (1 : Int32))), .val (.double d4), .second] [(.ref a1)])) t
    refine XS.dloadN X5.here hx rfl (hb hby d3_82) rfl ?_
    exact k
  obtain ⟨T10, h10, X10, e10, W10, st10⟩ := putF X5 hx hZ hown (host := "") (Or.inl (hw _ (List.mem_of_getElem? (i := 25) rfl))) Via.refl e5 f5_1 f5_0 (Or.inr ⟨(hw _ (List.mem_of_getElem? (i := 26) rfl)), rfl, hnm⟩) (hw _ (List.mem_of_getElem? (i := 6) rfl)) (ty := .double) (by decide) rfl rfl (g := (mkF m 83 #[.val (.ref a1), .val (.double d2), .second, .val (.double d3), .second, .val (.double d4), .second, .val (.ref b2), .val (.int (3 : Int32)), .val (.int ((((0 : Int32) + (1 : Int32)) + (1 : Int32)) + (1 : Int32))), .val (.double d4), .second] [(.double d2), (.ref a1)])) rfl rfl (hb hby d3_83)
  refine own_go (fun t k => st10 t k) ?_
  have N10 := Fr.snoc X10 N5 g_a1
  have K10 : Keep h0 h10 [a1] := K5.wr W10 (Or.inl (List.mem_of_getElem? (i := 0) rfl))
  have f10_0 := f5_0.wr W10
  have f10_1 := f5_1.same W10
  have f10_2 := f5_2.other W10 (Or.inr (slot_ne (Or.inr (hw _ (List.mem_of_getElem? (i := 28) rfl))) (Or.inr (hw _ (List.mem_of_getElem? (i := 26) rfl))) (by decide) (t := .double) (t' := .double) (by decide) (by decide)))
  have f10_3 := f5_3.other W10 (Or.inr (slot_ne (Or.inr (hw _ (List.mem_of_getElem? (i := 30) rfl))) (Or.inr (hw _ (List.mem_of_getElem? (i := 26) rfl))) (by decide) (t := .double) (t' := .double) (by decide) (by decide)))
  have f10_4 := f5_4.other W10 (Ne.symm ne2_a1)
  refine own_go (B := T10.setTop (mkF m 88 #[.val (.ref a1), .val (.double d2), .second, .val (.double d3), .second, .val (.double d4), .second, .val (.ref b2), .val (.int (3 : Int32)), .val (.int ((((0 : Int32) + (1 : Int32)) + (1 : Int32)) + (1 : Int32))), .val (.double d4), .second] [(.double d3), (.ref a1)])) (fun t k => ?_) ?_
  · show Steps p.tables e below (T10.setTop (mkF m 86 #[.val (.ref a1), .val (.double d2), .second, .val (.double d3), .second, .val (.double d4), .second, .val (.ref b2), .val (.int (3 : Int32)), .val (.int ((((0 : Int32) + (1 : Int32)) + (1 : Int32)) + (1 : Int32))), .val (.double d4), .second] [])) t
    refine XS.aloadN X10.here hx rfl (hb hby d3_86) rfl rfl ?_
    show Steps p.tables e below (T10.setTop (mkF m 87 #[.val (.ref a1), .val (.double d2), .second, .val (.double d3), .second, .val (.double d4), .second, .val (.ref b2), .val (.int (3 : Int32)), .val (.int ((((0 : Int32) + (1 : Int32)) + (1 : Int32)) + (1 : Int32))), .val (.double d4), .second] [(.ref a1)])) t
    refine XS.dloadN X10.here hx rfl (hb hby d3_87) rfl ?_
    exact k
  obtain ⟨T11, h11, X11, e11, W11, st11⟩ := putF X10 hx hZ hown (host := "") (Or.inl (hw _ (List.mem_of_getElem? (i := 27) rfl))) Via.refl e10 f10_2 f10_0 (Or.inr ⟨(hw _ (List.mem_of_getElem? (i := 28) rfl)), rfl, hnm⟩) (hw _ (List.mem_of_getElem? (i := 6) rfl)) (ty := .double) (by decide) rfl rfl (g := (mkF m 88 #[.val (.ref a1), .val (.double d2), .second, .val (.double d3), .second, .val (.double d4), .second, .val (.ref b2), .val (.int (3 : Int32)), .val (.int ((((0 : Int32) + (1 : Int32)) + (1 : Int32)) + (1 : Int32))), .val (.double d4), .second] [(.double d3), (.ref a1)])) rfl rfl (hb hby d3_88)
  refine own_go (fun t k => st11 t k) ?_
  have N11 := Fr.snoc X11 N10 g_a1
  have K11 : Keep h0 h11 [a1] := K10.wr W11 (Or.inl (List.mem_of_getElem? (i := 0) rfl))
  have f11_0 := f10_0.wr W11
  have f11_1 := f10_1.other W11 (Or.inr (slot_ne (Or.inr (hw _ (List.mem_of_getElem? (i := 26) rfl))) (Or.inr (hw _ (List.mem_of_getElem? (i := 28) rfl))) (by decide) (t := .double) (t' := .double) (by decide) (by decide)))
  have f11_2 := f10_2.same W11
  have f11_3 := f10_3.other W11 (Or.inr (slot_ne (Or.inr (hw _ (List.mem_of_getElem? (i := 30) rfl))) (Or.inr (hw _ (List.mem_of_getElem? (i := 28) rfl))) (by decide) (t := .double) (t' := .double) (by decide) (by decide)))
  have f11_4 := f10_4.other W11 (Ne.symm ne2_a1)
  refine own_go (B := T11.setTop (mkF m 94 #[.val (.ref a1), .val (.double d2), .second, .val (.double d3), .second, .val (.double d4), .second, .val (.ref b2), .val (.int (3 : Int32)), .val (.int ((((0 : Int32) + (1 : Int32)) + (1 : Int32)) + (1 : Int32))), .val (.double d4), .second] [(.double d4), (.ref a1)])) (fun t k => ?_) ?_
  · show Steps p.tables e below (T11.setTop (mkF m 91 #[.val (.ref a1), .val (.double d2), .second, .val (.double d3), .second, .val (.double d4), .second, .val (.ref b2), .val (.int (3 : Int32)), .val (.int ((((0 : Int32) + (1 : Int32)) + (1 : Int32)) + (1 : Int32))), .val (.double d4), .second] [])) t
    refine XS.aloadN X11.here hx rfl (hb hby d3_91) rfl rfl ?_
    show Steps p.tables e below (T11.setTop (mkF m 92 #[.val (.ref a1), .val (.double d2), .second, .val (.double d3), .second, .val (.double d4), .second, .val (.ref b2), .val (.int (3 : Int32)), .val (.int ((((0 : Int32) + (1 : Int32)) + (1 : Int32)) + (1 : Int32))), .val (.double d4), .second] [(.ref a1)])) t
    refine XS.dload X11.here hx rfl (hb hby d3_92) rfl ?_
    exact k
  obtain ⟨T12, h12, X12, e12, W12, st12⟩ := putF X11 hx hZ hown (host := "") (Or.inl (hw _ (List.mem_of_getElem? (i := 29) rfl))) Via.refl e11 f11_3 f11_0 (Or.inr ⟨(hw _ (List.mem_of_getElem? (i := 30) rfl)), rfl, hnm⟩) (hw _ (List.mem_of_getElem? (i := 6) rfl)) (ty := .double) (by decide) rfl rfl (g := (mkF m 94 #[.val (.ref a1), .val (.double d2), .second, .val (.double d3), .second, .val (.double d4), .second, .val (.ref b2), .val (.int (3 : Int32)), .val (.int ((((0 : Int32) + (1 : Int32)) + (1 : Int32)) + (1 : Int32))), .val (.double d4), .second] [(.double d4), (.ref a1)])) rfl rfl (hb hby d3_94)
  refine own_go (fun t k => st12 t k) ?_
  have N12 := Fr.snoc X12 N11 g_a1
  have K12 : Keep h0 h12 [a1] := K11.wr W12 (Or.inl (List.mem_of_getElem? (i := 0) rfl))
  have f12_0 := f11_0.wr W12
  have f12_1 := f11_1.other W12 (Or.inr (slot_ne (Or.inr (hw _ (List.mem_of_getElem? (i := 26) rfl))) (Or.inr (hw _ (List.mem_of_getElem? (i := 30) rfl))) (by decide) (t := .double) (t' := .double) (by decide) (by decide)))
  have f12_2 := f11_2.other W12 (Or.inr (slot_ne (Or.inr (hw _ (List.mem_of_getElem? (i := 28) rfl))) (Or.inr (hw _ (List.mem_of_getElem? (i := 30) rfl))) (by decide) (t := .double) (t' := .double) (by decide) (by decide)))
  have f12_3 := f11_3.same W12
  have f12_4 := f11_4.other W12 (Ne.symm ne2_a1)
  obtain ⟨fs, hr, hrun, hended, hW, hsame⟩ := X12.leave (v := none) (fun _ => rfl)
  refine ⟨_, _, ?_, hrun, hended, _, _, rfl, ?_, ⟨_, rfl⟩, hW, hsame.mono (by decide) (by decide)⟩
  · show Steps p.tables e below (T12.setTop (mkF m 97 #[.val (.ref a1), .val (.double d2), .second, .val (.double d3), .second, .val (.double d4), .second, .val (.ref b2), .val (.int (3 : Int32)), .val (.int ((((0 : Int32) + (1 : Int32)) + (1 : Int32)) + (1 : Int32))), .val (.double d4), .second] [])) _
    exact X12.returnOut hx Bd.returns (hb hby d3_97) hr
  · show Q3 Z a1 d2 d3 d4 u0 u1 u2 h0 n0 _ T12.heap _
    rw [e12]
    exact ⟨rfl, N12, K12, f12_0, f12_1, f12_2, f12_3⟩
theorem d7_0 : decode prog_132_method_2_code 0 = .ok (.aload_n 0, 1) := by decide +kernel
theorem d7_1 : decode prog_132_method_2_code 1 = .ok (.getfield 20, 3) := by decide +kernel
theorem d7_4 : decode prog_132_method_2_code 4 = .ok (.dconst 0, 1) := by decide +kernel
theorem d7_5 : decode prog_132_method_2_code 5 = .ok (.dcmp .l, 1) := by decide +kernel
theorem d7_6 : decode prog_132_method_2_code 6 = .ok (.ifCond .gt 21, 3) := by decide +kernel
theorem d7_9 : decode prog_132_method_2_code 9 = .ok (.aload_n 0, 1) := by decide +kernel
theorem d7_10 : decode prog_132_method_2_code 10 = .ok (.getfield 26, 3) := by decide +kernel
theorem d7_13 : decode prog_132_method_2_code 13 = .ok (.dconst 0, 1) := by decide +kernel
theorem d7_14 : decode prog_132_method_2_code 14 = .ok (.dcmp .l, 1) := by decide +kernel
theorem d7_15 : decode prog_132_method_2_code 15 = .ok (.ifCond .gt 12, 3) := by decide +kernel
theorem d7_18 : decode prog_132_method_2_code 18 = .ok (.aload_n 0, 1) := by decide +kernel
theorem d7_19 : decode prog_132_method_2_code 19 = .ok (.getfield 29, 3) := by decide +kernel
theorem d7_22 : decode prog_132_method_2_code 22 = .ok (.dconst 0, 1) := by decide +kernel
theorem d7_23 : decode prog_132_method_2_code 23 = .ok (.dcmp .l, 1) := by decide +kernel
theorem d7_24 : decode prog_132_method_2_code 24 = .ok (.ifCond .le 7, 3) := by decide +kernel
theorem d7_27 : decode prog_132_method_2_code 27 = .ok (.iconst 1, 1) := by decide +kernel
theorem d7_28 : decode prog_132_method_2_code 28 = .ok (.goto 4, 3) := by decide +kernel
theorem d7_31 : decode prog_132_method_2_code 31 = .ok (.iconst 0, 1) := by decide +kernel
theorem d7_32 : decode prog_132_method_2_code 32 = .ok (.ireturn, 1) := by decide +kernel
theorem pn_rm7 : plainName "com/example/quorumline/quorumline/server/SeededFaults$Rates" = true := by first | (simp [plainName, overriddenIn]; done) | decide +kernel
theorem ef_rm7 (m : MethodId) (x0 : Addr) : entryFrame m #[(.ref x0)] 1 = mkF m 0 #[.val (.ref x0)] [] := by first | (simp [entryFrame, mkF, argsToLocals, Value.category]; done) | rfl
def Q7 (Z : State) (a1 : Addr) (x1 : UInt64) (x2 : UInt64) (x3 : UInt64) (h0 : Heap) (n0 : Nat) (v : Option Value) (h : Heap) (L : List Loc) : Prop := ∃ r : Int32, v = some (.int r) ∧ Fr n0 L ∧ h = h0 ∧ r = (if (0 : Int32) < (cmpValue (FP.dcmp x1 (0 : UInt64)) .l) then (1 : Int32) else (if (0 : Int32) < (cmpValue (FP.dcmp x2 (0 : UInt64)) .l) then (1 : Int32) else (if (0 : Int32) < (cmpValue (FP.dcmp x3 (0 : UInt64)) .l) then (1 : Int32) else (0 : Int32))))
set_option maxRecDepth 65536 in
set_option maxHeartbeats 40000000 in
theorem rm7 (l : Launch) (Z : State) (a0 : Array Value) (hw : ∀ d ∈ tables_1, d.before a0 Z = true) (ws : List Jvm.Cond) (a1 : Addr) (x1 : UInt64) (x2 : UInt64) (x3 : UInt64) (h0 : Heap) (n0 : Nat) (Z0 : n0 ≤ h0.size) (F1 : Fld Z h0 a1 "com/example/quorumline/quorumline/server/SeededFaults$Rates" "loss" "D" (.double x1)) (F2 : Fld Z h0 a1 "com/example/quorumline/quorumline/server/SeededFaults$Rates" "duplicate" "D" (.double x2)) (F3 : Fld Z h0 a1 "com/example/quorumline/quorumline/server/SeededFaults$Rates" "reorder" "D" (.double x3)) :
    MetFree l (⟨"com/example/quorumline/quorumline/server/SeededFaults$Rates", "any", "()Z"⟩ : MethodName) (head1 (Jvm.Cond.code (⟨"com/example/quorumline/quorumline/server/SeededFaults$Rates", "any", "()Z"⟩ : MethodName) prog_132_method_2_code 1 (some .boolean) :: ws) ({ frames := 0, cells := 0, slots := 0, locals := 0 } : Room)) (fun a U => a = #[(.ref a1)] ∧ Z.Warmed39 U.vm ∧ U.heap = h0) (fun _ _ _ _ _ => True) (fun _ U o U' => ∃ v L, o = .returned v ∧ Q7 Z a1 x1 x2 x3 h0 n0 v U'.heap L ∧ FrameEnd U o U' L ({ frames := 0, cells := 0, slots := 0, locals := 0 } : Room).cells ({ frames := 0, cells := 0, slots := 0, locals := 0 } : Room).slots) := by
  refine MetFree.of_bodySF (plainFor_of_name pn_rm7) hisR ?_
  intro p e s m args below meth c s₁ Bd hml0 hP hK
  obtain ⟨rfl, hZ, hh⟩ := hP
  have hx := Bd.exec
  have hby := Bd.bytes
  have hml : c.maxLocals = 1 := hml0
  have hown : s.vm.findClass "com/example/quorumline/quorumline/server/SeededFaults$Rates" = some m.cls := findClass_of_methodNamed Bd.named
  have hnm := (name_of_methodNamed Bd.named Bd.method).1
  have X0 : Stand p l e ({ frames := 0, cells := 0, slots := 0, locals := 0 } : Room) s m #[(.ref a1)] below meth c s₁ [] 0 0 := Stand.of_body Bd
  have e0 : s₁.heap = h0 := by rw [← hh, Bd.state]; rfl
  have N0 := Fr.nil n0
  have pre0 : ∀ t, Steps p.tables e below (s₁.setTop (mkF m 0 #[.val (.ref a1)] [])) t → Steps p.tables e below (s₁.setTop (entryFrame m #[(.ref a1)] 1)) t := fun t k => castTop (ef_rm7 m a1) k
  show own_Fin p e below _ _
  refine own_go pre0 ?_
  refine own_go (B := s₁.setTop (mkF m 1 #[.val (.ref a1)] [(.ref a1)])) (fun t k => ?_) ?_
  · show Steps p.tables e below (s₁.setTop (mkF m 0 #[.val (.ref a1)] [])) t
    refine XS.aloadN X0.here hx rfl (hb hby d7_0) rfl rfl ?_
    exact k
  obtain ⟨T1, X1, e1, st1⟩ := getF X0 hx hZ hown (host := "") (Or.inl (hw _ (List.mem_of_getElem? (i := 25) rfl))) Via.refl e0 F1 (g := (mkF m 1 #[.val (.ref a1)] [(.ref a1)])) rfl rfl (hb hby d7_1)
  refine own_go (fun t k => st1 t k) ?_
  refine own_go (B := T1.setTop (mkF m 6 #[.val (.ref a1)] [(.int (cmpValue (FP.dcmp x1 (0 : UInt64)) .l))])) (fun t k => ?_) ?_
  · show Steps p.tables e below (T1.setTop (mkF m 4 #[.val (.ref a1)] [(.double x1)])) t
    refine XS.dconst0 X1.here hx rfl (v := (0 : UInt64)) (hb hby d7_4) (by decide +kernel) ?_
    show Steps p.tables e below (T1.setTop (mkF m 5 #[.val (.ref a1)] [(.double (0 : UInt64)), (.double x1)])) t
    refine XS.dcmpS X1.here hx rfl (hb hby d7_5) rfl rfl ?_
    exact k
  by_cases hc6_2 : (0 : Int32) < (cmpValue (FP.dcmp x1 (0 : UInt64)) .l)
  · refine own_go (B := T1.setTop (mkF m 27 #[.val (.ref a1)] [])) (fun t k => ?_) ?_
    · show Steps p.tables e below (T1.setTop (mkF m 6 #[.val (.ref a1)] [(.int (cmpValue (FP.dcmp x1 (0 : UInt64)) .l))])) t
      refine XS.ifYes X1.here hx rfl (pc0 := 6) (pc' := 27) rfl (hb hby d7_6) rfl ((if0 _ _).trans (tlt hc6_2).2.2.1) (by decide) (by decide) ?_
      exact k
    refine own_go (B := T1.setTop (mkF m 32 #[.val (.ref a1)] [(.int (1 : Int32))])) (fun t k => ?_) ?_
    · show Steps p.tables e below (T1.setTop (mkF m 27 #[.val (.ref a1)] [])) t
      refine XS.iconst X1.here hx rfl (hb hby d7_27) ?_
      show Steps p.tables e below (T1.setTop (mkF m 28 #[.val (.ref a1)] [(.int (1 : Int32))])) t
      refine XS.goto X1.here hx rfl (pc0 := 28) (pc' := 32) rfl (hb hby d7_28) (by decide) (by decide) ?_
      exact k
    obtain ⟨fs, hr, hrun, hended, hW, hsame⟩ := X1.leave (v := some (.int (1 : Int32))) (fun h => by rw [Bd.returns] at h; cases h)
    refine ⟨_, _, ?_, hrun, hended, _, _, rfl, ?_, ⟨_, rfl⟩, hW, hsame.mono (by decide) (by decide)⟩
    · show Steps p.tables e below (T1.setTop (mkF m 32 #[.val (.ref a1)] [(.int (1 : Int32))])) _
      exact retN X1 hx (t := .boolean) Bd.returns (by simp) (hb hby d7_32) hr
    · show Q7 Z a1 x1 x2 x3 h0 n0 _ T1.heap _
      rw [e1]
      exact ⟨_, rfl, N0, rfl, by rw [if_pos hc6_2]⟩
  · refine own_go (B := T1.setTop (mkF m 9 #[.val (.ref a1)] [])) (fun t k => ?_) ?_
    · show Steps p.tables e below (T1.setTop (mkF m 6 #[.val (.ref a1)] [(.int (cmpValue (FP.dcmp x1 (0 : UInt64)) .l))])) t
      refine XS.ifNo X1.here hx rfl (hb hby d7_6) rfl ((if0 _ _).trans (flt hc6_2).2.2.1) ?_
      exact k
    refine own_go (B := T1.setTop (mkF m 10 #[.val (.ref a1)] [(.ref a1)])) (fun t k => ?_) ?_
    · show Steps p.tables e below (T1.setTop (mkF m 9 #[.val (.ref a1)] [])) t
      refine XS.aloadN X1.here hx rfl (hb hby d7_9) rfl rfl ?_
      exact k
    obtain ⟨T3, X3, e3, st3⟩ := getF X1 hx hZ hown (host := "") (Or.inl (hw _ (List.mem_of_getElem? (i := 27) rfl))) Via.refl e1 F2 (g := (mkF m 10 #[.val (.ref a1)] [(.ref a1)])) rfl rfl (hb hby d7_10)
    refine own_go (fun t k => st3 t k) ?_
    refine own_go (B := T3.setTop (mkF m 15 #[.val (.ref a1)] [(.int (cmpValue (FP.dcmp x2 (0 : UInt64)) .l))])) (fun t k => ?_) ?_
    · show Steps p.tables e below (T3.setTop (mkF m 13 #[.val (.ref a1)] [(.double x2)])) t
      refine XS.dconst0 X3.here hx rfl (v := (0 : UInt64)) (hb hby d7_13) (by decide +kernel) ?_
      show Steps p.tables e below (T3.setTop (mkF m 14 #[.val (.ref a1)] [(.double (0 : UInt64)), (.double x2)])) t
      refine XS.dcmpS X3.here hx rfl (hb hby d7_14) rfl rfl ?_
      exact k
    by_cases hc15_4 : (0 : Int32) < (cmpValue (FP.dcmp x2 (0 : UInt64)) .l)
    · refine own_go (B := T3.setTop (mkF m 27 #[.val (.ref a1)] [])) (fun t k => ?_) ?_
      · show Steps p.tables e below (T3.setTop (mkF m 15 #[.val (.ref a1)] [(.int (cmpValue (FP.dcmp x2 (0 : UInt64)) .l))])) t
        refine XS.ifYes X3.here hx rfl (pc0 := 15) (pc' := 27) rfl (hb hby d7_15) rfl ((if0 _ _).trans (tlt hc15_4).2.2.1) (by decide) (by decide) ?_
        exact k
      refine own_go (B := T3.setTop (mkF m 32 #[.val (.ref a1)] [(.int (1 : Int32))])) (fun t k => ?_) ?_
      · show Steps p.tables e below (T3.setTop (mkF m 27 #[.val (.ref a1)] [])) t
        refine XS.iconst X3.here hx rfl (hb hby d7_27) ?_
        show Steps p.tables e below (T3.setTop (mkF m 28 #[.val (.ref a1)] [(.int (1 : Int32))])) t
        refine XS.goto X3.here hx rfl (pc0 := 28) (pc' := 32) rfl (hb hby d7_28) (by decide) (by decide) ?_
        exact k
      obtain ⟨fs, hr, hrun, hended, hW, hsame⟩ := X3.leave (v := some (.int (1 : Int32))) (fun h => by rw [Bd.returns] at h; cases h)
      refine ⟨_, _, ?_, hrun, hended, _, _, rfl, ?_, ⟨_, rfl⟩, hW, hsame.mono (by decide) (by decide)⟩
      · show Steps p.tables e below (T3.setTop (mkF m 32 #[.val (.ref a1)] [(.int (1 : Int32))])) _
        exact retN X3 hx (t := .boolean) Bd.returns (by simp) (hb hby d7_32) hr
      · show Q7 Z a1 x1 x2 x3 h0 n0 _ T3.heap _
        rw [e3]
        exact ⟨_, rfl, N0, rfl, by rw [if_neg hc6_2, if_pos hc15_4]⟩
    · refine own_go (B := T3.setTop (mkF m 18 #[.val (.ref a1)] [])) (fun t k => ?_) ?_
      · show Steps p.tables e below (T3.setTop (mkF m 15 #[.val (.ref a1)] [(.int (cmpValue (FP.dcmp x2 (0 : UInt64)) .l))])) t
        refine XS.ifNo X3.here hx rfl (hb hby d7_15) rfl ((if0 _ _).trans (flt hc15_4).2.2.1) ?_
        exact k
      refine own_go (B := T3.setTop (mkF m 19 #[.val (.ref a1)] [(.ref a1)])) (fun t k => ?_) ?_
      · show Steps p.tables e below (T3.setTop (mkF m 18 #[.val (.ref a1)] [])) t
        refine XS.aloadN X3.here hx rfl (hb hby d7_18) rfl rfl ?_
        exact k
      obtain ⟨T5, X5, e5, st5⟩ := getF X3 hx hZ hown (host := "") (Or.inl (hw _ (List.mem_of_getElem? (i := 29) rfl))) Via.refl e3 F3 (g := (mkF m 19 #[.val (.ref a1)] [(.ref a1)])) rfl rfl (hb hby d7_19)
      refine own_go (fun t k => st5 t k) ?_
      refine own_go (B := T5.setTop (mkF m 24 #[.val (.ref a1)] [(.int (cmpValue (FP.dcmp x3 (0 : UInt64)) .l))])) (fun t k => ?_) ?_
      · show Steps p.tables e below (T5.setTop (mkF m 22 #[.val (.ref a1)] [(.double x3)])) t
        refine XS.dconst0 X5.here hx rfl (v := (0 : UInt64)) (hb hby d7_22) (by decide +kernel) ?_
        show Steps p.tables e below (T5.setTop (mkF m 23 #[.val (.ref a1)] [(.double (0 : UInt64)), (.double x3)])) t
        refine XS.dcmpS X5.here hx rfl (hb hby d7_23) rfl rfl ?_
        exact k
      by_cases hc24_6 : (0 : Int32) < (cmpValue (FP.dcmp x3 (0 : UInt64)) .l)
      · refine own_go (B := T5.setTop (mkF m 27 #[.val (.ref a1)] [])) (fun t k => ?_) ?_
        · show Steps p.tables e below (T5.setTop (mkF m 24 #[.val (.ref a1)] [(.int (cmpValue (FP.dcmp x3 (0 : UInt64)) .l))])) t
          refine XS.ifNo X5.here hx rfl (hb hby d7_24) rfl ((if0 _ _).trans (tlt hc24_6).2.2.2) ?_
          exact k
        refine own_go (B := T5.setTop (mkF m 32 #[.val (.ref a1)] [(.int (1 : Int32))])) (fun t k => ?_) ?_
        · show Steps p.tables e below (T5.setTop (mkF m 27 #[.val (.ref a1)] [])) t
          refine XS.iconst X5.here hx rfl (hb hby d7_27) ?_
          show Steps p.tables e below (T5.setTop (mkF m 28 #[.val (.ref a1)] [(.int (1 : Int32))])) t
          refine XS.goto X5.here hx rfl (pc0 := 28) (pc' := 32) rfl (hb hby d7_28) (by decide) (by decide) ?_
          exact k
        obtain ⟨fs, hr, hrun, hended, hW, hsame⟩ := X5.leave (v := some (.int (1 : Int32))) (fun h => by rw [Bd.returns] at h; cases h)
        refine ⟨_, _, ?_, hrun, hended, _, _, rfl, ?_, ⟨_, rfl⟩, hW, hsame.mono (by decide) (by decide)⟩
        · show Steps p.tables e below (T5.setTop (mkF m 32 #[.val (.ref a1)] [(.int (1 : Int32))])) _
          exact retN X5 hx (t := .boolean) Bd.returns (by simp) (hb hby d7_32) hr
        · show Q7 Z a1 x1 x2 x3 h0 n0 _ T5.heap _
          rw [e5]
          exact ⟨_, rfl, N0, rfl, by rw [if_neg hc6_2, if_neg hc15_4, if_pos hc24_6]⟩
      · refine own_go (B := T5.setTop (mkF m 31 #[.val (.ref a1)] [])) (fun t k => ?_) ?_
        · show Steps p.tables e below (T5.setTop (mkF m 24 #[.val (.ref a1)] [(.int (cmpValue (FP.dcmp x3 (0 : UInt64)) .l))])) t
          refine XS.ifYes X5.here hx rfl (pc0 := 24) (pc' := 31) rfl (hb hby d7_24) rfl ((if0 _ _).trans (flt hc24_6).2.2.2) (by decide) (by decide) ?_
          exact k
        refine own_go (B := T5.setTop (mkF m 32 #[.val (.ref a1)] [(.int (0 : Int32))])) (fun t k => ?_) ?_
        · show Steps p.tables e below (T5.setTop (mkF m 31 #[.val (.ref a1)] [])) t
          refine XS.iconst X5.here hx rfl (hb hby d7_31) ?_
          exact k
        obtain ⟨fs, hr, hrun, hended, hW, hsame⟩ := X5.leave (v := some (.int (0 : Int32))) (fun h => by rw [Bd.returns] at h; cases h)
        refine ⟨_, _, ?_, hrun, hended, _, _, rfl, ?_, ⟨_, rfl⟩, hW, hsame.mono (by decide) (by decide)⟩
        · show Steps p.tables e below (T5.setTop (mkF m 32 #[.val (.ref a1)] [(.int (0 : Int32))])) _
          exact retN X5 hx (t := .boolean) Bd.returns (by simp) (hb hby d7_32) hr
        · show Q7 Z a1 x1 x2 x3 h0 n0 _ T5.heap _
          rw [e5]
          exact ⟨_, rfl, N0, rfl, by rw [if_neg hc6_2, if_neg hc15_4, if_neg hc24_6]⟩
theorem pn_rm0 : plainName "com/example/quorumline/quorumline/server/RatesAnyPinLaw" = true := by first | (simp [plainName, overriddenIn]; done) | decide +kernel
theorem pd_rm0_0 : parseMethodDescriptor "(I)I" = some ⟨[.int], some .int⟩ := by decide +kernel
theorem pd_rm0_1 : parseMethodDescriptor "(I)D" = some ⟨[.int], some .double⟩ := by decide +kernel
theorem pd_rm0_2 : parseMethodDescriptor "(DDD)V" = some ⟨[.double, .double, .double], none⟩ := by decide +kernel
theorem pd_rm0_3 : parseMethodDescriptor "(I)Z" = some ⟨[.int], some .boolean⟩ := by decide +kernel
theorem pd_rm0_4 : parseMethodDescriptor "()Z" = some ⟨[], some .boolean⟩ := by decide +kernel
theorem ef_rm0 (m : MethodId) (x0 : Int32) (x1 : Int32) (x2 : Int32) : entryFrame m #[(.int x0), (.int x1), (.int x2)] maxLocals = mkF m 0 #[.val (.int x0), .val (.int x1), .val (.int x2), .unset, .unset, .unset, .unset, .unset] [] := by first | (simp [entryFrame, mkF, argsToLocals, Value.category, maxLocals]; done) | rfl
def Q0 (Z : State) (p1 : Int32) (p2 : Int32) (p3 : Int32) (h0 : Heap) (n0 : Nat) (v : Option Value) (h : Heap) (L : List Loc) : Prop := v = some (.int (1 : Int32)) ∧ Fr n0 L
set_option maxRecDepth 65536 in
set_option maxHeartbeats 40000000 in
theorem rm0 (l : Launch) (Z : State) (a0 : Array Value) (hw : ∀ d ∈ tables_1, d.before a0 Z = true) (ws : List Jvm.Cond) (p1 : Int32) (p2 : Int32) (p3 : Int32) (h0 : Heap) (n0 : Nat) (Z0 : n0 ≤ h0.size) :
    MetFree l x (head1 (Jvm.Cond.code x code maxLocals ret :: ws) room_1) (fun a U => a = #[(.int p1), (.int p2), (.int p3)] ∧ Z.Warmed39 U.vm ∧ U.heap = h0) (fun _ _ _ _ _ => True) (fun _ U o U' => ∃ v L, o = .returned v ∧ Q0 Z p1 p2 p3 h0 n0 v U'.heap L ∧ FrameEnd U o U' L room_1.cells room_1.slots) := by
  refine MetFree.of_bodySF (plainFor_of_name pn_rm0) hisR ?_
  intro p e s m args below meth c s₁ Bd hml0 hP hK
  obtain ⟨rfl, hZ, hh⟩ := hP
  have hx := Bd.exec
  have hby := Bd.bytes
  have hml : c.maxLocals = 8 := hml0
  have hown : s.vm.findClass "com/example/quorumline/quorumline/server/RatesAnyPinLaw" = some m.cls := findClass_of_methodNamed Bd.named
  have hnm := (name_of_methodNamed Bd.named Bd.method).1
  have X0 : Stand p l e room_1 s m #[(.int p1), (.int p2), (.int p3)] below meth c s₁ [] 0 0 := Stand.of_body Bd
  have e0 : s₁.heap = h0 := by rw [← hh, Bd.state]; rfl
  have N0 := Fr.nil n0
  have pre0 : ∀ t, Steps p.tables e below (s₁.setTop (mkF m 0 #[.val (.int p1), .val (.int p2), .val (.int p3), .unset, .unset, .unset, .unset, .unset] [])) t → Steps p.tables e below (s₁.setTop (entryFrame m #[(.int p1), (.int p2), (.int p3)] maxLocals)) t := fun t k => castTop (ef_rm0 m p1 p2 p3) k
  show own_Fin p e below _ _
  refine own_go pre0 ?_
  refine own_go (B := s₁.setTop (mkF m 1 #[.val (.int p1), .val (.int p2), .val (.int p3), .unset, .unset, .unset, .unset, .unset] [(.int p1)])) (fun t k => ?_) ?_
  · show Steps p.tables e below (s₁.setTop (mkF m 0 #[.val (.int p1), .val (.int p2), .val (.int p3), .unset, .unset, .unset, .unset, .unset] [])) t
    refine XS.iloadN X0.here hx rfl (hb hby at_0) rfl ?_
    exact k
  obtain ⟨_, _, ⟨T1, L1, k1, n1⟩, -, X1, ⟨Lc1, hQ1, l1, y1, z1⟩, st1⟩ := Jvm.LawKit.callS X0 hx (y := (⟨"com/example/quorumline/quorumline/server/RatesAnyPinLaw", "pick", "(I)I"⟩ : MethodName)) hown (mvT hZ (hw _ (List.mem_of_getElem? (i := 0) rfl))) (mvT hZ (hw _ (List.mem_of_getElem? (i := 1) rfl))) (mvT hZ (hw _ (List.mem_of_getElem? (i := 2) rfl))) (mvT hZ (hw _ (List.mem_of_getElem? (i := 3) rfl))) (by decide) (backOf (W := 0) (rm1 l Z a0 hw [] p1 h0 n0 Z0) hZ (hw _ (List.mem_of_getElem? (i := 3) rfl)) (hw _ (List.mem_of_getElem? (i := 2) rfl)) (by decide) (by decide)) (g := (mkF m 1 #[.val (.int p1), .val (.int p2), .val (.int p3), .unset, .unset, .unset, .unset, .unset] [(.int p1)])) rfl (by rw [hml]; rfl) (argsL := [(.int p1)]) (rest := []) (lenOf pd_rm0_0 rfl) rfl (by show 2 * 0 + _ ≤ _; exact Nat.le_of_eq rfl) (hb hby at_1) (fun _ _ => ⟨rfl, e0, (by decide : 0 + 0 ≤ _), (by decide : 0 + 0 ≤ _)⟩)
  dsimp only [Pt.U, Pt.locs, Pt.cells, Pt.slots] at X1 l1 y1 z1 st1 hQ1
  subst l1 y1 z1
  obtain ⟨rfl, N1q, hh1⟩ := hQ1
  have N1 := Fr.app N0 N1q
  refine own_go (fun t k => st1 t k) ?_
  refine own_go (B := T1.setTop (mkF m 5 #[.val (.int p1), .val (.int p2), .val (.int p3), .val (.int ((p1 &&& (2147483647 : Int32)) % (10 : Int32))), .unset, .unset, .unset, .unset] [])) (fun t k => ?_) ?_
  · show Steps p.tables e below (T1.setTop (mkF m 4 #[.val (.int p1), .val (.int p2), .val (.int p3), .unset, .unset, .unset, .unset, .unset] [(.int ((p1 &&& (2147483647 : Int32)) % (10 : Int32)))])) t
    refine XS.istoreN X1.here hx rfl (hb hby at_4) rfl (l' := #[.val (.int p1), .val (.int p2), .val (.int p3), .val (.int ((p1 &&& (2147483647 : Int32)) % (10 : Int32))), .unset, .unset, .unset, .unset]) rfl ?_
    exact k
  obtain ⟨ka, hka⟩ : ∃ z : Int32, z = ((p1 &&& (2147483647 : Int32)) % (10 : Int32)) := ⟨_, rfl⟩
  rw [← hka]
  refine own_go (B := T1.setTop (mkF m 6 #[.val (.int p1), .val (.int p2), .val (.int p3), .val (.int ka), .unset, .unset, .unset, .unset] [(.int p2)])) (fun t k => ?_) ?_
  · show Steps p.tables e below (T1.setTop (mkF m 5 #[.val (.int p1), .val (.int p2), .val (.int p3), .val (.int ka), .unset, .unset, .unset, .unset] [])) t
    refine XS.iloadN X1.here hx rfl (hb hby at_5) rfl ?_
    exact k
  obtain ⟨_, _, ⟨T2, L2, k2, n2⟩, -, X2, ⟨Lc2, hQ2, l2, y2, z2⟩, st2⟩ := Jvm.LawKit.callS X1 hx (y := (⟨"com/example/quorumline/quorumline/server/RatesAnyPinLaw", "pick", "(I)I"⟩ : MethodName)) hown (mvT hZ (hw _ (List.mem_of_getElem? (i := 0) rfl))) (mvT hZ (hw _ (List.mem_of_getElem? (i := 1) rfl))) (mvT hZ (hw _ (List.mem_of_getElem? (i := 2) rfl))) (mvT hZ (hw _ (List.mem_of_getElem? (i := 3) rfl))) (by decide) (backOf (W := 0) (rm1 l Z a0 hw [] p2 h0 n0 Z0) hZ (hw _ (List.mem_of_getElem? (i := 3) rfl)) (hw _ (List.mem_of_getElem? (i := 2) rfl)) (by decide) (by decide)) (g := (mkF m 6 #[.val (.int p1), .val (.int p2), .val (.int p3), .val (.int ka), .unset, .unset, .unset, .unset] [(.int p2)])) rfl (by rw [hml]; rfl) (argsL := [(.int p2)]) (rest := []) (lenOf pd_rm0_0 rfl) rfl (by show 2 * 0 + _ ≤ _; exact Nat.le_of_eq rfl) (hb hby at_6) (fun _ _ => ⟨rfl, hh1, (by decide : 0 + 0 ≤ _), (by decide : 0 + 0 ≤ _)⟩)
  dsimp only [Pt.U, Pt.locs, Pt.cells, Pt.slots] at X2 l2 y2 z2 st2 hQ2
  subst l2 y2 z2
  obtain ⟨rfl, N2q, hh2⟩ := hQ2
  have N2 := Fr.app N1 N2q
  refine own_go (fun t k => st2 t k) ?_
  refine own_go (B := T2.setTop (mkF m 11 #[.val (.int p1), .val (.int p2), .val (.int p3), .val (.int ka), .val (.int ((p2 &&& (2147483647 : Int32)) % (10 : Int32))), .unset, .unset, .unset] [])) (fun t k => ?_) ?_
  · show Steps p.tables e below (T2.setTop (mkF m 9 #[.val (.int p1), .val (.int p2), .val (.int p3), .val (.int ka), .unset, .unset, .unset, .unset] [(.int ((p2 &&& (2147483647 : Int32)) % (10 : Int32)))])) t
    refine XS.istore X2.here hx rfl (hb hby at_9) rfl (l' := #[.val (.int p1), .val (.int p2), .val (.int p3), .val (.int ka), .val (.int ((p2 &&& (2147483647 : Int32)) % (10 : Int32))), .unset, .unset, .unset]) rfl ?_
    exact k
  obtain ⟨kb, hkb⟩ : ∃ z : Int32, z = ((p2 &&& (2147483647 : Int32)) % (10 : Int32)) := ⟨_, rfl⟩
  rw [← hkb]
  refine own_go (B := T2.setTop (mkF m 12 #[.val (.int p1), .val (.int p2), .val (.int p3), .val (.int ka), .val (.int kb), .unset, .unset, .unset] [(.int p3)])) (fun t k => ?_) ?_
  · show Steps p.tables e below (T2.setTop (mkF m 11 #[.val (.int p1), .val (.int p2), .val (.int p3), .val (.int ka), .val (.int kb), .unset, .unset, .unset] [])) t
    refine XS.iloadN X2.here hx rfl (hb hby at_11) rfl ?_
    exact k
  obtain ⟨_, _, ⟨T3, L3, k3, n3⟩, -, X3, ⟨Lc3, hQ3, l3, y3, z3⟩, st3⟩ := Jvm.LawKit.callS X2 hx (y := (⟨"com/example/quorumline/quorumline/server/RatesAnyPinLaw", "pick", "(I)I"⟩ : MethodName)) hown (mvT hZ (hw _ (List.mem_of_getElem? (i := 0) rfl))) (mvT hZ (hw _ (List.mem_of_getElem? (i := 1) rfl))) (mvT hZ (hw _ (List.mem_of_getElem? (i := 2) rfl))) (mvT hZ (hw _ (List.mem_of_getElem? (i := 3) rfl))) (by decide) (backOf (W := 0) (rm1 l Z a0 hw [] p3 h0 n0 Z0) hZ (hw _ (List.mem_of_getElem? (i := 3) rfl)) (hw _ (List.mem_of_getElem? (i := 2) rfl)) (by decide) (by decide)) (g := (mkF m 12 #[.val (.int p1), .val (.int p2), .val (.int p3), .val (.int ka), .val (.int kb), .unset, .unset, .unset] [(.int p3)])) rfl (by rw [hml]; rfl) (argsL := [(.int p3)]) (rest := []) (lenOf pd_rm0_0 rfl) rfl (by show 2 * 0 + _ ≤ _; exact Nat.le_of_eq rfl) (hb hby at_12) (fun _ _ => ⟨rfl, hh2, (by decide : 0 + 0 ≤ _), (by decide : 0 + 0 ≤ _)⟩)
  dsimp only [Pt.U, Pt.locs, Pt.cells, Pt.slots] at X3 l3 y3 z3 st3 hQ3
  subst l3 y3 z3
  obtain ⟨rfl, N3q, hh3⟩ := hQ3
  have N3 := Fr.app N2 N3q
  refine own_go (fun t k => st3 t k) ?_
  refine own_go (B := T3.setTop (mkF m 17 #[.val (.int p1), .val (.int p2), .val (.int p3), .val (.int ka), .val (.int kb), .val (.int ((p3 &&& (2147483647 : Int32)) % (10 : Int32))), .unset, .unset] [])) (fun t k => ?_) ?_
  · show Steps p.tables e below (T3.setTop (mkF m 15 #[.val (.int p1), .val (.int p2), .val (.int p3), .val (.int ka), .val (.int kb), .unset, .unset, .unset] [(.int ((p3 &&& (2147483647 : Int32)) % (10 : Int32)))])) t
    refine XS.istore X3.here hx rfl (hb hby at_15) rfl (l' := #[.val (.int p1), .val (.int p2), .val (.int p3), .val (.int ka), .val (.int kb), .val (.int ((p3 &&& (2147483647 : Int32)) % (10 : Int32))), .unset, .unset]) rfl ?_
    exact k
  obtain ⟨kc, hkc⟩ : ∃ z : Int32, z = ((p3 &&& (2147483647 : Int32)) % (10 : Int32)) := ⟨_, rfl⟩
  rw [← hkc]
  have oa := own_rg hka
  have ob := own_rg hkb
  have oc := own_rg hkc
  obtain ⟨T4, h4, X4, e4, E4, A4, D4, -, st4⟩ := newO X3 hx hZ hown (hw _ (List.mem_of_getElem? (i := 5) rfl)) (hw _ (List.mem_of_getElem? (i := 6) rfl)) (hw _ (List.mem_of_getElem? (i := 7) rfl)) hh3 (g := (mkF m 17 #[.val (.int p1), .val (.int p2), .val (.int p3), .val (.int ka), .val (.int kb), .val (.int kc), .unset, .unset] [])) rfl (hb hby at_17) (by decide) (by decide)
  obtain ⟨b4, g4⟩ : ∃ z, z = h0.size := ⟨_, rfl⟩
  rw [← g4] at A4 D4 st4
  refine own_go (fun t k => st4 t k) ?_
  have g_b4 : n0 ≤ b4 := Nat.le_trans Z0 (Nat.le_of_eq g4.symm)
  have F4_loss : Fld Z h4 b4 "com/example/quorumline/quorumline/server/SeededFaults$Rates" "loss" "D" (.double (0 : UInt64)) := D4 (Or.inr (hw _ (List.mem_of_getElem? (i := 26) rfl))) (ty := .double) (by decide)
  have F4_duplicate : Fld Z h4 b4 "com/example/quorumline/quorumline/server/SeededFaults$Rates" "duplicate" "D" (.double (0 : UInt64)) := D4 (Or.inr (hw _ (List.mem_of_getElem? (i := 28) rfl))) (ty := .double) (by decide)
  have F4_reorder : Fld Z h4 b4 "com/example/quorumline/quorumline/server/SeededFaults$Rates" "reorder" "D" (.double (0 : UInt64)) := D4 (Or.inr (hw _ (List.mem_of_getElem? (i := 30) rfl))) (ty := .double) (by decide)
  refine own_go (B := T4.setTop (mkF m 22 #[.val (.int p1), .val (.int p2), .val (.int p3), .val (.int ka), .val (.int kb), .val (.int kc), .unset, .unset] [(.int ka), (.ref b4), (.ref b4)])) (fun t k => ?_) ?_
  · show Steps p.tables e below (T4.setTop (mkF m 20 #[.val (.int p1), .val (.int p2), .val (.int p3), .val (.int ka), .val (.int kb), .val (.int kc), .unset, .unset] [(.ref b4)])) t
    refine XS.dup X4.here hx rfl (hb hby at_20) rfl rfl ?_
    show Steps p.tables e below (T4.setTop (mkF m 21 #[.val (.int p1), .val (.int p2), .val (.int p3), .val (.int ka), .val (.int kb), .val (.int kc), .unset, .unset] [(.ref b4), (.ref b4)])) t
    refine XS.iloadN X4.here hx rfl (hb hby at_21) rfl ?_
    exact k
  obtain ⟨_, _, ⟨T5, L5, k5, n5⟩, -, X5, ⟨Lc5, hQ5, l5, y5, z5⟩, st5⟩ := Jvm.LawKit.callS X4 hx (y := (⟨"com/example/quorumline/quorumline/server/RatesAnyPinLaw", "rate", "(I)D"⟩ : MethodName)) hown (mvT hZ (hw _ (List.mem_of_getElem? (i := 8) rfl))) (mvT hZ (hw _ (List.mem_of_getElem? (i := 9) rfl))) (mvT hZ (hw _ (List.mem_of_getElem? (i := 2) rfl))) (mvT hZ (hw _ (List.mem_of_getElem? (i := 10) rfl))) (by decide) (backOf (W := 2) (rm2 l Z a0 hw [] ka h4 n0 (Nat.le_trans Z0 E4.1)) hZ (hw _ (List.mem_of_getElem? (i := 10) rfl)) (hw _ (List.mem_of_getElem? (i := 2) rfl)) (by decide) (by decide)) (g := (mkF m 22 #[.val (.int p1), .val (.int p2), .val (.int p3), .val (.int ka), .val (.int kb), .val (.int kc), .unset, .unset] [(.int ka), (.ref b4), (.ref b4)])) rfl (by rw [hml]; rfl) (argsL := [(.int ka)]) (rest := [(.ref b4), (.ref b4)]) (lenOf pd_rm0_1 rfl) rfl (by show 2 * 0 + _ ≤ _; exact Nat.le_of_eq rfl) (hb hby at_22) (fun _ _ => ⟨rfl, e4, (by decide : 1 + 0 ≤ _), (by decide : 3 + 0 ≤ _)⟩)
  dsimp only [Pt.U, Pt.locs, Pt.cells, Pt.slots] at X5 l5 y5 z5 st5 hQ5
  subst l5 y5 z5
  obtain ⟨rfl, N5q, hh5⟩ := hQ5
  have N5 := Fr.app N3 N5q
  refine own_go (fun t k => st5 t k) ?_
  refine own_go (B := T5.setTop (mkF m 27 #[.val (.int p1), .val (.int p2), .val (.int p3), .val (.int ka), .val (.int kb), .val (.int kc), .unset, .unset] [(.int kb), (.double (own_rate ka)), (.ref b4), (.ref b4)])) (fun t k => ?_) ?_
  · show Steps p.tables e below (T5.setTop (mkF m 25 #[.val (.int p1), .val (.int p2), .val (.int p3), .val (.int ka), .val (.int kb), .val (.int kc), .unset, .unset] [(.double (own_rate ka)), (.ref b4), (.ref b4)])) t
    refine XS.iload X5.here hx rfl (hb hby at_25) rfl ?_
    exact k
  obtain ⟨_, _, ⟨T6, L6, k6, n6⟩, -, X6, ⟨Lc6, hQ6, l6, y6, z6⟩, st6⟩ := Jvm.LawKit.callS X5 hx (y := (⟨"com/example/quorumline/quorumline/server/RatesAnyPinLaw", "rate", "(I)D"⟩ : MethodName)) hown (mvT hZ (hw _ (List.mem_of_getElem? (i := 8) rfl))) (mvT hZ (hw _ (List.mem_of_getElem? (i := 9) rfl))) (mvT hZ (hw _ (List.mem_of_getElem? (i := 2) rfl))) (mvT hZ (hw _ (List.mem_of_getElem? (i := 10) rfl))) (by decide) (backOf (W := 4) (rm2 l Z a0 hw [] kb h4 n0 (Nat.le_trans Z0 E4.1)) hZ (hw _ (List.mem_of_getElem? (i := 10) rfl)) (hw _ (List.mem_of_getElem? (i := 2) rfl)) (by decide) (by decide)) (g := (mkF m 27 #[.val (.int p1), .val (.int p2), .val (.int p3), .val (.int ka), .val (.int kb), .val (.int kc), .unset, .unset] [(.int kb), (.double (own_rate ka)), (.ref b4), (.ref b4)])) rfl (by rw [hml]; rfl) (argsL := [(.int kb)]) (rest := [(.double (own_rate ka)), (.ref b4), (.ref b4)]) (lenOf pd_rm0_1 rfl) rfl (by show 2 * 0 + _ ≤ _; exact Nat.le_of_eq rfl) (hb hby at_27) (fun _ _ => ⟨rfl, hh5, (by decide : 1 + 0 ≤ _), (by decide : 3 + 0 ≤ _)⟩)
  dsimp only [Pt.U, Pt.locs, Pt.cells, Pt.slots] at X6 l6 y6 z6 st6 hQ6
  subst l6 y6 z6
  obtain ⟨rfl, N6q, hh6⟩ := hQ6
  have N6 := Fr.app N5 N6q
  refine own_go (fun t k => st6 t k) ?_
  refine own_go (B := T6.setTop (mkF m 32 #[.val (.int p1), .val (.int p2), .val (.int p3), .val (.int ka), .val (.int kb), .val (.int kc), .unset, .unset] [(.int kc), (.double (own_rate kb)), (.double (own_rate ka)), (.ref b4), (.ref b4)])) (fun t k => ?_) ?_
  · show Steps p.tables e below (T6.setTop (mkF m 30 #[.val (.int p1), .val (.int p2), .val (.int p3), .val (.int ka), .val (.int kb), .val (.int kc), .unset, .unset] [(.double (own_rate kb)), (.double (own_rate ka)), (.ref b4), (.ref b4)])) t
    refine XS.iload X6.here hx rfl (hb hby at_30) rfl ?_
    exact k
  obtain ⟨_, _, ⟨T7, L7, k7, n7⟩, -, X7, ⟨Lc7, hQ7, l7, y7, z7⟩, st7⟩ := Jvm.LawKit.callS X6 hx (y := (⟨"com/example/quorumline/quorumline/server/RatesAnyPinLaw", "rate", "(I)D"⟩ : MethodName)) hown (mvT hZ (hw _ (List.mem_of_getElem? (i := 8) rfl))) (mvT hZ (hw _ (List.mem_of_getElem? (i := 9) rfl))) (mvT hZ (hw _ (List.mem_of_getElem? (i := 2) rfl))) (mvT hZ (hw _ (List.mem_of_getElem? (i := 10) rfl))) (by decide) (backOf (W := 6) (rm2 l Z a0 hw [] kc h4 n0 (Nat.le_trans Z0 E4.1)) hZ (hw _ (List.mem_of_getElem? (i := 10) rfl)) (hw _ (List.mem_of_getElem? (i := 2) rfl)) (by decide) (by decide)) (g := (mkF m 32 #[.val (.int p1), .val (.int p2), .val (.int p3), .val (.int ka), .val (.int kb), .val (.int kc), .unset, .unset] [(.int kc), (.double (own_rate kb)), (.double (own_rate ka)), (.ref b4), (.ref b4)])) rfl (by rw [hml]; rfl) (argsL := [(.int kc)]) (rest := [(.double (own_rate kb)), (.double (own_rate ka)), (.ref b4), (.ref b4)]) (lenOf pd_rm0_1 rfl) rfl (by show 2 * 0 + _ ≤ _; exact Nat.le_of_eq rfl) (hb hby at_32) (fun _ _ => ⟨rfl, hh6, (by decide : 1 + 0 ≤ _), (by decide : 3 + 0 ≤ _)⟩)
  dsimp only [Pt.U, Pt.locs, Pt.cells, Pt.slots] at X7 l7 y7 z7 st7 hQ7
  subst l7 y7 z7
  obtain ⟨rfl, N7q, hh7⟩ := hQ7
  have N7 := Fr.app N6 N7q
  refine own_go (fun t k => st7 t k) ?_
  obtain ⟨_, _, ⟨T8, L8, k8, n8⟩, -, X8, ⟨Lc8, hQ8, l8, y8, z8⟩, st8⟩ := X7.specialBack hx (y := (⟨"com/example/quorumline/quorumline/server/SeededFaults$Rates", "<init>", "(DDD)V"⟩ : MethodName)) rfl hown (mvT hZ (hw _ (List.mem_of_getElem? (i := 12) rfl))) (mvT hZ (hw _ (List.mem_of_getElem? (i := 13) rfl))) (mvT hZ (hw _ (List.mem_of_getElem? (i := 14) rfl))) (by decide) (backOf (W := 1) (rm3 l Z a0 hw [] b4 (own_rate ka) (own_rate kb) (own_rate kc) _ _ _ h4 n0 (Nat.le_trans Z0 E4.1) A4 F4_loss F4_duplicate F4_reorder g_b4 oa.1 ob.1 oc.1) hZ (hw _ (List.mem_of_getElem? (i := 14) rfl)) (hw _ (List.mem_of_getElem? (i := 7) rfl)) (by decide) (by decide)) (g := (mkF m 35 #[.val (.int p1), .val (.int p2), .val (.int p3), .val (.int ka), .val (.int kb), .val (.int kc), .unset, .unset] [(.double (own_rate kc)), (.double (own_rate kb)), (.double (own_rate ka)), (.ref b4), (.ref b4)])) rfl (by rw [hml]; rfl) (Steps.refl _) (a := b4) (argsL := [(.double (own_rate ka)), (.double (own_rate kb)), (.double (own_rate kc))]) (rest := [(.ref b4)]) (lenOf pd_rm0_2 rfl) rfl (by show 2 * 0 + _ ≤ _; exact Nat.le_of_eq rfl) (hb hby at_35) (fun _ _ => ⟨rfl, hh7, (by decide : 1 + 1 ≤ _), (by decide : 3 + 3 ≤ _)⟩)
  dsimp only [Pt.U, Pt.locs, Pt.cells, Pt.slots] at X8 l8 y8 z8 st8 hQ8
  subst l8 y8 z8
  obtain ⟨rfl, N8q, K8, -, G0_8, G1_8, G2_8⟩ := hQ8
  have N8 := Fr.app N7 N8q
  refine own_go (fun t k => st8.trans k) ?_
  have f8_0 := A4.keep K8
  refine own_go (B := T8.setTop (mkF m 41 #[.val (.int p1), .val (.int p2), .val (.int p3), .val (.int ka), .val (.int kb), .val (.int kc), .val (.ref b4), .unset] [(.int ka)])) (fun t k => ?_) ?_
  · show Steps p.tables e below (T8.setTop (mkF m 38 #[.val (.int p1), .val (.int p2), .val (.int p3), .val (.int ka), .val (.int kb), .val (.int kc), .unset, .unset] [(.ref b4)])) t
    refine XS.astore X8.here hx rfl (hb hby at_38) rfl rfl (l' := #[.val (.int p1), .val (.int p2), .val (.int p3), .val (.int ka), .val (.int kb), .val (.int kc), .val (.ref b4), .unset]) rfl ?_
    show Steps p.tables e below (T8.setTop (mkF m 40 #[.val (.int p1), .val (.int p2), .val (.int p3), .val (.int ka), .val (.int kb), .val (.int kc), .val (.ref b4), .unset] [])) t
    refine XS.iloadN X8.here hx rfl (hb hby at_40) rfl ?_
    exact k
  obtain ⟨_, _, ⟨T9, L9, k9, n9⟩, -, X9, ⟨Lc9, hQ9, l9, y9, z9⟩, st9⟩ := Jvm.LawKit.callS X8 hx (y := (⟨"com/example/quorumline/quorumline/server/RatesAnyPinLaw", "positive", "(I)Z"⟩ : MethodName)) hown (mvT hZ (hw _ (List.mem_of_getElem? (i := 31) rfl))) (mvT hZ (hw _ (List.mem_of_getElem? (i := 32) rfl))) (mvT hZ (hw _ (List.mem_of_getElem? (i := 2) rfl))) (mvT hZ (hw _ (List.mem_of_getElem? (i := 33) rfl))) (by decide) (backOf (W := 0) (rm6 l Z a0 hw [] ka T8.heap n0 (Nat.le_trans (Nat.le_trans Z0 E4.1) K8.1)) hZ (hw _ (List.mem_of_getElem? (i := 33) rfl)) (hw _ (List.mem_of_getElem? (i := 2) rfl)) (by decide) (by decide)) (g := (mkF m 41 #[.val (.int p1), .val (.int p2), .val (.int p3), .val (.int ka), .val (.int kb), .val (.int kc), .val (.ref b4), .unset] [(.int ka)])) rfl (by rw [hml]; rfl) (argsL := [(.int ka)]) (rest := []) (lenOf pd_rm0_3 rfl) rfl (by show 2 * 0 + _ ≤ _; exact Nat.le_of_eq rfl) (hb hby at_41) (fun _ _ => ⟨rfl, rfl, (by decide : 2 + 0 ≤ _), (by decide : 6 + 0 ≤ _)⟩)
  dsimp only [Pt.U, Pt.locs, Pt.cells, Pt.slots] at X9 l9 y9 z9 st9 hQ9
  subst l9 y9 z9
  obtain ⟨r9, rfl, N9q, hh9, hr9⟩ := hQ9
  have N9 := Fr.app N8 N9q
  refine own_go (fun t k => st9 t k) ?_
  by_cases hc44_10 : r9 = (0 : Int32)
  · refine own_go (B := T9.setTop (mkF m 47 #[.val (.int p1), .val (.int p2), .val (.int p3), .val (.int ka), .val (.int kb), .val (.int kc), .val (.ref b4), .unset] [])) (fun t k => ?_) ?_
    · show Steps p.tables e below (T9.setTop (mkF m 44 #[.val (.int p1), .val (.int p2), .val (.int p3), .val (.int ka), .val (.int kb), .val (.int kc), .val (.ref b4), .unset] [(.int r9)])) t
      refine XS.ifNo X9.here hx rfl (hb hby at_44) rfl ((if0 _ _).trans (teq hc44_10).2) ?_
      exact k
    refine own_go (B := T9.setTop (mkF m 49 #[.val (.int p1), .val (.int p2), .val (.int p3), .val (.int ka), .val (.int kb), .val (.int kc), .val (.ref b4), .unset] [(.int kb)])) (fun t k => ?_) ?_
    · show Steps p.tables e below (T9.setTop (mkF m 47 #[.val (.int p1), .val (.int p2), .val (.int p3), .val (.int ka), .val (.int kb), .val (.int kc), .val (.ref b4), .unset] [])) t
      refine XS.iload X9.here hx rfl (hb hby at_47) rfl ?_
      exact k
    obtain ⟨_, _, ⟨T11, L11, k11, n11⟩, -, X11, ⟨Lc11, hQ11, l11, y11, z11⟩, st11⟩ := Jvm.LawKit.callS X9 hx (y := (⟨"com/example/quorumline/quorumline/server/RatesAnyPinLaw", "positive", "(I)Z"⟩ : MethodName)) hown (mvT hZ (hw _ (List.mem_of_getElem? (i := 31) rfl))) (mvT hZ (hw _ (List.mem_of_getElem? (i := 32) rfl))) (mvT hZ (hw _ (List.mem_of_getElem? (i := 2) rfl))) (mvT hZ (hw _ (List.mem_of_getElem? (i := 33) rfl))) (by decide) (backOf (W := 0) (rm6 l Z a0 hw [] kb T8.heap n0 (Nat.le_trans (Nat.le_trans Z0 E4.1) K8.1)) hZ (hw _ (List.mem_of_getElem? (i := 33) rfl)) (hw _ (List.mem_of_getElem? (i := 2) rfl)) (by decide) (by decide)) (g := (mkF m 49 #[.val (.int p1), .val (.int p2), .val (.int p3), .val (.int ka), .val (.int kb), .val (.int kc), .val (.ref b4), .unset] [(.int kb)])) rfl (by rw [hml]; rfl) (argsL := [(.int kb)]) (rest := []) (lenOf pd_rm0_3 rfl) rfl (by show 2 * 0 + _ ≤ _; exact Nat.le_of_eq rfl) (hb hby at_49) (fun _ _ => ⟨rfl, hh9, (by decide : 2 + 0 ≤ _), (by decide : 6 + 0 ≤ _)⟩)
    dsimp only [Pt.U, Pt.locs, Pt.cells, Pt.slots] at X11 l11 y11 z11 st11 hQ11
    subst l11 y11 z11
    obtain ⟨r11, rfl, N11q, hh11, hr11⟩ := hQ11
    have N11 := Fr.app N9 N11q
    refine own_go (fun t k => st11 t k) ?_
    by_cases hc52_12 : r11 = (0 : Int32)
    · refine own_go (B := T11.setTop (mkF m 55 #[.val (.int p1), .val (.int p2), .val (.int p3), .val (.int ka), .val (.int kb), .val (.int kc), .val (.ref b4), .unset] [])) (fun t k => ?_) ?_
      · show Steps p.tables e below (T11.setTop (mkF m 52 #[.val (.int p1), .val (.int p2), .val (.int p3), .val (.int ka), .val (.int kb), .val (.int kc), .val (.ref b4), .unset] [(.int r11)])) t
        refine XS.ifNo X11.here hx rfl (hb hby at_52) rfl ((if0 _ _).trans (teq hc52_12).2) ?_
        exact k
      refine own_go (B := T11.setTop (mkF m 57 #[.val (.int p1), .val (.int p2), .val (.int p3), .val (.int ka), .val (.int kb), .val (.int kc), .val (.ref b4), .unset] [(.int kc)])) (fun t k => ?_) ?_
      · show Steps p.tables e below (T11.setTop (mkF m 55 #[.val (.int p1), .val (.int p2), .val (.int p3), .val (.int ka), .val (.int kb), .val (.int kc), .val (.ref b4), .unset] [])) t
        refine XS.iload X11.here hx rfl (hb hby at_55) rfl ?_
        exact k
      obtain ⟨_, _, ⟨T13, L13, k13, n13⟩, -, X13, ⟨Lc13, hQ13, l13, y13, z13⟩, st13⟩ := Jvm.LawKit.callS X11 hx (y := (⟨"com/example/quorumline/quorumline/server/RatesAnyPinLaw", "positive", "(I)Z"⟩ : MethodName)) hown (mvT hZ (hw _ (List.mem_of_getElem? (i := 31) rfl))) (mvT hZ (hw _ (List.mem_of_getElem? (i := 32) rfl))) (mvT hZ (hw _ (List.mem_of_getElem? (i := 2) rfl))) (mvT hZ (hw _ (List.mem_of_getElem? (i := 33) rfl))) (by decide) (backOf (W := 0) (rm6 l Z a0 hw [] kc T8.heap n0 (Nat.le_trans (Nat.le_trans Z0 E4.1) K8.1)) hZ (hw _ (List.mem_of_getElem? (i := 33) rfl)) (hw _ (List.mem_of_getElem? (i := 2) rfl)) (by decide) (by decide)) (g := (mkF m 57 #[.val (.int p1), .val (.int p2), .val (.int p3), .val (.int ka), .val (.int kb), .val (.int kc), .val (.ref b4), .unset] [(.int kc)])) rfl (by rw [hml]; rfl) (argsL := [(.int kc)]) (rest := []) (lenOf pd_rm0_3 rfl) rfl (by show 2 * 0 + _ ≤ _; exact Nat.le_of_eq rfl) (hb hby at_57) (fun _ _ => ⟨rfl, hh11, (by decide : 2 + 0 ≤ _), (by decide : 6 + 0 ≤ _)⟩)
      dsimp only [Pt.U, Pt.locs, Pt.cells, Pt.slots] at X13 l13 y13 z13 st13 hQ13
      subst l13 y13 z13
      obtain ⟨r13, rfl, N13q, hh13, hr13⟩ := hQ13
      have N13 := Fr.app N11 N13q
      refine own_go (fun t k => st13 t k) ?_
      by_cases hc60_14 : r13 = (0 : Int32)
      · refine own_go (B := T13.setTop (mkF m 67 #[.val (.int p1), .val (.int p2), .val (.int p3), .val (.int ka), .val (.int kb), .val (.int kc), .val (.ref b4), .unset] [])) (fun t k => ?_) ?_
        · show Steps p.tables e below (T13.setTop (mkF m 60 #[.val (.int p1), .val (.int p2), .val (.int p3), .val (.int ka), .val (.int kb), .val (.int kc), .val (.ref b4), .unset] [(.int r13)])) t
          refine XS.ifYes X13.here hx rfl (pc0 := 60) (pc' := 67) rfl (hb hby at_60) rfl ((if0 _ _).trans (teq hc60_14).1) (by decide) (by decide) ?_
          exact k
        refine own_go (B := T13.setTop (mkF m 72 #[.val (.int p1), .val (.int p2), .val (.int p3), .val (.int ka), .val (.int kb), .val (.int kc), .val (.ref b4), .val (.int (0 : Int32))] [(.ref b4)])) (fun t k => ?_) ?_
        · show Steps p.tables e below (T13.setTop (mkF m 67 #[.val (.int p1), .val (.int p2), .val (.int p3), .val (.int ka), .val (.int kb), .val (.int kc), .val (.ref b4), .unset] [])) t
          refine XS.iconst X13.here hx rfl (hb hby at_67) ?_
          show Steps p.tables e below (T13.setTop (mkF m 68 #[.val (.int p1), .val (.int p2), .val (.int p3), .val (.int ka), .val (.int kb), .val (.int kc), .val (.ref b4), .unset] [(.int (0 : Int32))])) t
          refine XS.istore X13.here hx rfl (hb hby at_68) rfl (l' := #[.val (.int p1), .val (.int p2), .val (.int p3), .val (.int ka), .val (.int kb), .val (.int kc), .val (.ref b4), .val (.int (0 : Int32))]) rfl ?_
          show Steps p.tables e below (T13.setTop (mkF m 70 #[.val (.int p1), .val (.int p2), .val (.int p3), .val (.int ka), .val (.int kb), .val (.int kc), .val (.ref b4), .val (.int (0 : Int32))] [])) t
          refine XS.aload X13.here hx rfl (hb hby at_70) rfl rfl ?_
          exact k
        obtain ⟨cq15, kq15, q15a, q15b, q15c⟩ := isOf hZ hh13 f8_0
        obtain ⟨_, _, ⟨T15, L15, k15, n15⟩, -, X15, ⟨Lc15, hQ15, l15, y15, z15⟩, st15⟩ := X13.virtualBack hx (y := (⟨"com/example/quorumline/quorumline/server/SeededFaults$Rates", "any", "()Z"⟩ : MethodName)) (z := (⟨"com/example/quorumline/quorumline/server/SeededFaults$Rates", "any", "()Z"⟩ : MethodName)) hown (mvT hZ (hw _ (List.mem_of_getElem? (i := 34) rfl))) (mvT hZ (hw _ (List.mem_of_getElem? (i := 35) rfl))) (notFace_of_selects (args := #[]) (mvT hZ (hw _ (List.mem_of_getElem? (i := 37) rfl)))) (mvT hZ (hw _ (List.mem_of_getElem? (i := 37) rfl))) (mvT hZ (hw _ (List.mem_of_getElem? (i := 36) rfl))) (by decide) (backOf (W := 0) (rm7 l Z a0 hw [] b4 (own_rate ka) (own_rate kb) (own_rate kc) T8.heap n0 (Nat.le_trans (Nat.le_trans Z0 E4.1) K8.1) G0_8 G1_8 G2_8) hZ (hw _ (List.mem_of_getElem? (i := 38) rfl)) (hw _ (List.mem_of_getElem? (i := 7) rfl)) (by decide) (by decide)) q15a q15c (g := (mkF m 72 #[.val (.int p1), .val (.int p2), .val (.int p3), .val (.int ka), .val (.int kb), .val (.int kc), .val (.ref b4), .val (.int (0 : Int32))] [(.ref b4)])) rfl (by rw [hml]; rfl) (Steps.refl _) (argsL := []) (rest := []) (lenOf pd_rm0_4 rfl) rfl (by show 2 * 0 + _ ≤ _; exact Nat.le_of_eq rfl) (hb hby at_72) (fun _ _ => ⟨rfl, hh13, (by decide : 2 + 0 ≤ _), (by decide : 6 + 0 ≤ _)⟩)
        dsimp only [Pt.U, Pt.locs, Pt.cells, Pt.slots] at X15 l15 y15 z15 st15 hQ15
        subst l15 y15 z15
        obtain ⟨r15, rfl, N15q, hh15, hr15⟩ := hQ15
        have N15 := Fr.app N13 N15q
        refine own_go (fun t k => st15.trans k) ?_
        have hy := own_any oa.2 ob.2 oc.2 hr15
        refine own_go (B := T15.setTop (mkF m 85 #[.val (.int p1), .val (.int p2), .val (.int p3), .val (.int ka), .val (.int kb), .val (.int kc), .val (.ref b4), .val (.int (0 : Int32))] [(.int (1 : Int32))])) (fun t k => ?_) ?_
        · show Steps p.tables e below (T15.setTop (mkF m 75 #[.val (.int p1), .val (.int p2), .val (.int p3), .val (.int ka), .val (.int kb), .val (.int kc), .val (.ref b4), .val (.int (0 : Int32))] [(.int r15)])) t
          refine XS.iload X15.here hx rfl (hb hby at_75) rfl ?_
          show Steps p.tables e below (T15.setTop (mkF m 77 #[.val (.int p1), .val (.int p2), .val (.int p3), .val (.int ka), .val (.int kb), .val (.int kc), .val (.ref b4), .val (.int (0 : Int32))] [(.int (0 : Int32)), (.int r15)])) t
          refine XS.icmpNo X15.here hx rfl (hb hby at_77) rfl (teq (hy.2 (hr9.symm.trans hc44_10) (hr11.symm.trans hc52_12) (hr13.symm.trans hc60_14) : r15 = (0 : Int32))).2 ?_
          show Steps p.tables e below (T15.setTop (mkF m 80 #[.val (.int p1), .val (.int p2), .val (.int p3), .val (.int ka), .val (.int kb), .val (.int kc), .val (.ref b4), .val (.int (0 : Int32))] [])) t
          refine XS.iconst X15.here hx rfl (hb hby at_80) ?_
          show Steps p.tables e below (T15.setTop (mkF m 81 #[.val (.int p1), .val (.int p2), .val (.int p3), .val (.int ka), .val (.int kb), .val (.int kc), .val (.ref b4), .val (.int (0 : Int32))] [(.int (1 : Int32))])) t
          refine XS.goto X15.here hx rfl (pc0 := 81) (pc' := 85) rfl (hb hby at_81) (by decide) (by decide) ?_
          exact k
        obtain ⟨fs, hr, hrun, hended, hW, hsame⟩ := X15.leave (v := some (.int (1 : Int32))) (fun h => by rw [Bd.returns] at h; cases h)
        refine ⟨_, _, ?_, hrun, hended, _, _, rfl, ?_, ⟨_, rfl⟩, hW, hsame.mono (by decide) (by decide)⟩
        · show Steps p.tables e below (T15.setTop (mkF m 85 #[.val (.int p1), .val (.int p2), .val (.int p3), .val (.int ka), .val (.int kb), .val (.int kc), .val (.ref b4), .val (.int (0 : Int32))] [(.int (1 : Int32))])) _
          exact retN X15 hx (t := .boolean) Bd.returns (by simp) (hb hby at_85) hr
        · show Q0 Z p1 p2 p3 h0 n0 _ T15.heap _
          rw [hh15]
          exact ⟨rfl, N15⟩
      · refine own_go (B := T13.setTop (mkF m 63 #[.val (.int p1), .val (.int p2), .val (.int p3), .val (.int ka), .val (.int kb), .val (.int kc), .val (.ref b4), .unset] [])) (fun t k => ?_) ?_
        · show Steps p.tables e below (T13.setTop (mkF m 60 #[.val (.int p1), .val (.int p2), .val (.int p3), .val (.int ka), .val (.int kb), .val (.int kc), .val (.ref b4), .unset] [(.int r13)])) t
          refine XS.ifNo X13.here hx rfl (hb hby at_60) rfl ((if0 _ _).trans (feq hc60_14).1) ?_
          exact k
        refine own_go (B := T13.setTop (mkF m 72 #[.val (.int p1), .val (.int p2), .val (.int p3), .val (.int ka), .val (.int kb), .val (.int kc), .val (.ref b4), .val (.int (1 : Int32))] [(.ref b4)])) (fun t k => ?_) ?_
        · show Steps p.tables e below (T13.setTop (mkF m 63 #[.val (.int p1), .val (.int p2), .val (.int p3), .val (.int ka), .val (.int kb), .val (.int kc), .val (.ref b4), .unset] [])) t
          refine XS.iconst X13.here hx rfl (hb hby at_63) ?_
          show Steps p.tables e below (T13.setTop (mkF m 64 #[.val (.int p1), .val (.int p2), .val (.int p3), .val (.int ka), .val (.int kb), .val (.int kc), .val (.ref b4), .unset] [(.int (1 : Int32))])) t
          refine XS.goto X13.here hx rfl (pc0 := 64) (pc' := 68) rfl (hb hby at_64) (by decide) (by decide) ?_
          show Steps p.tables e below (T13.setTop (mkF m 68 #[.val (.int p1), .val (.int p2), .val (.int p3), .val (.int ka), .val (.int kb), .val (.int kc), .val (.ref b4), .unset] [(.int (1 : Int32))])) t
          refine XS.istore X13.here hx rfl (hb hby at_68) rfl (l' := #[.val (.int p1), .val (.int p2), .val (.int p3), .val (.int ka), .val (.int kb), .val (.int kc), .val (.ref b4), .val (.int (1 : Int32))]) rfl ?_
          show Steps p.tables e below (T13.setTop (mkF m 70 #[.val (.int p1), .val (.int p2), .val (.int p3), .val (.int ka), .val (.int kb), .val (.int kc), .val (.ref b4), .val (.int (1 : Int32))] [])) t
          refine XS.aload X13.here hx rfl (hb hby at_70) rfl rfl ?_
          exact k
        obtain ⟨cq16, kq16, q16a, q16b, q16c⟩ := isOf hZ hh13 f8_0
        obtain ⟨_, _, ⟨T16, L16, k16, n16⟩, -, X16, ⟨Lc16, hQ16, l16, y16, z16⟩, st16⟩ := X13.virtualBack hx (y := (⟨"com/example/quorumline/quorumline/server/SeededFaults$Rates", "any", "()Z"⟩ : MethodName)) (z := (⟨"com/example/quorumline/quorumline/server/SeededFaults$Rates", "any", "()Z"⟩ : MethodName)) hown (mvT hZ (hw _ (List.mem_of_getElem? (i := 34) rfl))) (mvT hZ (hw _ (List.mem_of_getElem? (i := 35) rfl))) (notFace_of_selects (args := #[]) (mvT hZ (hw _ (List.mem_of_getElem? (i := 37) rfl)))) (mvT hZ (hw _ (List.mem_of_getElem? (i := 37) rfl))) (mvT hZ (hw _ (List.mem_of_getElem? (i := 36) rfl))) (by decide) (backOf (W := 0) (rm7 l Z a0 hw [] b4 (own_rate ka) (own_rate kb) (own_rate kc) T8.heap n0 (Nat.le_trans (Nat.le_trans Z0 E4.1) K8.1) G0_8 G1_8 G2_8) hZ (hw _ (List.mem_of_getElem? (i := 38) rfl)) (hw _ (List.mem_of_getElem? (i := 7) rfl)) (by decide) (by decide)) q16a q16c (g := (mkF m 72 #[.val (.int p1), .val (.int p2), .val (.int p3), .val (.int ka), .val (.int kb), .val (.int kc), .val (.ref b4), .val (.int (1 : Int32))] [(.ref b4)])) rfl (by rw [hml]; rfl) (Steps.refl _) (argsL := []) (rest := []) (lenOf pd_rm0_4 rfl) rfl (by show 2 * 0 + _ ≤ _; exact Nat.le_of_eq rfl) (hb hby at_72) (fun _ _ => ⟨rfl, hh13, (by decide : 2 + 0 ≤ _), (by decide : 6 + 0 ≤ _)⟩)
        dsimp only [Pt.U, Pt.locs, Pt.cells, Pt.slots] at X16 l16 y16 z16 st16 hQ16
        subst l16 y16 z16
        obtain ⟨r16, rfl, N16q, hh16, hr16⟩ := hQ16
        have N16 := Fr.app N13 N16q
        refine own_go (fun t k => st16.trans k) ?_
        have hy := own_any oa.2 ob.2 oc.2 hr16
        refine own_go (B := T16.setTop (mkF m 85 #[.val (.int p1), .val (.int p2), .val (.int p3), .val (.int ka), .val (.int kb), .val (.int kc), .val (.ref b4), .val (.int (1 : Int32))] [(.int (1 : Int32))])) (fun t k => ?_) ?_
        · show Steps p.tables e below (T16.setTop (mkF m 75 #[.val (.int p1), .val (.int p2), .val (.int p3), .val (.int ka), .val (.int kb), .val (.int kc), .val (.ref b4), .val (.int (1 : Int32))] [(.int r16)])) t
          refine XS.iload X16.here hx rfl (hb hby at_75) rfl ?_
          show Steps p.tables e below (T16.setTop (mkF m 77 #[.val (.int p1), .val (.int p2), .val (.int p3), .val (.int ka), .val (.int kb), .val (.int kc), .val (.ref b4), .val (.int (1 : Int32))] [(.int (1 : Int32)), (.int r16)])) t
          refine XS.icmpNo X16.here hx rfl (hb hby at_77) rfl (teq (hy.1 (Or.inr (Or.inr (fun z => hc60_14 (hr13.trans z)))) : r16 = (1 : Int32))).2 ?_
          show Steps p.tables e below (T16.setTop (mkF m 80 #[.val (.int p1), .val (.int p2), .val (.int p3), .val (.int ka), .val (.int kb), .val (.int kc), .val (.ref b4), .val (.int (1 : Int32))] [])) t
          refine XS.iconst X16.here hx rfl (hb hby at_80) ?_
          show Steps p.tables e below (T16.setTop (mkF m 81 #[.val (.int p1), .val (.int p2), .val (.int p3), .val (.int ka), .val (.int kb), .val (.int kc), .val (.ref b4), .val (.int (1 : Int32))] [(.int (1 : Int32))])) t
          refine XS.goto X16.here hx rfl (pc0 := 81) (pc' := 85) rfl (hb hby at_81) (by decide) (by decide) ?_
          exact k
        obtain ⟨fs, hr, hrun, hended, hW, hsame⟩ := X16.leave (v := some (.int (1 : Int32))) (fun h => by rw [Bd.returns] at h; cases h)
        refine ⟨_, _, ?_, hrun, hended, _, _, rfl, ?_, ⟨_, rfl⟩, hW, hsame.mono (by decide) (by decide)⟩
        · show Steps p.tables e below (T16.setTop (mkF m 85 #[.val (.int p1), .val (.int p2), .val (.int p3), .val (.int ka), .val (.int kb), .val (.int kc), .val (.ref b4), .val (.int (1 : Int32))] [(.int (1 : Int32))])) _
          exact retN X16 hx (t := .boolean) Bd.returns (by simp) (hb hby at_85) hr
        · show Q0 Z p1 p2 p3 h0 n0 _ T16.heap _
          rw [hh16]
          exact ⟨rfl, N16⟩
    · refine own_go (B := T11.setTop (mkF m 63 #[.val (.int p1), .val (.int p2), .val (.int p3), .val (.int ka), .val (.int kb), .val (.int kc), .val (.ref b4), .unset] [])) (fun t k => ?_) ?_
      · show Steps p.tables e below (T11.setTop (mkF m 52 #[.val (.int p1), .val (.int p2), .val (.int p3), .val (.int ka), .val (.int kb), .val (.int kc), .val (.ref b4), .unset] [(.int r11)])) t
        refine XS.ifYes X11.here hx rfl (pc0 := 52) (pc' := 63) rfl (hb hby at_52) rfl ((if0 _ _).trans (feq hc52_12).2) (by decide) (by decide) ?_
        exact k
      refine own_go (B := T11.setTop (mkF m 72 #[.val (.int p1), .val (.int p2), .val (.int p3), .val (.int ka), .val (.int kb), .val (.int kc), .val (.ref b4), .val (.int (1 : Int32))] [(.ref b4)])) (fun t k => ?_) ?_
      · show Steps p.tables e below (T11.setTop (mkF m 63 #[.val (.int p1), .val (.int p2), .val (.int p3), .val (.int ka), .val (.int kb), .val (.int kc), .val (.ref b4), .unset] [])) t
        refine XS.iconst X11.here hx rfl (hb hby at_63) ?_
        show Steps p.tables e below (T11.setTop (mkF m 64 #[.val (.int p1), .val (.int p2), .val (.int p3), .val (.int ka), .val (.int kb), .val (.int kc), .val (.ref b4), .unset] [(.int (1 : Int32))])) t
        refine XS.goto X11.here hx rfl (pc0 := 64) (pc' := 68) rfl (hb hby at_64) (by decide) (by decide) ?_
        show Steps p.tables e below (T11.setTop (mkF m 68 #[.val (.int p1), .val (.int p2), .val (.int p3), .val (.int ka), .val (.int kb), .val (.int kc), .val (.ref b4), .unset] [(.int (1 : Int32))])) t
        refine XS.istore X11.here hx rfl (hb hby at_68) rfl (l' := #[.val (.int p1), .val (.int p2), .val (.int p3), .val (.int ka), .val (.int kb), .val (.int kc), .val (.ref b4), .val (.int (1 : Int32))]) rfl ?_
        show Steps p.tables e below (T11.setTop (mkF m 70 #[.val (.int p1), .val (.int p2), .val (.int p3), .val (.int ka), .val (.int kb), .val (.int kc), .val (.ref b4), .val (.int (1 : Int32))] [])) t
        refine XS.aload X11.here hx rfl (hb hby at_70) rfl rfl ?_
        exact k
      obtain ⟨cq17, kq17, q17a, q17b, q17c⟩ := isOf hZ hh11 f8_0
      obtain ⟨_, _, ⟨T17, L17, k17, n17⟩, -, X17, ⟨Lc17, hQ17, l17, y17, z17⟩, st17⟩ := X11.virtualBack hx (y := (⟨"com/example/quorumline/quorumline/server/SeededFaults$Rates", "any", "()Z"⟩ : MethodName)) (z := (⟨"com/example/quorumline/quorumline/server/SeededFaults$Rates", "any", "()Z"⟩ : MethodName)) hown (mvT hZ (hw _ (List.mem_of_getElem? (i := 34) rfl))) (mvT hZ (hw _ (List.mem_of_getElem? (i := 35) rfl))) (notFace_of_selects (args := #[]) (mvT hZ (hw _ (List.mem_of_getElem? (i := 37) rfl)))) (mvT hZ (hw _ (List.mem_of_getElem? (i := 37) rfl))) (mvT hZ (hw _ (List.mem_of_getElem? (i := 36) rfl))) (by decide) (backOf (W := 0) (rm7 l Z a0 hw [] b4 (own_rate ka) (own_rate kb) (own_rate kc) T8.heap n0 (Nat.le_trans (Nat.le_trans Z0 E4.1) K8.1) G0_8 G1_8 G2_8) hZ (hw _ (List.mem_of_getElem? (i := 38) rfl)) (hw _ (List.mem_of_getElem? (i := 7) rfl)) (by decide) (by decide)) q17a q17c (g := (mkF m 72 #[.val (.int p1), .val (.int p2), .val (.int p3), .val (.int ka), .val (.int kb), .val (.int kc), .val (.ref b4), .val (.int (1 : Int32))] [(.ref b4)])) rfl (by rw [hml]; rfl) (Steps.refl _) (argsL := []) (rest := []) (lenOf pd_rm0_4 rfl) rfl (by show 2 * 0 + _ ≤ _; exact Nat.le_of_eq rfl) (hb hby at_72) (fun _ _ => ⟨rfl, hh11, (by decide : 2 + 0 ≤ _), (by decide : 6 + 0 ≤ _)⟩)
      dsimp only [Pt.U, Pt.locs, Pt.cells, Pt.slots] at X17 l17 y17 z17 st17 hQ17
      subst l17 y17 z17
      obtain ⟨r17, rfl, N17q, hh17, hr17⟩ := hQ17
      have N17 := Fr.app N11 N17q
      refine own_go (fun t k => st17.trans k) ?_
      have hy := own_any oa.2 ob.2 oc.2 hr17
      refine own_go (B := T17.setTop (mkF m 85 #[.val (.int p1), .val (.int p2), .val (.int p3), .val (.int ka), .val (.int kb), .val (.int kc), .val (.ref b4), .val (.int (1 : Int32))] [(.int (1 : Int32))])) (fun t k => ?_) ?_
      · show Steps p.tables e below (T17.setTop (mkF m 75 #[.val (.int p1), .val (.int p2), .val (.int p3), .val (.int ka), .val (.int kb), .val (.int kc), .val (.ref b4), .val (.int (1 : Int32))] [(.int r17)])) t
        refine XS.iload X17.here hx rfl (hb hby at_75) rfl ?_
        show Steps p.tables e below (T17.setTop (mkF m 77 #[.val (.int p1), .val (.int p2), .val (.int p3), .val (.int ka), .val (.int kb), .val (.int kc), .val (.ref b4), .val (.int (1 : Int32))] [(.int (1 : Int32)), (.int r17)])) t
        refine XS.icmpNo X17.here hx rfl (hb hby at_77) rfl (teq (hy.1 (Or.inr (Or.inl (fun z => hc52_12 (hr11.trans z)))) : r17 = (1 : Int32))).2 ?_
        show Steps p.tables e below (T17.setTop (mkF m 80 #[.val (.int p1), .val (.int p2), .val (.int p3), .val (.int ka), .val (.int kb), .val (.int kc), .val (.ref b4), .val (.int (1 : Int32))] [])) t
        refine XS.iconst X17.here hx rfl (hb hby at_80) ?_
        show Steps p.tables e below (T17.setTop (mkF m 81 #[.val (.int p1), .val (.int p2), .val (.int p3), .val (.int ka), .val (.int kb), .val (.int kc), .val (.ref b4), .val (.int (1 : Int32))] [(.int (1 : Int32))])) t
        refine XS.goto X17.here hx rfl (pc0 := 81) (pc' := 85) rfl (hb hby at_81) (by decide) (by decide) ?_
        exact k
      obtain ⟨fs, hr, hrun, hended, hW, hsame⟩ := X17.leave (v := some (.int (1 : Int32))) (fun h => by rw [Bd.returns] at h; cases h)
      refine ⟨_, _, ?_, hrun, hended, _, _, rfl, ?_, ⟨_, rfl⟩, hW, hsame.mono (by decide) (by decide)⟩
      · show Steps p.tables e below (T17.setTop (mkF m 85 #[.val (.int p1), .val (.int p2), .val (.int p3), .val (.int ka), .val (.int kb), .val (.int kc), .val (.ref b4), .val (.int (1 : Int32))] [(.int (1 : Int32))])) _
        exact retN X17 hx (t := .boolean) Bd.returns (by simp) (hb hby at_85) hr
      · show Q0 Z p1 p2 p3 h0 n0 _ T17.heap _
        rw [hh17]
        exact ⟨rfl, N17⟩
  · refine own_go (B := T9.setTop (mkF m 63 #[.val (.int p1), .val (.int p2), .val (.int p3), .val (.int ka), .val (.int kb), .val (.int kc), .val (.ref b4), .unset] [])) (fun t k => ?_) ?_
    · show Steps p.tables e below (T9.setTop (mkF m 44 #[.val (.int p1), .val (.int p2), .val (.int p3), .val (.int ka), .val (.int kb), .val (.int kc), .val (.ref b4), .unset] [(.int r9)])) t
      refine XS.ifYes X9.here hx rfl (pc0 := 44) (pc' := 63) rfl (hb hby at_44) rfl ((if0 _ _).trans (feq hc44_10).2) (by decide) (by decide) ?_
      exact k
    refine own_go (B := T9.setTop (mkF m 72 #[.val (.int p1), .val (.int p2), .val (.int p3), .val (.int ka), .val (.int kb), .val (.int kc), .val (.ref b4), .val (.int (1 : Int32))] [(.ref b4)])) (fun t k => ?_) ?_
    · show Steps p.tables e below (T9.setTop (mkF m 63 #[.val (.int p1), .val (.int p2), .val (.int p3), .val (.int ka), .val (.int kb), .val (.int kc), .val (.ref b4), .unset] [])) t
      refine XS.iconst X9.here hx rfl (hb hby at_63) ?_
      show Steps p.tables e below (T9.setTop (mkF m 64 #[.val (.int p1), .val (.int p2), .val (.int p3), .val (.int ka), .val (.int kb), .val (.int kc), .val (.ref b4), .unset] [(.int (1 : Int32))])) t
      refine XS.goto X9.here hx rfl (pc0 := 64) (pc' := 68) rfl (hb hby at_64) (by decide) (by decide) ?_
      show Steps p.tables e below (T9.setTop (mkF m 68 #[.val (.int p1), .val (.int p2), .val (.int p3), .val (.int ka), .val (.int kb), .val (.int kc), .val (.ref b4), .unset] [(.int (1 : Int32))])) t
      refine XS.istore X9.here hx rfl (hb hby at_68) rfl (l' := #[.val (.int p1), .val (.int p2), .val (.int p3), .val (.int ka), .val (.int kb), .val (.int kc), .val (.ref b4), .val (.int (1 : Int32))]) rfl ?_
      show Steps p.tables e below (T9.setTop (mkF m 70 #[.val (.int p1), .val (.int p2), .val (.int p3), .val (.int ka), .val (.int kb), .val (.int kc), .val (.ref b4), .val (.int (1 : Int32))] [])) t
      refine XS.aload X9.here hx rfl (hb hby at_70) rfl rfl ?_
      exact k
    obtain ⟨cq18, kq18, q18a, q18b, q18c⟩ := isOf hZ hh9 f8_0
    obtain ⟨_, _, ⟨T18, L18, k18, n18⟩, -, X18, ⟨Lc18, hQ18, l18, y18, z18⟩, st18⟩ := X9.virtualBack hx (y := (⟨"com/example/quorumline/quorumline/server/SeededFaults$Rates", "any", "()Z"⟩ : MethodName)) (z := (⟨"com/example/quorumline/quorumline/server/SeededFaults$Rates", "any", "()Z"⟩ : MethodName)) hown (mvT hZ (hw _ (List.mem_of_getElem? (i := 34) rfl))) (mvT hZ (hw _ (List.mem_of_getElem? (i := 35) rfl))) (notFace_of_selects (args := #[]) (mvT hZ (hw _ (List.mem_of_getElem? (i := 37) rfl)))) (mvT hZ (hw _ (List.mem_of_getElem? (i := 37) rfl))) (mvT hZ (hw _ (List.mem_of_getElem? (i := 36) rfl))) (by decide) (backOf (W := 0) (rm7 l Z a0 hw [] b4 (own_rate ka) (own_rate kb) (own_rate kc) T8.heap n0 (Nat.le_trans (Nat.le_trans Z0 E4.1) K8.1) G0_8 G1_8 G2_8) hZ (hw _ (List.mem_of_getElem? (i := 38) rfl)) (hw _ (List.mem_of_getElem? (i := 7) rfl)) (by decide) (by decide)) q18a q18c (g := (mkF m 72 #[.val (.int p1), .val (.int p2), .val (.int p3), .val (.int ka), .val (.int kb), .val (.int kc), .val (.ref b4), .val (.int (1 : Int32))] [(.ref b4)])) rfl (by rw [hml]; rfl) (Steps.refl _) (argsL := []) (rest := []) (lenOf pd_rm0_4 rfl) rfl (by show 2 * 0 + _ ≤ _; exact Nat.le_of_eq rfl) (hb hby at_72) (fun _ _ => ⟨rfl, hh9, (by decide : 2 + 0 ≤ _), (by decide : 6 + 0 ≤ _)⟩)
    dsimp only [Pt.U, Pt.locs, Pt.cells, Pt.slots] at X18 l18 y18 z18 st18 hQ18
    subst l18 y18 z18
    obtain ⟨r18, rfl, N18q, hh18, hr18⟩ := hQ18
    have N18 := Fr.app N9 N18q
    refine own_go (fun t k => st18.trans k) ?_
    have hy := own_any oa.2 ob.2 oc.2 hr18
    refine own_go (B := T18.setTop (mkF m 85 #[.val (.int p1), .val (.int p2), .val (.int p3), .val (.int ka), .val (.int kb), .val (.int kc), .val (.ref b4), .val (.int (1 : Int32))] [(.int (1 : Int32))])) (fun t k => ?_) ?_
    · show Steps p.tables e below (T18.setTop (mkF m 75 #[.val (.int p1), .val (.int p2), .val (.int p3), .val (.int ka), .val (.int kb), .val (.int kc), .val (.ref b4), .val (.int (1 : Int32))] [(.int r18)])) t
      refine XS.iload X18.here hx rfl (hb hby at_75) rfl ?_
      show Steps p.tables e below (T18.setTop (mkF m 77 #[.val (.int p1), .val (.int p2), .val (.int p3), .val (.int ka), .val (.int kb), .val (.int kc), .val (.ref b4), .val (.int (1 : Int32))] [(.int (1 : Int32)), (.int r18)])) t
      refine XS.icmpNo X18.here hx rfl (hb hby at_77) rfl (teq (hy.1 (Or.inl (fun z => hc44_10 (hr9.trans z))) : r18 = (1 : Int32))).2 ?_
      show Steps p.tables e below (T18.setTop (mkF m 80 #[.val (.int p1), .val (.int p2), .val (.int p3), .val (.int ka), .val (.int kb), .val (.int kc), .val (.ref b4), .val (.int (1 : Int32))] [])) t
      refine XS.iconst X18.here hx rfl (hb hby at_80) ?_
      show Steps p.tables e below (T18.setTop (mkF m 81 #[.val (.int p1), .val (.int p2), .val (.int p3), .val (.int ka), .val (.int kb), .val (.int kc), .val (.ref b4), .val (.int (1 : Int32))] [(.int (1 : Int32))])) t
      refine XS.goto X18.here hx rfl (pc0 := 81) (pc' := 85) rfl (hb hby at_81) (by decide) (by decide) ?_
      exact k
    obtain ⟨fs, hr, hrun, hended, hW, hsame⟩ := X18.leave (v := some (.int (1 : Int32))) (fun h => by rw [Bd.returns] at h; cases h)
    refine ⟨_, _, ?_, hrun, hended, _, _, rfl, ?_, ⟨_, rfl⟩, hW, hsame.mono (by decide) (by decide)⟩
    · show Steps p.tables e below (T18.setTop (mkF m 85 #[.val (.int p1), .val (.int p2), .val (.int p3), .val (.int ka), .val (.int kb), .val (.int kc), .val (.ref b4), .val (.int (1 : Int32))] [(.int (1 : Int32))])) _
      exact retN X18 hx (t := .boolean) Bd.returns (by simp) (hb hby at_85) hr
    · show Q0 Z p1 p2 p3 h0 n0 _ T18.heap _
      rw [hh18]
      exact ⟨rfl, N18⟩
set_option maxRecDepth 65536 in
set_option maxHeartbeats 40000000 in
theorem comes_1 {Post : Tables → Env → Array Value → State → Outcome → State → Prop} (hpost : ∀ tb e args s v u, (limb_1_1.after args s (.returned v) u = true ∧ limb_1_2.after args s (.returned v) u = true ∧ True) → FrameEnd s (.returned v) u (Jvm.fieldLocs frame_1_writes args s ++ Jvm.arrayLocs frame_1_arrays args s ++ Jvm.staticLocs frame_1_statics s) 16 128 → Post tb e args s (.returned v) u) :
    ArmFor flags0 classFile x code maxLocals ret World_1 tables_1 room_1 Calls_1 rest_1 Pre_1 Post := by
  intro l hfl _ _ p e ha hc hk s m args below hf hA hF happ hP
  obtain ⟨hcalls, hrest, hpre⟩ := hP
  obtain ⟨-, -, -, hnamed, -, -, -, hat⟩ := (Spec.applies_iff hf).mp happ
  obtain ⟨hg, hn⟩ := and_e (Cond.before_iff.mp (show (Jvm.Cond.and given_1 narrow_1).before args s = true from hpre))
  obtain ⟨gc, g0⟩ := and_e hg
  obtain ⟨a0, g1⟩ := and_e g0
  obtain ⟨a1, g2⟩ := and_e g1
  have a2 := g2
  obtain ⟨w0, w1, w2, rfl⟩ : ∃ w0 w1 w2 : Value, args = #[w0, w1, w2] := by
    have hs : args.size = 3 := by simpa [Cond.value, given_1] using gc
    obtain ⟨L⟩ := args
    match L, hs with
    | [w0, w1, w2], _ => exact ⟨w0, w1, w2, rfl⟩
  have hw := fun d (hd : d ∈ tables_1) => atoms_spec (ws := Jvm.Cond.code x code maxLocals ret :: tables_1) hat d (List.mem_cons_of_mem _ hd)
  have hfit : Fit s := fun {y c} hc i hi => by
    obtain ⟨ha, rfl⟩ := Array.getElem?_eq_some_iff.mp hc
    have q := List.all_eq_true.mp ((Array.all_eq_true_iff_forall_mem.mp hF) _ (Array.getElem_mem ha)) i (List.mem_range.mpr hi)
    simpa [Array.getElem?_eq_getElem hi] using q
  obtain ⟨i0, ei0⟩ := is_v a0
  obtain rfl : w0 = (.int i0) := Option.some.inj ei0
  obtain ⟨i1, ei1⟩ := is_v a1
  obtain rfl : w1 = (.int i1) := Option.some.inj ei1
  obtain ⟨i2, ei2⟩ := is_v a2
  obtain rfl : w2 = (.int i2) := Option.some.inj ei2
  obtain ⟨n, o, h1, h2, h3, _, L, rfl, ⟨rfl, N⟩, hq⟩ := rm0 l s _ hw tables_1 i0 i1 i2 s.heap s.heap.size (Nat.le_refl _) p e ha hc hk s m _ below hf ((Spec.applies_iff_loose hf).mp happ).1 ⟨rfl, State.Warmed39.refl s, rfl⟩ trivial
  refine ⟨n, _, h1, h2, h3, hpost _ _ _ _ _ _ ⟨Cond.after_iff.mpr rfl, Cond.after_iff.mpr (eq_i res_at (Term.int_eval (1)) rfl), trivial⟩ ⟨hq.1, hq.2.1, (hq.2.2.sift fun y hy => Or.inr (N y hy)).mono (by decide) (by decide)⟩⟩
theorem main_1_1 : Claimed_1_1 := comes_1 fun _ _ _ _ _ _ h hF => ⟨h.1, hF⟩
theorem main_1_2 : Claimed_1_2 := comes_1 fun _ _ _ _ _ _ h hF => ⟨h.2.1, hF⟩
end Jvm.Pilot.@@N@@
namespace Jvm.Pilot.@@N@@
open Jvm Jvm.ClassFile Sem Op Lib Jvm.Free Jvm.Stand Jvm.Pilot.@@N@@.Jvm.D
/-! MADE BY PROGRAM (witnessworld.py) out of the Statement's table words and the real class files: 12 classes; the members and pool entries that the words name. The judged class is class 1, her method 4. -/
namespace start1
open Jvm.ClassFile
def u (s : String) : CpInfo := .utf8 (stringToUtf16 s)
/-- a pool by its gaps: so many unusable entries, then the entry; so many at the end -/
def gap : Nat → List CpInfo → List CpInfo
  | 0, r => r
  | n + 1, r => .unusable :: gap n r
def poolList (es : List (Nat × CpInfo)) (last : Nat) : List CpInfo := es.foldr (fun e r => gap e.1 (e.2 :: r)) (gap last [])
def pool (es : List (Nat × CpInfo)) (last : Nat) : Array CpInfo := ⟨poolList es last⟩
def fileOf (pool : Array CpInfo) (this : Nat) (attrs : Array Attribute := #[]) (ms : Array MethodInfo := #[]) (fl : Nat := 33) (sup : Nat := 0) (ifs : Array Nat := #[]) (fds : Array FieldInfo := #[]) : ClassFile where
  minorVersion := 0
  majorVersion := 65
  constantPool := pool
  accessFlags := fl
  thisClass := this
  superClass := sup
  interfaces := ifs
  fields := fds
  methods := ms
  attributes := attrs
def plain (name : String) (sup : Option ClassId) : Class where
  name := name
  kind := .ordinary
  loader := none
  accessFlags := 33
  super := sup
  interfaces := #[]
  cf := none
  fields := #[]
  methods := #[]
  instanceTypes := #[]
  staticTypes := #[]
  resolved := #[]
  callSites := []
  init := .initialized
  statics := none
  mirror := none

def pool0 : Array CpInfo := pool [(5, u "<init>"), (0, u "()V"), (1, .class_ 10), (1, u "java/lang/Object")] 113

def k0c0 : Code := { maxStack := 0, maxLocals := 1, code := object_method_1_code, exceptionTable := #[], attributes := #[] }
def k0m0 : Method := { name := "<init>", desc := "()V", sig := { parameters := [], returnType := none }, accessFlags := 1, code := some k0c0 }
/-- java/lang/Object -/
def k0 : Class := { plain "java/lang/Object" none with
  accessFlags := 33
  interfaces := #[]
  cf := some (fileOf pool0 8 #[] #[{ accessFlags := 1, nameIndex := 5, descriptorIndex := 6, attributes := #[] }] 33 0 #[] #[])
  fields := #[]
  methods := #[k0m0]
  instanceTypes := #[]
  staticTypes := #[]
  resolved := Array.replicate 124 none
  statics := none }

def pool1 : Array CpInfo := pool [(2, .class_ 4), (1, u "java/lang/Object"), (0, u "<init>"), (0, u "()V"), (0, .integer 2147483647), (0, .double 9223372036854775808), (1, .double 4625196817309499392), (1, .methodref 13 14), (0, .class_ 15), (0, .nameAndType 16 17), (0, u "com/example/quorumline/quorumline/server/RatesAnyPinLaw"), (0, u "pick"), (0, u "(I)I"), (0, .class_ 19), (0, u "com/example/quorumline/quorumline/server/SeededFaults$Rates"), (0, .methodref 13 21), (0, .nameAndType 22 23), (0, u "rate"), (0, u "(I)D"), (0, .methodref 18 25), (0, .nameAndType 5 26), (0, u "(DDD)V"), (0, .methodref 13 28), (0, .nameAndType 29 30), (0, u "positive"), (0, u "(I)Z"), (0, .methodref 18 32), (0, .nameAndType 33 34), (0, u "any"), (0, u "()Z"), (3, u "law"), (0, u "(III)Z")] 6

def k1m0 : Method := { name := "<init>", desc := "()V", sig := { parameters := [], returnType := none }, accessFlags := 2, code := none }
def k1c1 : Code := { maxStack := 2, maxLocals := 1, code := method_2_code, exceptionTable := #[], attributes := #[] }
def k1m1 : Method := { name := "pick", desc := "(I)I", sig := { parameters := [.int], returnType := some .int }, accessFlags := 10, code := some k1c1 }
def k1c2 : Code := { maxStack := 4, maxLocals := 1, code := method_3_code, exceptionTable := #[], attributes := #[] }
def k1m2 : Method := { name := "rate", desc := "(I)D", sig := { parameters := [.int], returnType := some .double }, accessFlags := 10, code := some k1c2 }
def k1c3 : Code := { maxStack := 2, maxLocals := 1, code := method_4_code, exceptionTable := #[], attributes := #[] }
def k1m3 : Method := { name := "positive", desc := "(I)Z", sig := { parameters := [.int], returnType := some .boolean }, accessFlags := 10, code := some k1c3 }
def k1c4 : Code := { maxStack := 8, maxLocals := 8, code := code, exceptionTable := #[], attributes := #[] }
def k1m4 : Method := { name := "law", desc := "(III)Z", sig := { parameters := [.int, .int, .int], returnType := some .boolean }, accessFlags := 9, code := some k1c4 }
/-- com/example/quorumline/quorumline/server/RatesAnyPinLaw -/
def k1 : Class := { plain "com/example/quorumline/quorumline/server/RatesAnyPinLaw" (some 0) with
  accessFlags := 49
  interfaces := #[]
  cf := some (fileOf pool1 13 #[] #[{ accessFlags := 2, nameIndex := 5, descriptorIndex := 6, attributes := #[] }, { accessFlags := 10, nameIndex := 16, descriptorIndex := 17, attributes := #[] }, { accessFlags := 10, nameIndex := 22, descriptorIndex := 23, attributes := #[] }, { accessFlags := 10, nameIndex := 29, descriptorIndex := 30, attributes := #[] }, { accessFlags := 9, nameIndex := 38, descriptorIndex := 39, attributes := #[] }] 49 2 #[] #[])
  fields := #[]
  methods := #[k1m0, k1m1, k1m2, k1m3, k1m4]
  instanceTypes := #[]
  staticTypes := #[]
  resolved := Array.replicate 46 none
  statics := none }

def pool2 : Array CpInfo := pool [(1, .methodref 2 3), (0, .class_ 4), (0, .nameAndType 5 6), (0, u "java/lang/Object"), (0, u "<init>"), (0, u "()V"), (0, .class_ 8), (0, u "java/lang/Record")] 13

def k2c0 : Code := { maxStack := 1, maxLocals := 1, code := jdk_30_method_1_code, exceptionTable := #[], attributes := #[] }
def k2m0 : Method := { name := "<init>", desc := "()V", sig := { parameters := [], returnType := none }, accessFlags := 4, code := some k2c0 }
/-- java/lang/Record -/
def k2 : Class := { plain "java/lang/Record" (some 0) with
  accessFlags := 1057
  interfaces := #[]
  cf := some (fileOf pool2 7 #[] #[{ accessFlags := 4, nameIndex := 5, descriptorIndex := 6, attributes := #[] }] 1057 2 #[] #[])
  fields := #[]
  methods := #[k2m0]
  instanceTypes := #[]
  staticTypes := #[]
  resolved := Array.replicate 22 none
  statics := none }

def pool3 : Array CpInfo := pool [(1, .class_ 2), (0, u "com/example/quorumline/quorumline/server/SeededFaults"), (0, .methodref 4 5), (0, .class_ 6), (0, .nameAndType 7 8), (0, u "java/lang/Record"), (0, u "<init>"), (0, u "()V"), (0, .double 4602678819172646912), (10, .fieldref 21 22), (0, .class_ 23), (0, .nameAndType 24 25), (0, u "com/example/quorumline/quorumline/server/SeededFaults$Rates"), (0, u "loss"), (0, u "D"), (0, .fieldref 21 27), (0, .nameAndType 28 25), (0, u "duplicate"), (0, .fieldref 21 30), (0, .nameAndType 31 25), (0, u "reorder"), (14, u "(DDD)V"), (2, u "NONE"), (0, u "Lcom/example/quorumline/quorumline/server/SeededFaults$Rates;"), (6, u "any"), (0, u "()Z")] 37

def k3c0 : Code := { maxStack := 5, maxLocals := 12, code := prog_132_method_1_code, exceptionTable := #[], attributes := #[] }
def k3m0 : Method := { name := "<init>", desc := "(DDD)V", sig := { parameters := [.double, .double, .double], returnType := none }, accessFlags := 1, code := some k3c0 }
def k3c1 : Code := { maxStack := 4, maxLocals := 1, code := prog_132_method_2_code, exceptionTable := #[], attributes := #[] }
def k3m1 : Method := { name := "any", desc := "()Z", sig := { parameters := [], returnType := some .boolean }, accessFlags := 1, code := some k3c1 }
/-- com/example/quorumline/quorumline/server/SeededFaults$Rates -/
def k3 : Class := { plain "com/example/quorumline/quorumline/server/SeededFaults$Rates" (some 2) with
  accessFlags := 49
  interfaces := #[]
  cf := some (fileOf pool3 21 #[.nestHost 1] #[{ accessFlags := 1, nameIndex := 7, descriptorIndex := 46, attributes := #[] }, { accessFlags := 1, nameIndex := 57, descriptorIndex := 58, attributes := #[] }] 49 4 #[] #[{ accessFlags := 18, nameIndex := 24, descriptorIndex := 25, attributes := #[] }, { accessFlags := 18, nameIndex := 28, descriptorIndex := 25, attributes := #[] }, { accessFlags := 18, nameIndex := 31, descriptorIndex := 25, attributes := #[] }, { accessFlags := 25, nameIndex := 49, descriptorIndex := 50, attributes := #[] }])
  fields := #[{ name := "loss", type := .double, accessFlags := 18, slot := 0, constantValue := 0 }, { name := "duplicate", type := .double, accessFlags := 18, slot := 1, constantValue := 0 }, { name := "reorder", type := .double, accessFlags := 18, slot := 2, constantValue := 0 }, { name := "NONE", type := (.object "com/example/quorumline/quorumline/server/SeededFaults$Rates"), accessFlags := 25, slot := 0, constantValue := 0 }]
  methods := #[k3m0, k3m1]
  instanceTypes := #[.double, .double, .double]
  staticTypes := #[(.object "com/example/quorumline/quorumline/server/SeededFaults$Rates")]
  resolved := Array.replicate 96 none
  statics := none }

def pool4 : Array CpInfo := pool [(1, u "java/lang/Cloneable"), (0, .class_ 1), (0, u "java/lang/Object"), (0, .class_ 3)] 3

/-- java/lang/Cloneable -/
def k4 : Class := { plain "java/lang/Cloneable" (some 0) with
  accessFlags := 1537
  interfaces := #[]
  cf := some (fileOf pool4 2 #[] #[] 1537 4 #[] #[])
  fields := #[]
  methods := #[]
  instanceTypes := #[]
  staticTypes := #[]
  resolved := Array.replicate 8 none
  statics := none }

def pool5 : Array CpInfo := pool [(1, u "java/io/Serializable"), (0, .class_ 1), (0, u "java/lang/Object"), (0, .class_ 3)] 3

/-- java/io/Serializable -/
def k5 : Class := { plain "java/io/Serializable" (some 0) with
  accessFlags := 1537
  interfaces := #[]
  cf := some (fileOf pool5 2 #[] #[] 1537 4 #[] #[])
  fields := #[]
  methods := #[]
  instanceTypes := #[]
  staticTypes := #[]
  resolved := Array.replicate 8 none
  statics := none }

/-- the primitive byte -/
def k6 : Class := { plain "byte" none with kind := .primitive 'B', accessFlags := 0x411 }
/-- [B -/
def k7 : Class := { plain "[B" (some 0) with kind := .array 6 .byte, interfaces := #[4, 5], accessFlags := 1041 }

/-- the primitive double -/
def k8 : Class := { plain "double" none with kind := .primitive 'D', accessFlags := 0x411 }
/-- [D -/
def k9 : Class := { plain "[D" (some 0) with kind := .array 8 .double, interfaces := #[4, 5], accessFlags := 1041 }

/-- the primitive int -/
def k10 : Class := { plain "int" none with kind := .primitive 'I', accessFlags := 0x411 }
/-- [I -/
def k11 : Class := { plain "[I" (some 0) with kind := .array 10 .int, interfaces := #[4, 5], accessFlags := 1041 }

def heap : Heap := #[]
def classes : Array Class := #[k0, k1, k2, k3, k4, k5, k6, k7, k8, k9, k10, k11]
def interned : List (Array UInt16 × Addr) := []
def slotsUsed : Nat := 0
def theMethod : MethodId := ⟨1, 4⟩
def args0 : Array Value := #[.int 5, .int 7, .int 1]
def aboutOver (below : List Frame) : State where
  vm := { classes := classes, interned := interned.toArray }
  heap := heap
  slotsUsed := slotsUsed
  threads := #[{ frames := .invoking theMethod args0 :: below }]
def below0 : List Frame := [.native { method := ⟨0, 0⟩, args := #[] }]
def about1 : State := aboutOver below0
def p0 : Program := .bare "" "" ""
def e0 : Env := launch0.env 0 0 0
theorem w_frames : about1.frames = Frame.invoking theMethod args0 :: below0 := rfl
set_option maxRecDepth 65536 in
theorem w_args : argsFit about1.vm theMethod args0 = true := by decide +kernel
set_option maxRecDepth 65536 in
theorem w_heap : heapFits about1 = true := by decide +kernel
set_option maxRecDepth 65536 in
theorem w_runnable : about1.curStatus? = some .runnable := by decide +kernel
set_option maxRecDepth 65536 in
theorem w_alone : about1.alone = true := by decide +kernel
set_option maxRecDepth 65536 in
theorem w_named : about1.methodNamed? x = some theMethod := by decide +kernel
set_option maxRecDepth 65536 in
theorem w_hears : about1.hears theMethod below0 = true := by decide +kernel
set_option maxRecDepth 65536 in
theorem w_ripe : about1.ripe theMethod args0 below0 = true := by decide +kernel
theorem w_running : about1.status = .running := rfl
set_option maxRecDepth 65536 in
theorem w_room : about1.hasRoom e0.platform room_1 = true :=
  launch0.hasRoom_least _ room_1 (by decide +kernel) (by decide +kernel) (by decide +kernel) (by decide +kernel) (by decide +kernel) (by decide +kernel)
theorem allAtoms_all (ts : List Jvm.Cond) (a : Array Jvm.Value) (st : Jvm.State) : (allAtoms ts).before a st = ts.all (fun c => c.before a st) := by
  induction ts with
  | nil => rfl
  | cons c t ih =>
    show (Jvm.Cond.and c (allAtoms t)).before a st = _
    rw [Jvm.Cond.before_and, ih, List.all_cons]
def words1 : List Jvm.Cond := Jvm.Cond.code x code maxLocals ret :: tables_1
/-- a 'code' word, met by the world's own term for the bytes: nothing is compared byte by byte -/
theorem code_word {y : MethodName} {bytes : ByteArray} {mx : Nat} {rt : Option FieldType} {a : Array Value} {s : State} {m : MethodId} {meth : Method} {c : Code} (h1 : s.methodNamed? y = some m) (h2 : s.vm.method? m = some meth) (h3 : meth.code = some c) (h4 : c.code = bytes)
    (h5 : (c.maxLocals == mx && c.exceptionTable.isEmpty && decide (c.maxStack ≤ mostOperands) && decide (meth.sig.returnType = rt) && !meth.locks && decide (parseMethodDescriptor y.desc = some meth.sig)) = true) : (Jvm.Cond.code y bytes mx rt).before a s = true := by
  simp only [Bool.and_eq_true, beq_iff_eq, Bool.not_eq_true', decide_eq_true_eq] at h5
  obtain ⟨⟨⟨⟨⟨g1, g2⟩, g3⟩, g4⟩, g5⟩, g6⟩ := h5
  simp [Cond.before, Cond.holds, Cond.value, h1, h2, h3, h4, g1, g2, g3, g4, g5, g6]
def isCode : Jvm.Cond → Bool
  | .code _ _ _ _ => true
  | _ => false
theorem all_split {L : List Jvm.Cond} {P : Jvm.Cond → Bool} (h1 : L.all (fun c => isCode c || P c) = true) (h2 : ∀ c ∈ L.filter isCode, P c = true) : L.all P = true := by
  refine List.all_eq_true.mpr fun c hc => ?_
  have h := List.all_eq_true.mp h1 c hc
  rcases Bool.eq_false_or_eq_true (isCode c) with hi | hi
  · exact h2 c (List.mem_filter.mpr ⟨hc, hi⟩)
  · simpa [hi] using h
set_option maxRecDepth 65536 in
theorem w_c0 : (Jvm.Cond.code x code maxLocals ret).before args0 about1 = true := code_word (m := ⟨1, 4⟩) (meth := k1m4) (c := k1c4) (by decide +kernel) rfl rfl rfl (by decide +kernel)
set_option maxRecDepth 65536 in
theorem w_c1 : (Jvm.Cond.code ({ cls := "com/example/quorumline/quorumline/server/RatesAnyPinLaw", name := "pick", desc := "(I)I" } : Jvm.MethodName) method_2_code (1 : Nat) (Option.some Jvm.ClassFile.FieldType.int)).before args0 about1 = true := code_word (m := ⟨1, 1⟩) (meth := k1m1) (c := k1c1) (by decide +kernel) rfl rfl rfl (by decide +kernel)
set_option maxRecDepth 65536 in
theorem w_c2 : (Jvm.Cond.code ({ cls := "com/example/quorumline/quorumline/server/RatesAnyPinLaw", name := "rate", desc := "(I)D" } : Jvm.MethodName) method_3_code (1 : Nat) (Option.some Jvm.ClassFile.FieldType.double)).before args0 about1 = true := code_word (m := ⟨1, 2⟩) (meth := k1m2) (c := k1c2) (by decide +kernel) rfl rfl rfl (by decide +kernel)
set_option maxRecDepth 65536 in
theorem w_c3 : (Jvm.Cond.code ({ cls := "com/example/quorumline/quorumline/server/SeededFaults$Rates", name := "<init>", desc := "(DDD)V" } : Jvm.MethodName) prog_132_method_1_code (12 : Nat) (Option.none : Option Jvm.ClassFile.FieldType)).before args0 about1 = true := code_word (m := ⟨3, 0⟩) (meth := k3m0) (c := k3c0) (by decide +kernel) rfl rfl rfl (by decide +kernel)
set_option maxRecDepth 65536 in
theorem w_c4 : (Jvm.Cond.code ({ cls := "java/lang/Record", name := "<init>", desc := "()V" } : Jvm.MethodName) jdk_30_method_1_code (1 : Nat) (Option.none : Option Jvm.ClassFile.FieldType)).before args0 about1 = true := code_word (m := ⟨2, 0⟩) (meth := k2m0) (c := k2c0) (by decide +kernel) rfl rfl rfl (by decide +kernel)
set_option maxRecDepth 65536 in
theorem w_c5 : (Jvm.Cond.code ({ cls := "java/lang/Object", name := "<init>", desc := "()V" } : Jvm.MethodName) object_method_1_code (1 : Nat) (Option.none : Option Jvm.ClassFile.FieldType)).before args0 about1 = true := code_word (m := ⟨0, 0⟩) (meth := k0m0) (c := k0c0) (by decide +kernel) rfl rfl rfl (by decide +kernel)
set_option maxRecDepth 65536 in
theorem w_c6 : (Jvm.Cond.code ({ cls := "com/example/quorumline/quorumline/server/RatesAnyPinLaw", name := "positive", desc := "(I)Z" } : Jvm.MethodName) method_4_code (1 : Nat) (Option.some Jvm.ClassFile.FieldType.boolean)).before args0 about1 = true := code_word (m := ⟨1, 3⟩) (meth := k1m3) (c := k1c3) (by decide +kernel) rfl rfl rfl (by decide +kernel)
set_option maxRecDepth 65536 in
theorem w_c7 : (Jvm.Cond.code ({ cls := "com/example/quorumline/quorumline/server/SeededFaults$Rates", name := "any", desc := "()Z" } : Jvm.MethodName) prog_132_method_2_code (1 : Nat) (Option.some Jvm.ClassFile.FieldType.boolean)).before args0 about1 = true := code_word (m := ⟨3, 1⟩) (meth := k3m1) (c := k3c1) (by decide +kernel) rfl rfl rfl (by decide +kernel)
def codes1 : List Jvm.Cond := [Jvm.Cond.code x code maxLocals ret, Jvm.Cond.code ({ cls := "com/example/quorumline/quorumline/server/RatesAnyPinLaw", name := "pick", desc := "(I)I" } : Jvm.MethodName) method_2_code (1 : Nat) (Option.some Jvm.ClassFile.FieldType.int), Jvm.Cond.code ({ cls := "com/example/quorumline/quorumline/server/RatesAnyPinLaw", name := "rate", desc := "(I)D" } : Jvm.MethodName) method_3_code (1 : Nat) (Option.some Jvm.ClassFile.FieldType.double), Jvm.Cond.code ({ cls := "com/example/quorumline/quorumline/server/SeededFaults$Rates", name := "<init>", desc := "(DDD)V" } : Jvm.MethodName) prog_132_method_1_code (12 : Nat) (Option.none : Option Jvm.ClassFile.FieldType), Jvm.Cond.code ({ cls := "java/lang/Record", name := "<init>", desc := "()V" } : Jvm.MethodName) jdk_30_method_1_code (1 : Nat) (Option.none : Option Jvm.ClassFile.FieldType), Jvm.Cond.code ({ cls := "java/lang/Object", name := "<init>", desc := "()V" } : Jvm.MethodName) object_method_1_code (1 : Nat) (Option.none : Option Jvm.ClassFile.FieldType), Jvm.Cond.code ({ cls := "com/example/quorumline/quorumline/server/RatesAnyPinLaw", name := "positive", desc := "(I)Z" } : Jvm.MethodName) method_4_code (1 : Nat) (Option.some Jvm.ClassFile.FieldType.boolean), Jvm.Cond.code ({ cls := "com/example/quorumline/quorumline/server/SeededFaults$Rates", name := "any", desc := "()Z" } : Jvm.MethodName) prog_132_method_2_code (1 : Nat) (Option.some Jvm.ClassFile.FieldType.boolean)]
set_option maxRecDepth 65536 in
theorem codes_eq : words1.filter isCode = codes1 := rfl
theorem w_codes : ∀ c ∈ words1.filter isCode, c.before args0 about1 = true := by
  rw [codes_eq]
  intro c hc
  simp only [codes1, List.mem_cons, List.not_mem_nil, or_false] at hc
  rcases hc with rfl | rfl | rfl | rfl | rfl | rfl | rfl | rfl
  · exact w_c0
  · exact w_c1
  · exact w_c2
  · exact w_c3
  · exact w_c4
  · exact w_c5
  · exact w_c6
  · exact w_c7
set_option maxRecDepth 65536 in
theorem w_t1 : (words1.take 24).all (fun c => isCode c || c.before args0 about1) = true := by decide +kernel
set_option maxRecDepth 65536 in
theorem w_t2 : (words1.drop 24).all (fun c => isCode c || c.before args0 about1) = true := by decide +kernel
theorem w_tables : (allAtoms (Jvm.Cond.code x code maxLocals ret :: tables_1)).before args0 about1 = true := by
  rw [allAtoms_all]
  show words1.all (fun c => c.before args0 about1) = true
  refine all_split ?_ w_codes
  rw [← List.take_append_drop 24 words1, List.all_append, w_t1, w_t2]
  rfl
set_option maxRecDepth 65536 in
theorem w_case : (Jvm.Cond.and given_1 narrow_1).before args0 about1 = true := by decide +kernel
theorem w_applies : (headSpec (Jvm.Cond.code x code maxLocals ret :: tables_1) room_1).applies x e0.platform about1 = true :=
  (Spec.applies_iff w_frames).mpr ⟨w_running, w_runnable, w_alone, w_named, w_hears, w_ripe, w_room, w_tables⟩
theorem atStart : AtStart classFile x code maxLocals ret World_1 tables_1 room_1 Calls_1 rest_1 Pre_1 launch0 p0 e0 about1 theMethod args0 below0 :=
  ⟨lists_1, trivial, launch0.admits_env _ _ _, launch0.least_env, fairChoices_fair.cas, fairChoices_fair.clock, w_frames, w_args, w_heap, w_applies, trivial, trivial, w_case⟩
end start1
theorem witness_1 : WitnessClaimed_1 := ⟨start1.p0, start1.e0, start1.about1, start1.theMethod, start1.args0, start1.below0, start1.atStart⟩
end Jvm.Pilot.@@N@@
